import PyProof.Rows.All
import Wide.All
import OpenK.AllK
import Wide.FinOn
import Lean
import PySem.Challenge.RW_wb0107_02
set_option maxRecDepth 100000
set_option Elab.async false
set_option linter.all false
namespace Mine
open And renaming intro->Gv,left->jA
open Array renaming all_eq_true_iff_forall_mem->aen,any_toList->aeo,append_assoc->uE,ext_getElem?->aep,getD->aeq,mem_toList_iff->aer,perm_iff_toList_perm->aes,toList_append->aet,toList_inj->aeu
open Bool renaming and_comm->aev,and_eq_true->bY,and_false->Gw,and_self->OQ,and_true->aew,eq_iff_iff->gQ,false->av,false_and->aex,false_eq_true->j8,false_ne_true->xE,false_or->aey,noConfusion->aez,not_eq_true->r',not_eq_true'->ew,not_false->OR,not_true->Bf,or_eq_false_iff->aeA,or_eq_true->mu,or_eq_true_iff->OS,or_false->Gx,or_true->Bg,true->ah,true_and->Bh
open Classical renaming byContradiction->sa,propDecidable->aeB
open Eq renaming symm->i',trans->Gy
open Exists renaming imp->aeC
open ForIn renaming forIn->jB
open ForInStep renaming yield->hW
open Inhabited renaming default->ie
open Int renaming add_assoc->uF,add_comm->uG,add_emod->sb,add_left_comm->OT,add_mul->Gz,add_mul_emod_self_left->OU,add_nonneg->OV,add_sub_cancel->aeD,add_zero->qz,ediv_nonneg->aeE,emod_eq_of_lt->xF,emod_lt_of_pos->GA,emod_nonneg->sd,fdiv_eq_ediv_of_nonneg->Bi,fmod->OW,fmod_eq_emod_of_nonneg->Bj,le_antisymm->aeF,le_of_eq->GB,le_of_lt->OX,le_sub_one_of_lt->OY,le_trans->j9,lt_of_le_of_lt->lA,lt_trans->GC,mul_add->GD,mul_assoc->pv,mul_comm->uH,mul_emod->pw,mul_le_mul_of_nonneg_left->aeG,mul_left_comm->OZ,mul_neg->Bk,mul_one->oe,mul_pow->O0,mul_sub->O1,mul_zero->xG,natAbs_natCast->GF,natAbs_of_nonneg->aeH,natCast_add->se,natCast_ediv->Bl,natCast_emod->O2,natCast_mul->Bm,natCast_nonneg->fR,natCast_pos->O3,natCast_pow->mv,natCast_sub->aeI,neg_mul->GG,neg_neg->aeJ,not_le->GH,not_lt->ja,ofNat_le->gR,ofNat_lt->lB,ofNat_sub->uJ,one_mul->sf,one_pow->aeK,pow_add->Bn,pow_mul->GI,pow_succ->nc,pow_zero->sg,sub_add_cancel->O4,sub_emod->O5,sub_le_self->aeL,sub_mul->aeM,sub_pos_of_lt->aeN,toNat_le->O6,toNat_lt->xH,toNat_natCast->sh,toNat_of_nonneg->og,zero_add->qA,zero_mul->O7,zero_sub->aeO
open Int.ofNat renaming inj->uI
open LawfulBEq renaming eq_of_beq->bF
open LawfulMonad renaming bind_assoc->uK,pure_bind->uL
open List renaming all_cons->O8,all_eq_true->bG,any_cons->O9,any_eq_true->xI,append_assoc->lC,append_nil->qB,cons->GJ,cons_append->GK,contains_cons->aeR,contains_eq_mem->hA,contains_iff_mem->fy,countP_cons->aeS,count_append->aeT,count_cons->nd,count_le_length->O_,count_singleton->aeU,drop_drop->aeV,drop_eq_getElem_cons->aeW,drop_zero->Bo,eq_of_mem_replicate->O',ext_getElem->aeX,ext_getElem?->Pa,filterMap_cons->GL,filter_append->Pb,filter_congr->si,filter_cons->iM,filter_eq_nil_iff->Pc,filter_eq_self->xJ,filter_filter->Pd,filter_nil->Pe,find?_cons->aeY,flatMap->aeZ,flatMap_append->Pf,flatMap_cons->px,flatMap_map->ae0,flatMap_nil->Pg,flatten_cons->uM,foldl_append->Bp,foldr_cons->Ph,forIn_cons->sj,forIn_nil->ae1,forall_mem_cons->ae2,getD_eq_getElem?_getD->j_,getElem?_eq_getElem->hb,getElem?_eq_none->xK,getElem?_eq_some_iff->qC,getElem?_map->jC,getElem?_mapIdx->Bq,getElem?_range->xM,getElem?_toArray->oh,getElem_cons_succ->ae3,getElem_inj->Pj,getElem_map->Br,getElem_mem->kP,getElem_of_mem->Pk,getElem_range->Bs,getLast_eq_getElem->ae4,isEmpty_iff->pz,length->sk,length_append->gF,length_cons->gG,length_eq_zero_iff->Pl,length_eraseIdx_of_lt->GN,length_filterMap_le->Pm,length_filter_le->mw,length_filter_lt_length_iff_exists->ae5,length_map->bZ,length_range->f9,length_replicate->xN,length_reverse->GO,length_singleton->Pn,lookup_append->uN,lookup_cons->ey,lookup_cons_self->ae6,map->Bt,map_append->ig,map_congr_left->jb,map_cons->c8,map_flatMap->Po,map_fst_zip->GP,map_map->dG,map_reverse->ae7,mem_append->jD,mem_append_left->mx,mem_append_right->my,mem_cons->c9,mem_cons_of_mem->dt,mem_cons_self->dA,mem_filter->dP,mem_filterMap->ae8,mem_flatMap->Bu,mem_map->ez,mem_map_of_mem->lD,mem_range->bl,mem_reverse->uO,mem_singleton->c_,mem_toArray->GQ,nil_append->GR,nodup_append->xO,nodup_cons->uP,nodup_nil->Bv,nodup_range->Bw,not_mem_nil->lE,pairwise_cons->GS,push_toArray->ae9,range->aH,range_add->Pp,range_succ->sl,range_succ_eq_map->ae_,replicate->dw,replicate_succ->qD,reverse_append->GU,reverse_cons->Bx,reverse_perm->GV,size_toArray->sm,sum_cons->j',take_of_length_le->Pq,toArray->xP,zipIdx_append->ae',zip_cons_cons->By
open List.Pairwise renaming cons->ag5,imp_of_mem->ag6,nil->aeP
open List.Perm renaming refl->aeQ
open Nat renaming add_add_add_comm->Pr,add_assoc->jE,add_comm->e6,add_le_add->ka,add_le_add_left->hB,add_le_add_right->qE,add_left_comm->afa,add_lt_add_left->xQ,add_lt_add_of_lt_of_le->afb,add_lt_add_right->Pt,add_mod->GW,add_mul->GX,add_mul_div_left->GY,add_mul_mod_self_left->Pu,add_right_comm->e7,add_sub_add_right->Pw,add_sub_assoc->Bz,add_sub_cancel'->qF,add_sub_cancel_left->so,add_sub_of_le->afc,add_zero->afd,beq->nf,ble->bI,ble_eq->gH,ble_eq_true_of_le->pA,blt->ng,blt_eq->oi,div_add_mod->GZ,div_div_eq_div_mul->BA,div_eq_of_lt->uQ,div_le_iff_le_mul_add_pred->afe,div_le_self->aff,div_one->afg,eq_of_beq_eq_true->Px,eq_of_testBit_eq->afh,eq_zero_or_pos->afi,exists_eq_add_of_le->Py,le_add_left->cy,le_add_right->cv,le_antisymm->nh,le_max_left->Pz,le_max_right->afj,le_of_ble_eq_true->afk,le_of_eq->bQ,le_of_lt->d_,le_of_lt_succ->ni,le_of_not_lt->nj,le_of_succ_le->G0,le_refl->cz,le_sub_of_add_le->PA,le_succ->pB,le_total->afl,le_trans->ao,le_zero->G1,log2_lt->G2,lt_add_of_pos_right->xR,lt_asymm->afm,lt_irrefl->qG,lt_of_le_of_lt->b4,lt_of_le_of_ne->sq,lt_of_lt_of_eq->kb,lt_of_lt_of_le->cq,lt_of_succ_lt->G3,lt_of_succ_lt_succ->BB,lt_or_eq_of_le->afn,lt_or_ge->G4,lt_succ_of_le->hC,lt_succ_of_lt->xS,lt_succ_self->fS,lt_trans->jc,lt_trichotomy->afo,min_eq_left->afp,min_self->afq,mod_add_mod->afr,mod_eq_of_lt->qH,mod_lt->f_,mod_two_eq_zero_or_one->afs,mul_add->uR,mul_add_div->aft,mul_assoc->PB,mul_comm->qI,mul_le_mul->jF,mul_le_mul_left->iN,mul_le_mul_right->qJ,mul_mod->afu,mul_one->afv,mul_succ->uS,mul_two->xT,mul_zero->BC,ne_of_gt->ih,ne_of_lt->f',not_le->PC,not_lt->qK,not_lt_zero->afw,not_succ_le_self->G5,one_mul->afx,pow_add->pC,pow_le_pow_right->fp,pow_lt_pow_right->afy,pow_pos->BD,pow_succ->xU,pow_zero->afz,shiftRight_eq_div_pow->afA,strongRecOn->afB,sub_add_cancel->oj,sub_add_sub_cancel->G6,sub_le->fz,sub_le_sub_left->PD,sub_lt->uT,sub_pos_of_lt->PE,sub_self->afC,sub_sub_self->afD,sub_zero->PF,succ_le_of_lt->G7,succ_le_succ->gS,succ_mul->BE,succ_ne_self->afE,succ_ne_zero->afF,succ_pos->BF,succ_sub->G8,testBit_lt_two_pow->G9,testBit_two_pow_sub_one->afG,two_mul->afH,two_pow_pos->nk,zero_add->ij,zero_le->cO,zero_lt_of_lt->afI,zero_testBit->PG
open Ne renaming symm->nq
open Option renaming bind_eq_some_iff->mz,bind_some->a3,elim->BG,getD_some->G_,isNone_iff_eq_none->afJ,isSome_iff_exists->qL,map_eq_some_iff->xV,map_some->kc,none->ai,some->I
open Option.some renaming inj->PH,injEq->BH
open Ordering renaming eq->qM,gt->G',lt->om
open PUnit renaming unit->fq
open Pure renaming pure->bq
open PyProof.Rows renaming Attribute_any_->afK,bitXor_and->ag7,get?_update_seq->afL,listUpdate_at->PI,seqEpoch_at->PJ,seqObj->hD
open PySem renaming Addr->aF,Arguments->PK,Around->ef,BoolOp->uU,CmpOp->su,Comprehension->mA,Const->Hb,DictEntry->ff,Env->kQ,Expr->aq,Flow->nt,FuncData->x2,Heap->cP,IntMulOk->PX,Keyword->Hh,NameKind->pD,NoneBooked->uY,Obj->cQ,Operator->iP,OsState->ke,Params->bL,Pos->a8,Program->sv,PyData->BJ,Result->oq,Scope->gW,Sem->cA,Shared->aB,Stmt->aP,Str->au,Thread->Hm,Value->ar,World->ba,annTrees->P_,argBest->x6,arm_allTrue_cons->agz,arm_eval_BinOp->P',arm_eval_Compare->agA,arm_eval_List->Qa,arm_isTrue_Compare->agB,assign->hE,assignAll->Qb,assignEach->Ht,assignInOrder->u2,assign_Name->Qc,backTo->jd,backToKw->ou,behindInMarks->nu,binaryOp->eW,bindArgs->BN,bindName->ov,bitsLine->Qd,cLine->u3,call->fu,callEnvC->dX,callMarked->BO,callWith->hc,call_meets->u4,callerA->BP,cellsFrom->nv,closureFor->x7,codeAny->fU,codeAny_of_tree->Hu,compPost->Hv,compareOp->sJ,comprehension->Hw,concat_meets->Qe,constantsAlone->Qf,contains->Qg,denote->Hx,dictDisplay->BQ,dictEntries->BR,dictEpoch->Hy,dictPut->Hz,dictSet->x8,eval->cx,evalArgs->Qh,evalEach->sL,evalEachOpt->HA,evalOpt->BS,exec->dY,exec_Assign_Name->HB,exec_Assign_Name_used->agC,exec_Assign_arm->agD,execs->ep,fillsInplaceSlot->agE,foldedForSure->Qi,foldedSetIterable->Qj,getAttr->x9,getItem->qR,getMethod_builtin->agF,holding->gr,importedModules->agG,intKind->ow,interactive->nx,isExactStrKey->u5,isInstance->Qk,isSubtype->Ql,keeperOf->qS,keywordEach->ox,letOwnedTupleGo->u6,loadPart->Qm,mainGlobals->x_,markedBehindIn->agI,markedEach->Qn,methodCallForm->Qo,mkInt->HC,mkText->sM,model->aQ,newFunctionEnv->agJ,newList->HD,noFill_tuple_add->Qp,noteFrame->HE,nsFind->ir,operate->x',pairTrees_cons_walk->agK,placesWithHash->agL,point->u7,pushCells_keeps->agM,pyIter->ya,pyNext->sO,qualnameIn->Qq,relabel->BU,richCompare_gives->agN,rule->HG,run->eI,seqIndex?->qT,seq_tuple_add->Qr,sizeLine->u9,sizeLine_eq->u_,sliceBounds->kf,slicePick->Qs,sliceRange->yb,slot_dict_contains->Qt,slot_dict_getitem->Qu,slot_list_setitem->agO,specialOf->Qv,standAt->gs,starEach->hg,storeName->yc,strIterType->BV,subDict->HH,swappedStores->sP,swapsWith->mC,sysModules->HI,testChain->Qw,theTreesLotGoes->Qx,treeTable->hh,truthy->yd,typeIs_float->HJ,typeIs_int->Qy,typeIs_str->HK,typeLookup->qU,unaryOp->HL,unsupported->BW,updateDictKeys->agP,valueOrNone->BX,wpAny->aL,wpAny_AugAssign_Name->Qz,wpAny_Call_method->ye,wpAny_Expr_any->HM,wpAny_For->QA,wpAny_If->HN,wpAny_Name->BY,wpAny_Return_none->agQ,wpAny_Return_some->BZ,wpAny_askSetting->QB,wpAny_bind->aA,wpAny_call->B0,wpAny_callSpecial?_slot->agR,wpAny_call_entry->HO,wpAny_dictEntries->agS,wpAny_dictEpoch->agT,wpAny_eqBool_int->agU,wpAny_execs_cons->gX,wpAny_execs_nil->pF,wpAny_holding->du,wpAny_ite->yf,wpAny_loadPart->agV,wpAny_mkText->u',wpAny_mono->fh,wpAny_newList->yg,wpAny_newObj_type->QC,wpAny_newTuple->agW,wpAny_noted->QD,wpAny_of_eq->QE,wpAny_point->sQ,wpAny_pure->a',wpAny_pyIter_enum->agX,wpAny_pyIter_tuple->QF,wpAny_pyIter_zip->agY,wpAny_rule->va,wpAny_sequenceKey->agZ,wpAny_sharingNotTold_none->ag0,wpAny_specialOf->ag1,wpAny_standAt->dT,wpAny_truthy_bool->QG,wpAny_with_toks->lG
open PySem.AutoFloatG4 renaming float___gt___float_float_0->ag8
open PySem.AutoFloatG5 renaming float___lt___float_float_0->ag9
open PySem.AutoFloatOps renaming eq_0->afM,le_0->ag_,lt_0->ag',mod_1->aha,ne_0->ahb,truediv_1->ahc,truediv_fi_2->ahd
open PySem.Builtin renaming bitAnd->xW,bitNot->sr,bitOr->afN,bitXor->PO,divisionGoesByPylong->nr
open PySem.Builtin.Dict renaming pendingKey?->ahe
open PySem.Builtin.Int renaming intBits->dn,intTooBig->uV
open PySem.Builtin.List renaming listFitsIndex->ahf,listSubscript?->ahg,listTooLong->PL
open PySem.Builtin.Range renaming rangeFitsLong->ahh,rangeSize->kd,small->PM
open PySem.Builtin.Str renaming glued->ahi,occurrences->Ha,tooLong->PN
open PySem.Calls renaming evalArgs_plain->BI,spliced_cons->xX
open PySem.Challenge renaming pw_wb0107_02->ahj,rw_wb0107_02->ahk
open PySem.Data renaming fields->lF,plain->afO,seq->Hc
open PySem.Env renaming kindOf->PQ
open PySem.Expr renaming Name->PR
open PySem.Expr.Attribute renaming elim->afP
open PySem.Expr.BinOp renaming elim->afQ
open PySem.Expr.BoolOp renaming elim->afR
open PySem.Expr.Call renaming elim->afS
open PySem.Expr.Compare renaming elim->afT
open PySem.Expr.Constant renaming elim->afU
open PySem.Expr.Dict renaming elim->ahl
open PySem.Expr.IfExp renaming elim->afV
open PySem.Expr.List renaming elim->afW
open PySem.Expr.ListComp renaming elim->afX
open PySem.Expr.Name renaming elim->afY
open PySem.Expr.Slice renaming elim->afZ
open PySem.Expr.Starred renaming elim->af0
open PySem.Expr.Subscript renaming elim->af1
open PySem.Expr.Tuple renaming elim->af2
open PySem.Expr.UnaryOp renaming elim->af3
open PySem.F renaming args_tuple_add_2->PS,entry_tuple_add->PT,plainAttrs_list->xY,plainAttrs_str->Hd,slot_dict_get->af4,slot_int_rmul->af5,slot_list_append->He,slot_list_count->af6,slot_list_iadd->af7,slot_list_pop->af8,slot_list_reverse->af9,slot_tuple_add->PU,type_list_append->PV
open PySem.Float64 renaming add->dH,cmp->gI,decode->oo,div->iO,divmod->xZ,isInf->gT,isNaN->af_,isZero->ik,mul->cX,nearestOf->x1,ofFrac->fI,ofInt->eA,sub->dc,truncOf->Hf
open PySem.Flow renaming next->gU
open PySem.Heap renaming SameBut->x3,get?->af',get?_push_ne->aga,get?_push_of_some->fA,get?_push_size->fs,get?_update_self->PW,lt_size->il,size_push->qN
open PySem.Heap.SameBut renaming update->Hg
open PySem.IsRange renaming new->x4
open PySem.Keeper renaming frame->uW,machine->uX
open PySem.MeetsSeq renaming list_pop_at->ahm
open PySem.NameKind renaming cell->ip,free->kR
open PySem.Obj renaming mapDictKeys->agb,mapSeq->ft,mk->gV
open PySem.Operator renaming Add->agc
open PySem.PyData renaming depth->agd,depthAll->PY,hasDict->age,hasDictAll->PZ,int->sx,keyHash->P0,list->qO,showable->P1,showableAll->P2,shown->Hi,shownAll->Hj
open PySem.Sem renaming bind_eq_wrap'->agf,pure->P4,wrap_wrap->Hk
open PySem.SeqAt.EqAt renaming of_refs->P5,same->agg
open PySem.SeqAt.RcAt renaming lists->agh,lists_lengths->agi,tuples->agj
open PySem.Stmt.Assign renaming elim->agk
open PySem.Stmt.AugAssign renaming elim->agl
open PySem.Stmt.ClassDef renaming elim->ahn
open PySem.Stmt.Expr renaming elim->agm
open PySem.Stmt.For renaming elim->agn
open PySem.Stmt.FunctionDef renaming elim->aho
open PySem.Stmt.If renaming elim->ago
open PySem.Stmt.Return renaming elim->agp
open PySem.Str renaming mk->Hl,ofString->bM
open PySem.Txt renaming join->Hn,lower->x5,replace->agq
open PySem.Value renaming bool->sy,builtin->sz,float->qP,int->bN,isInt->qQ,none->dS,ref->ags,str->agu,type->gb
open PySem.Value.int renaming elim->agr
open PySem.Value.ref renaming inj->agt
open PySem.Value.str renaming elim->agv
open PySem.W renaming Looks->uZ,SharedT->pE,alive->ot,behindTheImports->Ho,boot_drawn->iQ,boot_heap->sE,boot_o_0->u0,boot_o_1->Hp,boot_o_2->sF,byRow2->BK,emptyDict->BL,findIn->Hq,fnMade->Hr,hasDictIn->P7,instObj->mB,kas_sort->BM,look_both->Hs,piece_app->sG,piecesOf->jG,plainOver->P8,same->iq,segGo->u1,segRunT->sH,segRun_of->sI,sub->gJ,topFrame->hX
open PySem.W.Fast renaming te10110043849684766642->agw,te14364793385576792824->agx,tw10110043849684766642->sA,tw14364793385576792824->sC
open PySem.W.Looks renaming ld->agy,of_pure->P6
open PySem.W.X renaming sim->ak,tableObj->sD
open PySem.Walks renaming tuple->P9
open PySem.World renaming withFollow->fg
open PySem.isSame renaming created->agH
open PySem.pyHashByItsType renaming reduced->HF
noncomputable section
open PySem PySem.W PySem.W.X PySem.Calls PyProof.Rows PySem.SeqAt
section
universe u v
@[elab_as_elim] def rwL{s:Sort u}{f p:s}{motive:s->Prop}(j:f=p)(k:motive p):motive f:=j▸k
@[elab_as_elim] def rwR{s:Sort u}{f p:s}{motive:s->Prop}(j:p=f)(k:motive p):motive f:=j▸k
def bb{α:Type u}{motive:List α->Prop}(t:List α)(nil:motive [])(cons:∀head tail,motive<|head::tail):motive t:=List.casesOn t nil cons
def b6{α:Type u}{motive:Option α->Prop}(t:Option α)(none:motive none)(some:∀val,motive<|some val):motive t:=Option.casesOn t none some
def bz{motive:Bool->Prop}(t:Bool)(false:motive false)(true:motive true):motive t:=Bool.casesOn t false true
def cN{motive:Nat->Prop}(t:Nat)(zero:motive 0)(succ:∀n,motive<|n+1):motive t:=Nat.casesOn t zero succ
def ag2{motive:f\/p->Prop}(k:f\/p)(c:∀j,motive<|.inl j)(d:∀j,motive<|.inr j):motive k:=Or.casesOn k c d
@[elab_as_elim] def Mr{P:Nat->Prop}{k:Nat}(j:k<2)(f:P 0)(p:P 1):P k:=cN (motive:=λk=>k<2->P k) k (λ_=>f) (λk=>cN (motive:=λk=>k+1<2->P (k+1)) k (λ_=>p) λk j=>absurd j<|qK.mpr<|cy 2 k) j
@[elab_as_elim] def rC{P:Nat->Prop}{k:Nat}(j:k<3)(f:P 0)(p:P 1)(g:P 2):P k:=cN (motive:=λk=>k<3->P k) k (λ_=>f) (λ_ j=>Mr (P:=λk=>P<|k+1) (BB j) p g) j
@[elab_as_elim] def rD{P:Nat->Prop}{k:Nat}(j:k<4)(f:P 0)(p:P 1)(g:P 2)(d:P 3):P k:=cN (motive:=λk=>k<4->P k) k (λ_=>f) (λ_ j=>rC (P:=λk=>P<|k+1) (BB j) p g d) j
@[elab_as_elim] def Zm{r:Nat->Prop}{k:Nat}(j:k<6)(l:r 0)(p:r 1)(g:r 2)(d:r 3)(i:r 4)(y:r 5):r k:=cN (motive:=λk=>k<6->r k) k (λ_=>l) (λk j=>cN (motive:=λk=>k+1<6->r (k+1)) k (λ_=>p) (λ_ j=>rD (P:=λk=>r<|k+1+1) (BB<|BB j) g d i y) j) j
def nS{s:Type u}{f:s}{r:Prop}(j:ai=I f):r:=Option.noConfusion rfl<|heq_of_eq j
def sN{s:Type u}{f:s}{r:Prop}(j:I f=ai):r:=nS j.symm
def tF{r:Prop}(j:ah=av):r:=aez j
def fT{r:Prop}(j:av=ah):r:=aez j
def aZ{s:Type u}{f p:s}(j:I f=I p):f=p:=PH j
def sK{s:Type u}{f p:s}{l:Prop}(j:I f=I p)(k:p=f->l):l:=k (aZ j).symm
def g8{s:Type u}[Decidable g]{m:Option s}{d:s}(j:(if g then m else ai)=I d):g/\m=I d:=by by_cases w:g;rw[if_pos w]at j;exact⟨w,j⟩;rw[if_neg w]at j;exact nS j
def cw{s:Type u}[Decidable g]{m d:s}(j:(if g then I m else ai)=I d):g/\m=d:=⟨(g8 j).1,aZ (g8 j).2⟩
def oD{s:Type u}{g:Type v}{m:Option s}{y:s->Option g}{w:g}(j:m.bind y=I w):∃b,m=I b/\y b=I w:=mz.mp j
def tL{s:Type u}{g:Type v}{m:Option s}{y:s->g}{w:g}(j:m.map y=I w):∃b,m=I b/\y b=w:=xV.mp j
def bK{s:Type u}{g:Type v}{m:Option s}{y:s->Option g}{w:g}{l:Prop}(j:m.bind y=I w)(k:∀b,m=I b->y b=I w->l):l:=(oD j).elim λb i=>k b i.1 i.2
def fm{s:Type u}{g:Type v}{m:Option s}{y:s->g}{w:g}{l:Prop}(j:m.map y=I w)(k:∀b,m=I b->y b=w->l):l:=(tL j).elim λb i=>k b i.1 i.2
def iK{s:Type u}[Decidable g]{m:Option s}{d:s}{l:Prop}(j:(if g then m else ai)=I d)(k:g->m=I d->l):l:=k (g8 j).1 (g8 j).2
def aY(j:(f&&p)=ah):f=ah/\p=ah:=(Bool.and_eq_true_iff).mp j
def jt(j:(!f)=ah):f=av:=by cases f;rfl;exact fT j
def b'{s:Type u}{g:Type v}{m:Option s}{y:s->Option g}{a:s}{w:g}(j:m=I a)(k:y a=I w):m.bind y=I w:=by rw[j];exact k
def n0{s:Type u}{g:Type v}{m:Option s}{y:s->g}{b:s}{w:g}(j:m=I b)(k:y b=w):m.map y=I w:=by rw[j,<-k];rfl
def fE{s:Type u}[Decidable g]{m b:s}{d:s}(w:g)(j:m=d):(if g then m else b)=d:=(if_pos w).trans j
def p9{s:Type u}[Decidable g]{m b:s}{d:s}(w:¬g)(j:b=d):(if g then m else b)=d:=(if_neg w).trans j
def oN{s:Type u}{g:Type v}{a:Option s}{m:g}{y:s->g}{w:g}(j:a=ai)(k:m=w):a.elim m y=w:=by rw[j];exact k
def pX{s:Type u}{g:Type v}{c:Option s}{m:g}{y:s->g}{w:g}{b:s}(j:c=I b)(k:y b=w):c.elim m y=w:=by rw[j];exact k
def eU{s:Type u}{x:Option s}{y:s->Bool}(j:x.elim av y=ah):∃b,x=some b/\y b=ah:=by cases x with|none=>exact fT j|some b=>exact⟨b,rfl,j⟩
def rH{s:Type u}{x:Option s}(j:x.isNone=ah):x=ai:=afJ.mp j
def rG(j:f=av):¬f=ah:=by rw[j];decide
end
local macro_rules
  | `(tactic| omega) => `(tactic| first | lia | omega (config := {}))
set_option maxHeartbeats 1000000
set_option tactic.hygienic false
set_option compiler.extract_closed false
open Lean in
local macro_rules (kind := Lean.Parser.Tactic.rewriteSeq)
  | s => do
    let r := s[2][1]
    if !s[3].isNone then Macro.throwUnsupported
    if r.getNumArgs == 1 then
      let h : TSyntax `term := ⟨r[0][1]⟩
      let f := mkIdent (if r[0][0].isNone then `Mine.rwL else `Mine.rwR)
      `(tactic| first | with_reducible_and_instances refine $f ($h ..) ?_ | refine $f $h ?_ | rewrite [$(⟨r[0]⟩)] at ⊢)
    else
      let g := fun x => s.setArg 2 (s[2].setArg 1 (mkNullNode x))
      `(tactic| ($(⟨g #[r[0]]⟩); $(⟨g (r.getArgs.extract 2 r.getNumArgs)⟩)))
open Lean in
local macro_rules (kind := Lean.Parser.Tactic.show)
  | s => `(tactic| refine (?_ : $(⟨s[1]⟩)))
noncomputable def i2{s:Type}:List s->Option s|[f]=>I f|_=>ai
def m2{s:Type}{d:List s}{f:s}(j:i2 d=I f):d=[f]:=by
 induction d using bb with
 |nil=>exact nS j
 |cons p d=>
  induction d using bb with|nil=>exact congrArg (λm=>[m]) (aZ j)|cons=>exact nS j
noncomputable def qu(i:aq):Option (aq×iP×aq×a8):=if j:i.ctorIdx=2 then afQ (motive_1:=λZ=>Option<|aq×iP×aq×a8) i j λf p g d=>I (f,p,g,d)else ai
def OH{ab}(j:qu i=I ab):i=.BinOp ab.1 ab.2.1 ab.2.2.1 ab.2.2.2:=by by_cases w:i.ctorIdx=2;exact afQ (motive_1:=λi=>qu i=I ab->i=.BinOp ab.1 ab.2.1 ab.2.2.1 ab.2.2.2) i w (λf p g d j=>aZ j▸rfl) j;exact nS<|(dif_neg w).symm.trans j
noncomputable def xA(i:aq):Option (UnaryOp×aq×a8):=if j:i.ctorIdx=3 then af3 (motive_1:=λZ=>Option<|UnaryOp×aq×a8) i j λf p g=>I (f,p,g)else ai
def OM{ab}(j:xA i=I ab):i=.UnaryOp ab.1 ab.2.1 ab.2.2:=by by_cases w:i.ctorIdx=3;exact af3 (motive_1:=λi=>xA i=I ab->i=.UnaryOp ab.1 ab.2.1 ab.2.2) i w (λf p g j=>aZ j▸rfl) j;exact nS<|(dif_neg w).symm.trans j
noncomputable def qw(i:aq):Option (aq×aq×aq×a8):=if j:i.ctorIdx=5 then afV (motive_1:=λZ=>Option<|aq×aq×aq×a8) i j λf p g d=>I (f,p,g,d)else ai
def aec{ab}(j:qw i=I ab):i=.IfExp ab.1 ab.2.1 ab.2.2.1 ab.2.2.2:=by by_cases w:i.ctorIdx=5;exact afV (motive_1:=λi=>qw i=I ab->i=.IfExp ab.1 ab.2.1 ab.2.2.1 ab.2.2.2) i w (λf p g d j=>aZ j▸rfl) j;exact nS<|(dif_neg w).symm.trans j
noncomputable def qv(i:aq):Option (aq×List mA×gW×a8):=if j:i.ctorIdx=8 then afX (motive_1:=λZ=>Option<|aq×List mA×gW×a8) i j λf p g d=>I (f,p,g,d)else ai
def ad'{ab}(j:qv i=I ab):i=.ListComp ab.1 ab.2.1 ab.2.2.1 ab.2.2.2:=by by_cases w:i.ctorIdx=8;exact afX (motive_1:=λi=>qv i=I ab->i=.ListComp ab.1 ab.2.1 ab.2.2.1 ab.2.2.2) i w (λf p g d j=>aZ j▸rfl) j;exact nS<|(dif_neg w).symm.trans j
noncomputable def r6(i:aq):Option (aq×List su×List aq×a8):=if j:i.ctorIdx=15 then afT (motive_1:=λZ=>Option<|aq×List su×List aq×a8) i j λf p g d=>I (f,p,g,d)else ai
def ad_{ab}(j:r6 i=I ab):i=.Compare ab.1 ab.2.1 ab.2.2.1 ab.2.2.2:=by by_cases w:i.ctorIdx=15;exact afT (motive_1:=λi=>r6 i=I ab->i=.Compare ab.1 ab.2.1 ab.2.2.1 ab.2.2.2) i w (λf p g d j=>aZ j▸rfl) j;exact nS<|(dif_neg w).symm.trans j
noncomputable def kM(i:aq):Option (aq×List aq×List Hh×a8):=if j:i.ctorIdx=16 then afS (motive_1:=λZ=>Option<|aq×List aq×List Hh×a8) i j λf p g d=>I (f,p,g,d)else ai
def A7{ab}(j:kM i=I ab):i=.Call ab.1 ab.2.1 ab.2.2.1 ab.2.2.2:=by by_cases w:i.ctorIdx=16;exact afS (motive_1:=λi=>kM i=I ab->i=.Call ab.1 ab.2.1 ab.2.2.1 ab.2.2.2) i w (λf p g d j=>aZ j▸rfl) j;exact nS<|(dif_neg w).symm.trans j
noncomputable def A8(i:aq):Option (Hb×Nat×a8):=if j:i.ctorIdx=19 then afU (motive_1:=λZ=>Option<|Hb×Nat×a8) i j λf p g=>I (f,p,g)else ai
def OI{ab}(j:A8 i=I ab):i=.Constant ab.1 ab.2.1 ab.2.2:=by by_cases w:i.ctorIdx=19;exact afU (motive_1:=λi=>A8 i=I ab->i=.Constant ab.1 ab.2.1 ab.2.2) i w (λf p g j=>aZ j▸rfl) j;exact nS<|(dif_neg w).symm.trans j
noncomputable def uv(i:aq):Option (aq×au×a8):=if j:i.ctorIdx=20 then afP (motive_1:=λZ=>Option<|aq×au×a8) i j λf p g=>I (f,p,g)else ai
def ad7{ab}(j:uv i=I ab):i=.Attribute ab.1 ab.2.1 ab.2.2:=by by_cases w:i.ctorIdx=20;exact afP (motive_1:=λi=>uv i=I ab->i=.Attribute ab.1 ab.2.1 ab.2.2) i w (λf p g j=>aZ j▸rfl) j;exact nS<|(dif_neg w).symm.trans j
noncomputable def ps(i:aq):Option (aq×aq×a8):=if j:i.ctorIdx=21 then af1 (motive_1:=λZ=>Option<|aq×aq×a8) i j λf p g=>I (f,p,g)else ai
def OL{ab}(j:ps i=I ab):i=.Subscript ab.1 ab.2.1 ab.2.2:=by by_cases w:i.ctorIdx=21;exact af1 (motive_1:=λi=>ps i=I ab->i=.Subscript ab.1 ab.2.1 ab.2.2) i w (λf p g j=>aZ j▸rfl) j;exact nS<|(dif_neg w).symm.trans j
noncomputable def Gp(i:aq):Option (aq×a8):=if j:i.ctorIdx=22 then af0 (motive_1:=λZ=>Option<|aq×a8) i j λf p=>I (f,p)else ai
def aef{ab}(j:Gp i=I ab):i=.Starred ab.1 ab.2:=by by_cases w:i.ctorIdx=22;exact af0 (motive_1:=λi=>Gp i=I ab->i=.Starred ab.1 ab.2) i w (λf p j=>aZ j▸rfl) j;exact nS<|(dif_neg w).symm.trans j
noncomputable def fo(i:aq):Option (au×a8):=if j:i.ctorIdx=23 then afY (motive_1:=λZ=>Option<|au×a8) i j λf p=>I (f,p)else ai
def jy{ab}(j:fo i=I ab):i=.Name ab.1 ab.2:=by by_cases w:i.ctorIdx=23;exact afY (motive_1:=λi=>fo i=I ab->i=.Name ab.1 ab.2) i w (λf p j=>aZ j▸rfl) j;exact nS<|(dif_neg w).symm.trans j
noncomputable def ux(i:aq):Option (List aq×a8):=if j:i.ctorIdx=24 then afW (motive_1:=λZ=>Option<|List aq×a8) i j λf p=>I (f,p)else ai
def OK{ab}(j:ux i=I ab):i=.List ab.1 ab.2:=by by_cases w:i.ctorIdx=24;exact afW (motive_1:=λi=>ux i=I ab->i=.List ab.1 ab.2) i w (λf p j=>aZ j▸rfl) j;exact nS<|(dif_neg w).symm.trans j
noncomputable def j7(i:aq):Option (List aq×Nat×a8):=if j:i.ctorIdx=25 then af2 (motive_1:=λZ=>Option<|List aq×Nat×a8) i j λf p g=>I (f,p,g)else ai
def uz{ab}(j:j7 i=I ab):i=.Tuple ab.1 ab.2.1 ab.2.2:=by by_cases w:i.ctorIdx=25;exact af2 (motive_1:=λi=>j7 i=I ab->i=.Tuple ab.1 ab.2.1 ab.2.2) i w (λf p g j=>aZ j▸rfl) j;exact nS<|(dif_neg w).symm.trans j
noncomputable def Gm(i:aq):Option (List (Option aq)×List aq×a8):=if j:i.ctorIdx=6 then ahl (motive_1:=λZ=>Option<|List (Option aq)×List aq×a8) i j λf p g=>I (f,p,g)else ai
noncomputable def Gn(i:aq):Option (Option aq×Option aq×Option aq×a8):=if j:i.ctorIdx=26 then afZ (motive_1:=λZ=>Option<|Option aq×Option aq×Option aq×a8) i j λf p g d=>I (f,p,g,d)else ai
def aee{ab}(j:Gn i=I ab):i=.Slice ab.1 ab.2.1 ab.2.2.1 ab.2.2.2:=by by_cases w:i.ctorIdx=26;exact afZ (motive_1:=λi=>Gn i=I ab->i=.Slice ab.1 ab.2.1 ab.2.2.1 ab.2.2.2) i w (λf p g d j=>aZ j▸rfl) j;exact nS<|(dif_neg w).symm.trans j
noncomputable def A6(i:aq):Option (uU×List aq×a8):=if j:i.ctorIdx=0 then afR (motive_1:=λZ=>Option<|uU×List aq×a8) i j λf p g=>I (f,p,g)else ai
def ad9{ab}(j:A6 i=I ab):i=.BoolOp ab.1 ab.2.1 ab.2.2:=by by_cases w:i.ctorIdx=0;exact afR (motive_1:=λi=>A6 i=I ab->i=.BoolOp ab.1 ab.2.1 ab.2.2) i w (λf p g j=>aZ j▸rfl) j;exact nS<|(dif_neg w).symm.trans j
noncomputable def xy(i:aP):Option (Option aq×a8):=if j:i.ctorIdx=3 then agp (motive_2:=λZ=>Option<|Option aq×a8) i j λf p=>I (f,p)else ai
def aed{ab}(j:xy i=I ab):i=.Return ab.1 ab.2:=by by_cases w:i.ctorIdx=3;exact agp (motive_2:=λi=>xy i=I ab->i=.Return ab.1 ab.2) i w (λf p j=>aZ j▸rfl) j;exact nS<|(dif_neg w).symm.trans j
noncomputable def i_(i:aP):Option (List aq×aq×a8):=if j:i.ctorIdx=5 then agk (motive_2:=λZ=>Option<|List aq×aq×a8) i j λf p g=>I (f,p,g)else ai
def OG{ab}(j:i_ i=I ab):i=.Assign ab.1 ab.2.1 ab.2.2:=by by_cases w:i.ctorIdx=5;exact agk (motive_2:=λi=>i_ i=I ab->i=.Assign ab.1 ab.2.1 ab.2.2) i w (λf p g j=>aZ j▸rfl) j;exact nS<|(dif_neg w).symm.trans j
noncomputable def A5(i:aP):Option (aq×iP×aq×a8):=if j:i.ctorIdx=7 then agl (motive_2:=λZ=>Option<|aq×iP×aq×a8) i j λf p g d=>I (f,p,g,d)else ai
def ad8{ab}(j:A5 i=I ab):i=.AugAssign ab.1 ab.2.1 ab.2.2.1 ab.2.2.2:=by by_cases w:i.ctorIdx=7;exact agl (motive_2:=λi=>A5 i=I ab->i=.AugAssign ab.1 ab.2.1 ab.2.2.1 ab.2.2.2) i w (λf p g d j=>aZ j▸rfl) j;exact nS<|(dif_neg w).symm.trans j
noncomputable def r7(i:aP):Option (aq×aq×List aP×List aP×a8):=if j:i.ctorIdx=9 then agn (motive_2:=λZ=>Option<|aq×aq×List aP×List aP×a8) i j λf p g d i=>I (f,p,g,d,i)else ai
def aeb{ab}(j:r7 i=I ab):i=.For ab.1 ab.2.1 ab.2.2.1 ab.2.2.2.1 ab.2.2.2.2:=by by_cases w:i.ctorIdx=9;exact agn (motive_2:=λi=>r7 i=I ab->i=.For ab.1 ab.2.1 ab.2.2.1 ab.2.2.2.1 ab.2.2.2.2) i w (λf p g d i j=>aZ j▸rfl) j;exact nS<|(dif_neg w).symm.trans j
noncomputable def pn(i:aP):Option (aq×List aP×List aP×a8):=if j:i.ctorIdx=12 then ago (motive_2:=λZ=>Option<|aq×List aP×List aP×a8) i j λf p g d=>I (f,p,g,d)else ai
def OJ{ab}(j:pn i=I ab):i=.If ab.1 ab.2.1 ab.2.2.1 ab.2.2.2:=by by_cases w:i.ctorIdx=12;exact ago (motive_2:=λi=>pn i=I ab->i=.If ab.1 ab.2.1 ab.2.2.1 ab.2.2.2) i w (λf p g d j=>aZ j▸rfl) j;exact nS<|(dif_neg w).symm.trans j
noncomputable def uw(i:aP):Option (aq×a8):=if j:i.ctorIdx=24 then agm (motive_2:=λZ=>Option<|aq×a8) i j λf p=>I (f,p)else ai
def aea{ab}(j:uw i=I ab):i=.Expr ab.1 ab.2:=by by_cases w:i.ctorIdx=24;exact agm (motive_2:=λi=>uw i=I ab->i=.Expr ab.1 ab.2) i w (λf p j=>aZ j▸rfl) j;exact nS<|(dif_neg w).symm.trans j
noncomputable def A9(l:aP):Option (au×PK×List aP×List aq×Option aq×List TypeParam×gW×Option gW×au×a8):=if r:l.ctorIdx=0 then aho (motive_2:=λZ=>Option<|au×PK×List aP×List aq×Option aq×List TypeParam×gW×Option gW×au×a8) l r λm p n d l y q s w k=>I (m,p,n,d,l,y,q,s,w,k)else ai
def uy(i:aq):Option (au×a8×List aq×a8):=(kM i).bind λab=>(fo ab.1).bind λy=>if ab.2.2.1.isEmpty=ah then I (y.1,y.2,ab.2.1,ab.2.2.2)else ai
def A'{ab}(j:uy i=I ab):i=.Call (.Name ab.1 ab.2.1) ab.2.2.1 [] ab.2.2.2:=bK j λg w j=>bK j λy s j=>by rw[A7 w,jy s,pz.mp (cw j).1,<-(cw j).2]
def pq(i:aq):Option (aq×au×a8×List aq×a8):=(kM i).bind λab=>(uv ab.1).bind λy=>if ab.2.2.1.isEmpty=ah then I (y.1,y.2.1,y.2.2,ab.2.1,ab.2.2.2)else ai
def A_{ab}(j:pq i=I ab):i=.Call (.Attribute ab.1 ab.2.1 ab.2.2.1) ab.2.2.2.1 [] ab.2.2.2.2:=bK j λg w j=>bK j λy s j=>by rw[A7 w,ad7 s,pz.mp (cw j).1,<-(cw j).2]
def mT{s:Type}{x:Option s}(j:x.isSome=ah):∃f,x=I f:=qL.mp j
noncomputable def t2{s:Type}:List s->Option (s×s)|[f,p]=>I (f,p)|_=>ai
def ES{s:Type}{d:List s}{c:s×s}(j:t2 d=I c):d=[c.1,c.2]:=by
 induction d using bb with
 |nil=>exact nS j
 |cons f d=>
  induction d using bb with
  |nil=>exact nS j
  |cons e d=>
   induction d using bb with|nil=>exact aZ j▸rfl|cons=>exact nS j
noncomputable def L3:Hb->Option au|.str m=>I m|_=>ai
def Yw(j:L3 g=I m):g=.str m:=by rcases g with⟨⟩<;>first|exact nS j|exact congrArg _<|aZ j
noncomputable def L2:Hb->Option Int|.int m=>I m|_=>ai
def Yv(j:L2 g=I m):g=.int m:=by rcases g with⟨⟩<;>first|exact nS j|exact congrArg _<|aZ j
def ph(i:aq):Option au:=(A8 i).bind λab=>L3 ab.1
def AV(j:ph i=I m):∃k s,i=.Constant (.str m) k s:=bK j λab l j=>⟨_,_,Yw j▸OI l⟩
def wk(i:aq):Option Int:=(A8 i).bind λab=>L2 ab.1
def XQ(j:wk i=I m):∃k s,i=.Constant (.int m) k s:=bK j λab l j=>⟨_,_,Yv j▸OI l⟩
def Lk{s:Type}{d:List s}{f:s}(j:d.head?=I f):d=f::d.tail:=by induction d using bb with|nil=>exact nS j|cons p d=>exact aZ j▸rfl
def ML{s:Type}(d:List s):Option (s×s×s):=d.head?.bind λf=>(t2 d.tail).map λb=>(f,b)
def Z6{s:Type}{d:List s}{ab:s×s×s}(j:ML d=I ab):d=[ab.1,ab.2.1,ab.2.2]:=bK j λf n j=>fm j λb ax i=>by rw[Lk n,ES ax,<-i]
section
variable{p:sv}{w:ba}{bj:Nat}{ann:Option ar}
def ay(p:sv)(w:ba)(bj:Nat)(ann:Option ar){b:Type}(r:cA b)(l:aB)(q:a8)(f:b)(ae:aB)(i:a8)(y:Nat):Prop:=∀(K:b->cA Fin)(d:ar->cA Fin)(e:Bool->Bool)(x:List ar->List ar)(g:Code)(t:Frame),u1 hh p w bj ann 1 y l ⟨r.wrap K d e x,g,q,[t]⟩=I (ae,⟨K f,g,i,[t]⟩)
theorem NG:∀{n k:Nat}{l ae:aB}{a g:Hm}{c},u1 hh p w bj ann 1 n l a=some (ae,g)->u1 hh p w bj ann 1 k ae g=c->u1 hh p w bj ann 1 (n+k) l a=c
 |0,k,l,ae,a,g,c,j,i=>by
  obtain⟨rfl,rfl⟩:l=ae/\a=g:=by simpa[u1]using j
  rw[ij];exact i
 |n+1,k,l,ae,a,g,c,j,i=>by
  rw[show n+1+k=n+k+1 by exact e7 _ _ _]
  unfold u1 at j ⊢
  induction d:endAt 1 a using b6 with
  |some y=>rw[d]at j;cases j
  |none=>
   rw[d]at j;induction q:stepOk bj ann a using bz with
   |false=>rw[q]at j;cases j
   |true=>
    rw[q]at j;cases A:step (Hx hh) p w l a with|halt x b=>rw[A]at j;cases j|go b m=>rw[A]at j;exact NG j i
variable{α β:Type}
theorem ay.pure{q:a8}:ay p w bj ann (bq f) l q f l q 0:=λZ Z Z Z Z Z=>rfl
def ay.bind{y:α->cA β}{q w3 i:a8} (j:ay p w bj ann r l q a fa w3 n) (B:ay p w bj ann (y a) fa w3 e d i k):ay p w bj ann (r>>=y) l q e d i (n+k):=by intro K C A x g t;rw[agf,Hk];exact NG (j _ _ _ _ g t)<|B K C A x g t
def ay.of_eq(i:r=c){q d:a8}(j:ay p w bj ann c l q f b d y):ay p w bj ann r l q f b d y:=i▸j
def ay.steps{q d:a8}(j:ay p w bj ann r l q f b d n)(i:n=c):ay p w bj ann r l q f b d c:=i▸j
theorem ay.keep{aa:List ar}{q i:a8}(j:ay p w bj ann r l q f b i y):ay p w bj ann (r.keep aa) l q f b i y:=by intro K d e x g t;rw[Sem.keep_eq_wrap,Hk];exact j _ _ _ _ g t
theorem ay.holding{aa:List ar}{r:cA α}{e c:aB}{q b:a8}{f:α}{y:Nat}(j:ay p w bj ann r e q f c b y):ay p w bj ann (gr aa r) e q f c b y:=by unfold gr;generalize List.filter _ aa=d;induction d using bb with|nil=>exact j|cons=>exact j.keep
theorem ay.onRaise{q i:a8}(j:ay p w bj ann r l q f b i y):ay p w bj ann (r.onRaise k) l q f b i y:=by intro K d e x g t;rw[Sem.onRaise_eq_wrap,Hk];exact j _ _ _ _ g t
theorem ay.rule{q:a8}:ay p w bj ann (HG a) l q () l q 1:=λZ Z Z Z Z Z=>rfl
def ay.at_{q:a8}:ay p w bj ann (gs i) l q () l i 1:=λZ Z Z Z Z Z=>rfl
theorem ay.point{q:a8}:ay p w bj ann u7 l q () l q 1:=λZ Z Z Z Z Z=>rfl
theorem ay.fresh{q:a8}:ay p w bj ann PySem.fresh l q l.toks {l with toks:=l.toks+1} q 1:=λZ Z Z Z Z Z=>rfl
theorem ay.loadPart{q:a8}(j:l.heap.get? a=I a4):ay p w bj ann (Qm a part) l q a4 l q 1:=by intro K d e x n m;obtain⟨i,f,drawn,k,os⟩:=l;show(match step (Hx hh) p w _ ⟨.load a part K,n,q,[m]⟩with|.go ae g=>I (ae,g)|.halt Z t=>ai)=_;simp only[step];rw[j]
theorem ay.load{q:a8}(j:l.heap.get? a=I x):ay p w bj ann (PySem.load a) l q x l q 1:=ay.loadPart (part:=ai) j
theorem ay.alloc{q:a8}:ay p w bj ann (PySem.alloc x) s q s.heap.objs.size {s with heap:=s.heap.push x} q 1:=λZ Z Z Z Z Z=>rfl
theorem ay.updatePart{i:aF}{q:a8}(E:l.heap.get? i=I a4)(A:bI bj i=true):ay p w bj ann (PySem.updatePart i a y) l q () {l with heap:=l.heap.update i y} q 1:=by
 intro K d e j g t;obtain⟨B,r,drawn,D,os⟩:=l;have C:stepOk bj ann (⟨.update i a y λm=>((P4 m:cA Unit)).wrap K d e j,g,q,[t]⟩:Hm)=true:=by show(true&&(bI bj i||_||_||_))=true;rw[A];rfl
 show(match stepOk bj ann (⟨.update i a y λm=>((P4 m:cA Unit)).wrap K d e j,g,q,[t]⟩:Hm)with|false=>ai|true=>(match step (Hx hh) p w _ ⟨.update i a y λm=>((P4 m:cA Unit)).wrap K d e j,g,q,[t]⟩with|.go ae k=>I (ae,k)|.halt Z n=>ai))=_;rw[C];simp only[step];rw[E];rfl
def abC(h0:0<=c)(s:c<2^31):HF (if(if c<0 then -((c.natAbs:Int)%((2^61 -1:Nat):Int))else((c.natAbs:Int)%((2^61 -1:Nat):Int)))==-1 then -2 else(if c<0 then -((c.natAbs:Int)%((2^61 -1:Nat):Int))else((c.natAbs:Int)%((2^61 -1:Nat):Int))))=bq c:=by
 have a:((c.natAbs:Int)%((2^61 -1:Nat):Int))=c:=by rw[aeH h0];exact xF h0 (GC s<|by decide)
 rw[if_neg<|ja.mpr h0,a];have aC:(c==-1)=av:=beq_eq_false_iff_ne.mpr λq=>absurd (q▸h0) (by decide);rw[aC];show HF c=_;unfold HF;have:(-(2^63:Int)<=c&&c<2^63)=ah:=by rw[decide_eq_true (j9 (by decide) h0),decide_eq_true<|GC s<|by decide];rfl
 rw[if_pos this,aC];rfl
def yA(p:sv)(bj:Nat)(ann:Option ar)(b:Int)(k:Tok)(l:aB)(q:a8)(w:ba):Prop:=∀(K:Int->cA Fin)(d:ar->cA Fin)(e:Bool->Bool)(x:List ar->List ar)(g:Code)(a:Frame),u1 hh p w bj ann 1 5 l ⟨(pyHash<|.int b k).wrap K d e x,g,q,[a]⟩=I ({l with toks:=l.toks+1},⟨(HF<|if(if b<0 then -((b.natAbs:Int)%((2^61 -1:Nat):Int))else((b.natAbs:Int)%((2^61 -1:Nat):Int)))==-1 then -2 else(if b<0 then -((b.natAbs:Int)%((2^61 -1:Nat):Int))else((b.natAbs:Int)%((2^61 -1:Nat):Int)))).wrap K d e x,g,q,[a]⟩)
def Xr{q:a8}(w:ba):yA p bj ann a k l q (w.withFollow "special-get-raises" av):=by intro K d e x g b;kernel_rfl
def Xs{q:a8}(w:ba):yA p bj ann a k l q (w.withFollow "special-get-raises" ah):=by intro K d e x g b;kernel_rfl
def ay.Xq{q:a8}:yA p bj ann c k l q w:=BK "special-get-raises" (P:=yA p bj ann c k l q) Xr Xs w
def ay.hash{q:a8}(h0:0<=a)(b:a<2^31):ay p w bj ann (pyHash<|.int a k) l q a {l with toks:=l.toks+1} q 5:=by intro K d e x g f;rw[ay.Xq,abC h0 b];rfl
noncomputable def ax(e:Nat->Option cQ)(y:Nat):cP:=⟨((aH y).map λc=>(e c).getD ie).toArray,{}⟩
noncomputable def c0(e:Nat->Option cQ)(f:Nat)(x:cQ):Nat->Option cQ:=λc=>if c=f then I x else e c
def lu:c0 e f x f=I x:=if_pos rfl
def oc(j:c≠f):c0 e f x c=e c:=if_neg j
def xv:c0 (c0 e f x) f d=c0 e f d:=by funext c;unfold c0;split<;>rfl
def wg(e:Nat->Option cQ)(y f:Nat):(ax e y).objs[f]?=if f<y then I ((e f).getD ie)else ai:=by unfold ax;rw[oh,jC];by_cases j:f<y;rw[xM j,if_pos j];rfl;rw[xK<|rwL f9<|nj ‹_›,if_neg j];rfl
def DM(e:Nat->Option cQ)(y:Nat):(ax e y).objs.size=y:=by unfold ax;rw[sm,bZ,f9]
def rz(m:b<j)(l:i b=I x)(y:x.isFreed=av):(ax i j).get? b=I x:=by unfold af';rw[wg,if_pos m,l];obtain⟨p,d,k,r⟩:=x;cases k<;>first|rfl|cases y
def Xz(j:b<y)(k:c b=I x):(ax c y).update b d=ax (c0 c b<|d x) y:=by
 have:((ax c y).objs.modify b d)=(ax (c0 c b<|d x) y).objs:=by apply aep;intro l;rw[Array.getElem?_modify,wg,wg];unfold c0;by_cases q:l=b;subst q;simp[j,k];have:=nq q;simp[q,this]
 exact congrArg (Heap.mk · {}) this
def Lp:(ax e y).push x=ax (c0 e y x) (y+1):=by
 have:((ax e y).objs.push x)=(ax (c0 e y x)<|y+1).objs:=by
  apply aep;intro c;rw[Array.getElem?_push,wg,wg,DM];unfold c0;by_cases q:c=y;subst q;simp;by_cases j:c<y;have:c<y+1:=by exact cq ‹_›<|cv _ _
  simp[j,q,this];have:¬c<y+1:=qK.mpr<|sq (nj j)<|nq q;simp[j,q,this]
 exact congrArg (Heap.mk · {}) this
def Xy(j:(aH y).map e=(aH y).map b):ax e y=ax b y:=by
 unfold ax;have:(aH y).map (λc=>(e c).getD ie)=(aH y).map (λc=>(b c).getD ie):=by have:=congrArg (Bt λx:Option cQ=>x.getD ie) j;simpa[dG]using this
 rw[this]
noncomputable def b3(b:List ff)(k:Nat):cQ:=⟨.type "dict",ai,.dict b.toArray k,#[]⟩
variable{cm:Array GenState}{bT:Drawn}{os:ke}
def ay.entries{e:Nat->Option cQ}{q:a8}(c:d<y)(r:e d=I (b3 b k)):ay p w bj ann (BR d f) ⟨ax e y,cm,bT,a,os⟩ q b.toArray ⟨ax e y,cm,bT,a,os⟩ q 1:=by unfold BR;exact ay.bind (n:=1) (k:=0) (ay.loadPart (a4:=b3 b k)<|rz c r rfl) ay.pure
def ay.Kr{e:Nat->Option cQ}{q:a8}(b:d<y)(r:e d=I (b3 bA k)):ay p w bj ann (Hy d f) ⟨ax e y,cm,bT,a,os⟩ q k ⟨ax e y,cm,bT,a,os⟩ q 1:=by unfold Hy;exact ay.bind (n:=1) (k:=0) (ay.loadPart (a4:=b3 bA k)<|rz b r rfl) ay.pure
def abc{b:List ff}(s:∀d∈b,d.hash≠j):agL b.toArray.size (λc=>b.toArray[c]?.map (·.hash)) j=[]:=by
 unfold agL;rw[Pc];intro c a;have f:c<b.length:=by simpa using a
 simp only[oh,hb f,kc,beq_iff_eq,BH];exact s _<|kP f
def ay.find{h:Nat->Option cQ}{q:a8}(j:d<y)(r:h d=I (b3 b k))(s:∀l∈b,l.hash≠c):ay p w bj ann (dictFind d (.int c f) c) ⟨ax h y,cm,bT,a,os⟩ q ai ⟨ax h y,cm,bT,a,os⟩ q 1:=by unfold dictFind;refine ay.holding<|ay.bind (n:=1) (k:=0) (ay.entries j r) ?_;dsimp only;rw[abc s];exact ay.pure
def ay.M8{y d l:Nat}{q:a8}(c:d<y)(h:bI bj d=ah)(r:a d=I (b3 b k))(j:b.length<100000):ay p w bj ann (agP d (·.push i) f) ⟨ax a y,cm,bT,l,os⟩ q () ⟨ax (c0 a d<|b3 (b++[i])<|k+1) y,cm,bT,l,os⟩ q 3:=by
 unfold agP;refine ay.bind (n:=1) (k:=2) (ay.loadPart (a4:=b3 b k)<|rz c r rfl) ?_;dsimp only[b3];refine ay.bind (n:=1) (k:=1) (ay.updatePart (a4:=b3 b k) (rz c r rfl) h) ?_;have aC:agb (λm=>m.push i) (b3 b k)=b3 (b++[i]) (k+1):=by show(⟨.type "dict",ai,.dict (b.toArray.push i)<|k+1,#[]⟩:cQ)=_;rw[ae9];rfl
 rw[show(ax a y).update d (agb λm=>m.push i)=ax (c0 a d<|b3 (b++[i])<|k+1) y from by rw[Xz c r,aC]];unfold lookBehind;refine ay.bind (n:=1) (k:=0) (ay.loadPart (a4:=b3 (b++[i])<|k+1)<|rz c lu rfl) ?_;have:(b3 (b++[i])<|k+1).data.pastItsLine=ai:=by show(if(b++[i]).toArray.size>u9+1 then I "dict:memory"else ai)=ai;rw[if_neg];rw[sm,gF];exact qK.mpr (gS<|ao (d_ j)<|show 100000<=u9 by decide)
 rw[this];exact ay.pure
def ay.put{y d x:Nat}{q:a8}(l:d<y)(j:bI bj d=ah)(r:a d=I (b3 b k))(m:b.length<100000)(s:∀A∈b,A.hash≠c):ay p w bj ann (Hz d c (.int c f) h) ⟨ax a y,cm,bT,x,os⟩ q () ⟨ax (c0 a d<|b3 (b++[⟨c,.int c f,h⟩])<|k+1) y,cm,bT,x,os⟩ q 4:=by unfold Hz;refine ay.bind (n:=1) (k:=3) (ay.find l r s) ?_;exact ay.M8 l j r m
def ay.set{y d A:Nat}{q:a8}(l:d<y)(j:bI bj d=ah)(r:a d=I (b3 b k))(x:b.length<100000)(m:∀B∈b,B.hash≠c)(h0:0<=c)(s:c<2^31):ay p w bj ann (x8 d (.int c f) h) ⟨ax a y,cm,bT,A,os⟩ q () ⟨ax (c0 a d<|b3 (b++[⟨c,.int c f,h⟩])<|k+1) y,cm,bT,A+1,os⟩ q 10:=by unfold x8;refine ay.holding<|ay.bind (n:=5) (k:=5) (ay.hash h0 s) ?_;unfold dictSetHashed;refine ay.holding<|ay.bind (n:=1) (k:=4) (ay.find l r m) ?_;dsimp only;exact ay.bind (n:=1) (k:=3) ay.rule<|ay.M8 l j r x
noncomputable def eF(k:Nat):List (Int×au)->List ff|[]=>[]|(c,m)::w=>⟨c,.int c k,.str m<|k+1⟩::eF (k+3) w
theorem tg:∀(k:Nat)(a:List (Int×au)),(eF k a).length=a.length|Z,[]=>rfl|k,(c,m)::w=>by simp[eF,tg (k+3) w]
theorem za:∀(k:Nat)(a:List (Int×au)),(eF k a).map (·.hash)=a.map (·.1)|Z,[]=>rfl|k,(c,m)::w=>by simp[eF,za (k+3) w]
noncomputable def kC(i:a8)(a:Int×au):cA ar×cA ar:=(HC a.1,do let t<-sM a.2;gs i;bq t)
theorem ay.mkInt{q:a8}:ay p w bj ann (HC c) s q (.int c s.toks) {s with toks:=s.toks+1} q 1:=λZ Z Z Z Z Z=>rfl
theorem ay.mkText{q:a8}:ay p w bj ann (sM m) s q (.str m s.toks) {s with toks:=s.toks+1} q 1:=λZ Z Z Z Z Z=>rfl
def gv(b:List ff)(r:List (Int×au)):Prop:=(b.map (·.hash)++r.map (·.1)).Nodup/\∀a∈r,0<=a.1/\a.1<2^31
def gv.head(j:gv b (a::r)):∀i∈b,i.hash≠a.1:=by intro i f q;have:=(xO.mp j.1).2.2 i.hash (ez.mpr ⟨i,f,rfl⟩) a.1 (by simp);exact this q
def gv.next(j:gv b (a::r))(f:i.hash=a.1):gv (b++[i]) r:=by refine⟨?_,λm ag=>j.2 m<|dt _ ag⟩;have:=j.1;simpa[f]using this
def Gh(r:e d=I (b3 b k)):c0 e d (b3 (b++[])<|k+0)=e:=by funext c;unfold c0;split;rename_i j;subst j;rw[qB];exact r.symm;rfl
def z1{α:Type}{d:List α}{f:α}(j:d.length+(y+1)<b):(d++[f]).length+y<b:=by rw[gF];exact b4 (bQ<|e7 d.length 1 y) j
theorem Mm{d C:Nat}(D:d<C)(j:bI bj d=ah)
  (E:∀k J:cA ar,y (k,J) fq=(do let B<-k;let H<-gr [B] J;gr [B,H] (x8 d B H);bq (hW fq))):
  ∀(r:List (Int×au))(e:Nat->Option cQ)(h k:Nat)(b:List ff),e d=I (b3 b k)->gv b r->b.length+r.length<100000->
   ay p w bj ann (jB (r.map<|kC pos) fq y) ⟨ax e C,cm,bT,h,os⟩ pos fq ⟨ax (c0 e d<|b3 (b++eF h r)<|k+r.length) C,cm,bT,h+3*r.length,os⟩ pos (13*r.length)
 |[]=>@λe h k b A l F=>by
  show ay p w bj ann _ _ _ _ ⟨ax (c0 e d<|b3 (b++[])<|k+0) C,cm,bT,h,os⟩ _ _
  rw[Gh A]
  exact ay.pure
 |(c,m)::r=>@λe h k b A l F=>by
  have q:=l.2 (c,m) (dA ..)
  refine ay.of_eq (sj ..)<|ay.steps (ay.bind (n:=13) (k:=13*r.length) (a:=hW fq) (fa:=⟨ax (c0 e d<|b3 (b++[⟨c,.int c h,.str m<|h+1⟩])<|k+1) C,cm,bT,h+3,os⟩) (w3:=pos) (ay.of_eq (E ..) ?_) ?_)<|e6 13<|13*r.length
  refine ay.bind (n:=1) (k:=12) (ay.mkInt (s:=⟨ax e C,cm,bT,h,os⟩)) ?_
  refine ay.bind (n:=2) (k:=10) (ay.holding<|ay.bind (n:=1) (k:=1) (ay.mkText (s:=⟨ax e C,cm,bT,h+1,os⟩))<|ay.bind (n:=1) (k:=0) ay.at_ ay.pure) ?_
  exact ay.bind (n:=10) (k:=0) (ay.holding<|ay.set D j A (b4 (cv _ _) ‹_›) l.head q.1 q.2) ay.pure
  have G:=Mm (pos:=pos) D j E r (c0 e d<|b3 (b++[⟨c,.int c h,.str m<|h+1⟩])<|k+1) (h+3) (k+1) (b++[⟨c,.int c h,.str m<|h+1⟩]) lu (l.next rfl)<|z1 F
  rw[xv,lC,e7 k,e7 h]at G
  exact G
noncomputable def yw(k:Nat):List (Int×au)->List (ar×ar)|[]=>[]|(c,m)::w=>(.int c k,.str m<|k+1)::yw (k+2) w
noncomputable def iJ(k:Nat):List (Int×au)->List ff|[]=>[]|(c,m)::w=>⟨c,.int c k,.str m<|k+1⟩::iJ (k+2) w
theorem FJ:∀(k:Nat)(a:List (Int×au)),(iJ k a).length=a.length|Z,[]=>rfl|k,(c,m)::w=>by simp[iJ,FJ (k+2) w]
theorem NH:∀(k:Nat)(a:List (Int×au)),(iJ k a).map (·.hash)=a.map (·.1)|Z,[]=>rfl|k,(c,m)::w=>by simp[iJ,NH (k+2) w]
theorem ay.pairs:∀(r:List (Int×au))(j:cP)(a:Nat),ay p w bj ann (evalPairs<|r.map<|kC pos) ⟨j,cm,bT,a,os⟩ pos (yw a r) ⟨j,cm,bT,a+2*r.length,os⟩ pos (3*r.length)
 |[]=>@λj a=>ay.pure
 |(c,m)::r=>@λj a=>by
  refine ay.steps (ay.bind (n:=1) (k:=2+3*r.length) (ay.mkInt (s:=⟨j,cm,bT,a,os⟩)) ?_)<|(jE 1 2 _).symm.trans<|e6 3<|3*r.length
  refine ay.bind (n:=2) (k:=3*r.length) (ay.holding<|ay.bind (n:=1) (k:=1) (ay.mkText (s:=⟨j,cm,bT,a+1,os⟩))<|ay.bind (n:=1) (k:=0) ay.at_ ay.pure) ?_
  have g:=ay.pairs (pos:=pos) r j<|a+2
  rw[e7 a]at g
  exact ay.bind (n:=3*r.length) (k:=0) (ay.holding g) ay.pure
theorem Mp{q:a8}{d G:Nat}(C:d<G)(s:bI bj d=ah)
  (D:∀k H:ar,y (k,H) fq=(do x8 d k H;bq (hW fq))):
  ∀(r:List (Int×au))(e:Nat->Option cQ)(j h k:Nat)(b:List ff),e d=I (b3 b k)->gv b r->b.length+r.length<100000->
   ay p w bj ann (jB (yw h r) fq y) ⟨ax e G,cm,bT,j,os⟩ q fq ⟨ax (c0 e d<|b3 (b++iJ h r)<|k+r.length) G,cm,bT,j+r.length,os⟩ q (10*r.length)
 |[]=>@λe j h k b A l E=>by
  show ay p w bj ann _ _ _ _ ⟨ax (c0 e d<|b3 (b++[])<|k+0) G,cm,bT,j,os⟩ _ _
  rw[Gh A]
  exact ay.pure
 |(c,m)::r=>@λe j h k b A l E=>by
  have B:=l.2 (c,m) (dA ..)
  refine ay.of_eq (sj ..)<|ay.steps (ay.bind (n:=10) (k:=10*r.length) (a:=hW fq) (fa:=⟨ax (c0 e d<|b3 (b++[⟨c,.int c h,.str m<|h+1⟩])<|k+1) G,cm,bT,j+1,os⟩) (w3:=q) (ay.of_eq (D ..) ?_) ?_)<|e6 10<|10*r.length
  exact ay.bind (n:=10) (k:=0) (ay.set C s A (b4 (cv _ _) ‹_›) l.head B.1 B.2) ay.pure
  have F:=Mp (q:=q) C s D r (c0 e d<|b3 (b++[⟨c,.int c h,.str m<|h+1⟩])<|k+1) (j+1) (h+2) (k+1) (b++[⟨c,.int c h,.str m<|h+1⟩]) lu (l.next rfl)<|z1 E
  rw[xv,lC,e7 k,e7 j]at F
  exact F
def Zc{d A:Nat}(s:d<A)(b:bI bj d=ah)
  (c:∀k B:cA ar,y (k,B) fq=(do let m<-k;let q<-gr [m] B;gr [m,q] (x8 d m q);bq (hW fq)))
     (l:gv [] r) (x:r.length<100000):
   ay p w bj ann (jB (r.map<|kC i) fq y) ⟨ax (c0 e d<|b3 [] 0) A,cm,bT,a,os⟩ i fq ⟨ax (c0 e d<|b3 (eF a r) r.length) A,cm,bT,a+3*r.length,os⟩ i (13*r.length):=by
 have j:=Mm (p:=p) (w:=w) (bj:=bj) (ann:=ann) (cm:=cm) (bT:=bT) (os:=os) (pos:=i) s b c r (c0 e d<|b3 [] 0) a 0 [] lu l<|(ij _).symm▸x
 rw[xv,ij]at j
 exact j
def Zf{q:a8}{d x:Nat}(m:d<x)(b:bI bj d=ah)
  (c:∀k A:ar,y (k,A) fq=(do x8 d k A;bq (hW fq)))
     (l:gv [] r) (s:r.length<100000):
   ay p w bj ann (jB (yw i r) fq y) ⟨ax (c0 e d<|b3 [] 0) x,cm,bT,a,os⟩ q fq ⟨ax (c0 e d<|b3 (iJ i r) r.length) x,cm,bT,a+r.length,os⟩ q (10*r.length):=by
 have j:=Mp (p:=p) (w:=w) (bj:=bj) (ann:=ann) (cm:=cm) (bT:=bT) (os:=os) (q:=q) m b c r (c0 e d<|b3 [] 0) a i 0 [] lu l<|(ij _).symm▸s
 rw[xv,ij]at j
 exact j
def ay.N1{n t:Nat}(h:bI bj n=ah)(r:15<bV.length)(e:bV.length<100)(l:gv [] bV):ay p w bj ann (HH<|bV.map<|kC pos) ⟨ax g n,cm,bT,t,os⟩ pos n ⟨ax (c0 g n<|b3 (eF t bV) bV.length)<|n+1,cm,bT,t+3*bV.length,os⟩ pos (2+13*bV.length):=by unfold HH;refine ay.steps (ay.bind (n:=1) (k:=1+13*bV.length) (ay.alloc (s:=⟨ax g n,cm,bT,t,os⟩)) ?_)<|(jE _ _ _).symm;show ay p w bj ann _ ⟨(ax g n).push _,cm,bT,t,os⟩ pos n _ pos _;rw[show(⟨ax g n,cm,bT,t,os⟩:aB).heap.objs.size=n from DM g n,Lp];rw[if_neg (by rw[bZ];exact PC.mpr r)];refine ay.steps (ay.bind (a:=()) (n:=1+13*bV.length) (k:=0) (ay.holding<|ay.bind (a:=()) (n:=1) (k:=13*bV.length) ay.rule ?_) ay.pure)<|e7 _ _ _;exact ay.steps (ay.bind (k:=0) (Zc (fS _) h (λZ Z=>rfl) l<|cq e<|by decide) ay.pure) rfl
def ay.sub_short{n t:Nat}(h:bI bj n=ah)(r:bV.length<=15)(l:gv [] bV):ay p w bj ann (HH<|bV.map<|kC pos) ⟨ax g n,cm,bT,t,os⟩ pos n ⟨ax (c0 g n<|b3 (iJ t bV) bV.length)<|n+1,cm,bT,t+2*bV.length+bV.length,os⟩ pos (1+13*bV.length):=by unfold HH;refine ay.steps (ay.bind (n:=1) (k:=13*bV.length) (ay.alloc (s:=⟨ax g n,cm,bT,t,os⟩)) ?_) rfl;show ay p w bj ann _ ⟨(ax g n).push _,cm,bT,t,os⟩ pos n _ pos _;rw[show(⟨ax g n,cm,bT,t,os⟩:aB).heap.objs.size=n from DM g n,Lp];rw[if_pos (by rw[bZ];assumption)];refine ay.steps (ay.bind (a:=()) (n:=13*bV.length) (k:=0) (ay.holding<|ay.steps (ay.bind (n:=3*bV.length) (k:=10*bV.length) (ay.pairs bV _ t)<|ay.holding ?_) (GX 3 10 _).symm) ay.pure) rfl;exact ay.steps (ay.bind (k:=0) (Zf (fS _) h (λZ Z=>rfl) l<|b4 r<|by decide) ay.pure) rfl
def X1:Qk (.ref f) (.type "dict")=(Qm f (I headPart)>>=λx=>Ql x.cls<|.type "dict"):=by unfold Qk typeOf;rfl
def Vj:Ql (.type "dict") (.type "dict")=bq ah:=by kernel_rfl
def ay.XZ{e:Nat->Option cQ}{q:a8}(c:d<y)(r:e d=I (b3 b k)):ay p w bj ann (Qk (.ref d)<|.type "dict") ⟨ax e y,cm,bT,a,os⟩ q ah ⟨ax e y,cm,bT,a,os⟩ q 1:=by rw[X1];refine ay.bind (n:=1) (k:=0) (ay.loadPart (a4:=b3 b k)<|rz c r rfl) ?_;show ay p w bj ann (Ql (.type "dict")<|.type "dict") _ _ _ _ _ _;rw[Vj];exact ay.pure
def QY:Qv (.ref f) m=(Qm f (I headPart)>>=λb=>qU b.cls m):=by unfold Qv typeOf;rfl
def Vi:qU (.type "dict") "__iter__"=bq (I<|.builtin "dict.__iter__"):=by kernel_rfl
def ay.Vg{e:Nat->Option cQ}{q:a8}(c:d<y)(r:e d=I (b3 b k)):ay p w bj ann (Qv (.ref d) "__iter__") ⟨ax e y,cm,bT,a,os⟩ q (I<|.builtin "dict.__iter__") ⟨ax e y,cm,bT,a,os⟩ q 1:=by rw[QY];refine ay.bind (n:=1) (k:=0) (ay.loadPart (a4:=b3 b k)<|rz c r rfl) ?_;show ay p w bj ann (qU (.type "dict") "__iter__") _ _ _ _ _ _;rw[Vi];exact ay.pure
def ve(p:List ff):Prop:=∀a∈p,∃c b t,a=⟨c,.int c b,t⟩
theorem Mo{q:a8}{d gJ V L:Nat}(P:d<V)(H:bI bj d=ah)(E:gJ<V)(K:gJ≠d){C:List ff}(N:ve C){W:Nat->PUnit->cA (ForInStep PUnit)}
  (S:∀c:Nat,W c fq=(do
   let Y<-BR gJ
   match Y[c]?with
   |some r=>do
    gr [r.key,r.val] (Hz d r.hash r.key r.val)
    let Z<-Hy gJ
    if(Z !=L)=ah then do BW "dict.changed-during-merge";bq (hW fq)else bq (hW fq)
   |none=>do BW "dict.changed-during-merge";bq (hW fq))):
  ∀(m l:Nat)(s:Nat->Option cQ)(A k:Nat)(b:List ff),l+m=C.length->s d=some (b3 b k)->s gJ=some (b3 C L)->(b.map (·.hash)++(C.drop l).map (·.hash)).Nodup->b.length+m<100000->
   ay p w bj ann (jB (List.range' l m) fq W) ⟨ax s V,cm,bT,A,os⟩ q fq ⟨ax (c0 s d<|b3 (b++C.drop l)<|k+m) V,cm,bT,A,os⟩ q (6*m)
 |0=>@λl s A k b M O F G T=>by
  rw[List.drop_eq_nil_iff.mpr<|bQ M.symm,Gh O]
  exact ay.pure
 |m+1=>@λl s A k b M O F G T=>by
  have J:l<C.length:=M▸xR (BF m)
  obtain⟨c,B,D,R⟩:=N C[l]<|kP J
  have Q:C.drop l=⟨c,.int c B,D⟩::C.drop (l+1):=by rw[aeW J,R]
  rw[Q]at G ⊢
  have I:∀r∈b,r.hash≠c:=λr X q=>(xO.mp G).2.2 r.hash (ez.mpr ⟨r,X,rfl⟩) c (by simp) q
  refine ay.of_eq (sj ..)<|ay.steps (ay.bind (n:=6) (k:=6*m) (a:=hW fq) (fa:=⟨ax (c0 s d<|b3 (b++[⟨c,.int c B,D⟩])<|k+1) V,cm,bT,A,os⟩) (w3:=q) (ay.of_eq (S _) ?_) ?_)<|e6 6<|6*m
  refine ay.bind (n:=1) (k:=5) (ay.entries E F) ?_
  have:C.toArray[l]?=some ⟨c,.int c B,D⟩:=by rw[oh,hb J,R]
  rw[this]
  dsimp only
  refine ay.bind (n:=4) (k:=1) (ay.holding<|ay.put P H O (b4 (cv _ _) ‹_›) I) ?_
  refine ay.bind (n:=1) (k:=0) (ay.Kr (bA:=C) (k:=L) E<|rwL (oc K) F) ?_
  rw[show(L !=L)=av by simp]
  exact ay.pure
  have U:=Mo (q:=q) P H E K N S m (l+1) (c0 s d<|b3 (b++[⟨c,.int c B,D⟩])<|k+1) A (k+1) (b++[⟨c,.int c B,D⟩]) ((e7 l 1 m).trans M) lu (rwL (oc K) F) (by rw[ig,lC];exact G)<|z1 T
  rw[xv,lC,e7 k]at U
  exact U
def Zd{q:a8}{d gJ G F:Nat}(H:d<G)(B:bI bj d=ah)(j:gJ<G)(l:gJ≠d){A:List ff}(D:ve A){J:Nat->PUnit->cA (ForInStep PUnit)}
  (c:∀L:Nat,J L fq=(do
   let m<-BR gJ
   match m[L]?with
   |some a=>do
    gr [a.key,a.val] (Hz d a.hash a.key a.val)
    let N<-Hy gJ
    if(N !=F)=ah then do BW "dict.changed-during-merge";bq (hW fq)else bq (hW fq)
   |none=>do BW "dict.changed-during-merge";bq (hW fq)))
  {C:Nat->Option cQ} {I k:Nat} {b:List ff} (r:C d=some (b3 b k)) (s:C gJ=some (b3 A F)) (E:(b.map (·.hash)++A.map (·.hash)).Nodup) (M:b.length+A.length<100000):
   ay p w bj ann (jB (aH A.length) fq J) ⟨ax C G,cm,bT,I,os⟩ q fq ⟨ax (c0 C d<|b3 (b++A)<|k+A.length) G,cm,bT,I,os⟩ q (6*A.length):=by
 have K:=Mo (p:=p) (w:=w) (bj:=bj) (ann:=ann) (cm:=cm) (bT:=bT) (os:=os) (q:=q) H B j l D c A.length 0 C I k b (ij _) r s (by simpa using E) (by assumption)
 rw[Bo,<-List.range_eq_range']at K
 exact K
def ay.merge{q:a8}{d sub n k D0 t:Nat}(y:d<n)(h:bI bj d=ah)(j:sub<n)(l:sub≠d)(b:sub≠1)(f:ve c')(A:bA≠[]) (r:g d=I (b3 bA k)) (s:g sub=I (b3 c' D0)) (B:(bA.map (·.hash)++c'.map (·.hash)).Nodup) (e:bA.length+c'.length<100000):ay p w bj ann (mergeMapping d (.ref sub) av) ⟨ax g n,cm,bT,t,os⟩ q () ⟨ax (c0 g d<|b3 (bA++c')<|k+c'.length) n,cm,bT,t,os⟩ q (5+6*c'.length):=by
 unfold mergeMapping;refine ay.steps (ay.bind (n:=1) (k:=4+6*c'.length) (ay.XZ j s) ?_)<|(jE _ _ _).symm;dsimp only;rw[if_pos rfl];try simp only[uK]
 refine ay.steps (ay.bind (n:=1) (k:=3+6*c'.length) (ay.Vg j s) ?_)<|(jE _ _ _).symm;refine ay.steps (ay.bind (n:=0) (a:=ah) (ay.of_eq (congrArg bq<|beq_self_eq_true _) ay.pure) ?_)<|ij _;dsimp only;rw[if_neg<|by simpa[HI]using b];refine ay.steps (ay.bind (n:=1) (k:=2+6*c'.length) (ay.entries y r) ?_)<|(jE _ _ _).symm;rw[if_neg<|by simpa using A];refine ay.steps (ay.bind (n:=1) (k:=1+6*c'.length) (ay.entries j s) ?_)<|(jE _ _ _).symm;refine ay.steps (ay.bind (n:=1) (k:=6*c'.length) (ay.Kr j s) ?_) rfl;rw[show c'.toArray.size=c'.length by simp];exact ay.steps (ay.bind (k:=0) (Zd y h j l f (λc=>congrArg (BR sub>>=·)<|funext λm=>by cases m[c]?<;>rfl) r s B e) ay.pure) rfl
structure HR(p:Program)(w:World)(bj:Nat)(ann:Option Value)(f:Option (Sem Value)×Sem Value->Option Addr×List (Sem Value×Sem Value)->Sem (ForInStep<|Option Addr×List (Sem Value×Sem Value)))
  (tail:Option Addr×List (Sem Value×Sem Value)->Sem Value):Prop where
 small:∀(k v:Sem Value)(main:Option Addr)(run:List (Sem Value×Sem Value)),run.length+1<17->f (some k,v) (main,run)=bq (.yield (main,run++[(k,v)]))
 first:∀(k v:Sem Value)(run:List (Sem Value×Sem Value))(s ae:Shared)(q qj:Pos)(d:Addr)(n:Nat),run.length+1=17->ay p w bj ann (subDict<|run++[(k,v)]) s q d ae qj n->
  ay p w bj ann (f (some k,v) (none,run)) s q (.yield (some d,[])) ae qj n
 next:∀(k v:Sem Value)(run:List (Sem Value×Sem Value))(s ae dj:Shared)(q qj w0:Pos)(d sub:Addr)(n m:Nat),run.length+1=17->ay p w bj ann (subDict<|run++[(k,v)]) s q sub ae qj n->
  ay p w bj ann (mergeMapping d (.ref sub) false) ae qj () dj w0 m->ay p w bj ann (f (some k,v) (some d,run)) s q (.yield (some d,[])) dj w0 (n+m)
 last:∀(run:List (Sem Value×Sem Value))(s ae dj:Shared)(q qj w0:Pos)(d sub:Addr)(n m:Nat),run≠[]->ay p w bj ann (subDict run) s q sub ae qj n->ay p w bj ann (mergeMapping d (.ref sub) false) ae qj () dj w0 m->ay p w bj ann (tail (some d,run)) s q (.ref d) dj w0 (n+m)
 none_:∀(s:Shared)(q:Pos)(d:Addr),ay p w bj ann (tail (some d,[])) s q (.ref d) s q 0
def display:∃y b,(∀er,BQ er=(jB er ((ai:Option aF),([]:List (cA ar×cA ar))) y>>=b))/\HR p w bj ann y b:=by refine⟨_,_,λZ=>rfl,?_,?_,?_,?_,?_⟩;intro k t e eI j;dsimp only;rw[if_neg (by rw[gF];exactλq=>f' j<|bF q)];intro k t eI l ae q i d n j c;dsimp only;rw[if_pos<|rwL gF<|beq_iff_eq.mpr j,if_neg<|by simp];exact ay.steps (ay.bind (k:=0) (ay.bind (k:=0) c ay.pure) ay.pure)<|e7 _ _ _;intro k t eI l ae dj q i a d gJ n r j c x;dsimp only;rw[if_pos<|rwL gF<|beq_iff_eq.mpr j,if_neg<|by simp];exact ay.steps (ay.bind (k:=0) (ay.bind (ay.holding c)<|ay.bind (k:=0) (ay.onRaise<|ay.holding x) ay.pure) ay.pure)<|e7 _ _ _;intro eI l ae dj q i a d gJ n r j c x;dsimp only;rw[if_neg<|by simpa using j];exact ay.steps (ay.bind (k:=0) (ay.bind (ay.holding c)<|ay.bind (k:=0) (ay.onRaise<|ay.holding x) ay.pure) ay.pure)<|e7 _ _ _;intro l q d;dsimp only;rw[if_pos<|by simp];exact ay.bind (n:=0) (k:=0) ay.pure ay.pure
def nY(i:a8)(a:Int×au):Option (cA ar)×cA ar:=(I (kC i a).1,(kC i a).2)
theorem B8{y:Option (cA ar)×cA ar->Option aF×List (cA ar×cA ar)->cA (ForInStep<|Option aF×List (cA ar×cA ar))}(c:∀(k t:cA ar)(x:Option aF)(eI:List (cA ar×cA ar)),eI.length+1<17->y (I k,t) (x,eI)=bq (.yield (x,eI++[(k,t)])))(i:a8)(x:Option aF):∀(d:List (Int×au))(a:List (Option (cA ar)×cA ar))(eI:List (cA ar×cA ar)),eI.length+d.length<17->jB (d.map (nY i)++a) (x,eI) y=jB a (x,eI++d.map (kC i)) y
 |[]=>@λa eI Z=>by simp
 |pr::d=>@λa eI j=>by
  simp only[gG]at j
  rw[c8,GK,sj,nY,c _ _ _ _<|b4 (hB (gS<|cO _) _) j,uL]
  dsimp only
  rw[B8 c i x d a _<|z1 j]
  simp
def La{y:Option (cA ar)×cA ar->Option aF×List (cA ar×cA ar)->cA (ForInStep<|Option aF×List (cA ar×cA ar))}(n:∀(k t:cA ar)(a:Option aF)(eI:List (cA ar×cA ar)),eI.length+1<17->y (I k,t) (a,eI)=bq (.yield (a,eI++[(k,t)])))(i:a8)(a:Option aF)(g:List (Int×au))(w:g.length=17)(d:List (Option (cA ar)×cA ar)):∃eI k t,eI.length+1=17/\eI++[(k,t)]=g.map (kC i)/\jB (g.map (nY i)++d) (a,[]) y=(y (I k,t) (a,eI)>>=λs=>match s with|.done p=>bq p|.yield p=>jB d p y):=by
 have l:g≠[]:=by intro j;rw[j]at w;cases w
 have q:=List.dropLast_concat_getLast l;refine⟨g.dropLast.map<|kC i,(kC i<|g.getLast l).1,(kC i<|g.getLast l).2,by simp;assumption,?_,?_⟩
 ·conv=>rhs;rw[<-q]
  simp
 ·conv=>lhs;rw[<-q]
  rw[ig,lC,B8 n i a g.dropLast _ [] (by rw[List.length_nil,List.length_dropLast,w];decide)];simp only[nY,GR,c8,List.map_nil,List.singleton_append,GK,sj];refine congrArg (_>>=·)<|funext λm=>?_;cases m<;>rfl
set_option genInjectivity false in
structure dQ where
 g:Nat->Option Obj
 n:Nat
 t:Nat
 k:Nat
 bA:List DictEntry
def dQ.next(d:Nat)(a:List (Int×au))(m:dQ):dQ:=⟨c0 (c0 m.g m.n<|b3 (eF m.t a) 17) d<|b3 (m.bA++eF m.t a)<|m.k+17,m.n+1,m.t+51,m.k+17,m.bA++eF m.t a⟩
def dQ.run(d:Nat):List (List<|Int×au)->dQ->dQ|[],m=>m|c::aS,m=>dQ.run d aS<|m.next d c
def dQ.last(d:Nat)(w:List (Int×au))(m:dQ):dQ:=⟨c0 (c0 m.g m.n<|b3 (iJ m.t w) w.length) d<|b3 (m.bA++iJ m.t w)<|m.k+w.length,m.n+1,m.t+2*w.length+w.length,m.k+w.length,m.bA++iJ m.t w⟩
def gv.left(j:gv b (g++r)):gv [] g:=by refine⟨?_,λm ag=>j.2 m<|mx _ ag⟩;have:=j.1;rw[ig]at this;have:=(xO.mp (xO.mp this).2.1).1;simpa using this
def gv.pass(j:gv b (g++a))(i:c'.map (·.hash)=g.map (·.1)):gv (b++c') a:=by refine⟨?_,λm ag=>j.2 m<|my _ ag⟩;have:=j.1;simpa[i]using this
def gv.meet{b p:List ff}(j:gv b (g++r))(i:p.map (·.hash)=g.map (·.1)):(b.map (·.hash)++p.map (·.hash)).Nodup:=by have:=j.1;rw[ig,<-lC]at this;rw[i];exact(xO.mp this).1
theorem J9:∀(k:Nat)(a:List (Int×au)),ve (eF k a)
 |Z,[]=>λZ j=>nomatch j
 |k,(c,m)::w=>λb j=>by
  rcases c9.mp j with rfl|j
  exact⟨_,_,_,rfl⟩
  exact J9 (k+3) w b j
theorem NI:∀(k:Nat)(a:List (Int×au)),ve (iJ k a)
 |Z,[]=>λZ j=>nomatch j
 |k,(c,m)::w=>λb j=>by
  rcases c9.mp j with rfl|j
  exact⟨_,_,_,rfl⟩
  exact NI (k+2) w b j
def Jc{bj d r:Nat}(j:bI bj d=ah)(i:d<r):bI bj r=ah:=pA<|ao (afk j)<|d_ i
theorem Mn{d:Nat}(C:bI bj d=ah)(J:1<=d)(af:HR p w bj ann y s)(K:h.length<=15)(H:h≠[]):∀(aS:List (List<|Int×au))(m:dQ),(∀c∈aS,c.length=17)->d<m.n->m.g d=I (b3 m.bA m.k)->m.bA≠[]->gv m.bA (aS.flatten++h)->m.bA.length+17*aS.length<90000->ay p w bj ann (jB ((aS.flatten++h).map<|nY i) (I d,[]) y>>=s) ⟨ax m.g m.n,cm,bT,m.t,os⟩ i (.ref d) ⟨ax ((m.run d aS).last d h).g ((m.run d aS).last d h).n,cm,bT,((m.run d aS).last d h).t,os⟩ i (330*aS.length+(6+19*h.length)):=by
 intro aS;induction aS with
 |nil=>
  intro m D A E j l B
  have G:m.n≠d:=by exact ih ‹_›
  rw[show([]:List (List<|Int×au)).flatten++h=h from rfl]at l ⊢
  have Q:jB (h.map<|nY i) ((I d:Option aF),([]:List (cA ar×cA ar))) y=bq (I d,h.map<|kC i):=by have:=B8 af.small i (I d) h [] [] (by simp;exact b4 ‹_›<|by decide);simpa using this
  rw[Q,uL]
  have N:=ay.sub_short (p:=p) (w:=w) (bj:=bj) (ann:=ann) (cm:=cm) (bT:=bT) (os:=os) (pos:=i) (bV:=h) (g:=m.g) (n:=m.n) (t:=m.t) (Jc C A) K (gv.left (r:=[])<|by simpa using l)
  have O:=ay.merge (p:=p) (w:=w) (bj:=bj) (ann:=ann) (cm:=cm) (bT:=bT) (os:=os) (q:=i) (d:=d) (sub:=m.n) (n:=m.n+1) (k:=m.k) (D0:=h.length) (t:=m.t+2*h.length+h.length) (g:=c0 m.g m.n<|b3 (iJ m.t h) h.length) (bA:=m.bA) (c':=iJ m.t h)
   (cq ‹_›<|cv _ _) C (fS _) G (ih<|b4 J A) (NI _ _) j (by rw[oc<|nq G];exact E) lu (gv.meet (r:=[]) (by simpa using l)<|NH _ _) (by rw[FJ];exact cq (afb B K)<|by decide)
  have:=af.last (h.map<|kC i) _ _ _ _ _ _ d m.n _ _ (by simpa using H) N O
  rw[FJ]at this
  exact ay.steps this (by rw[Pr,<-GX];exact(ij _).symm)
 |cons c aS IH=>
  intro m D A E j l B
  have G:m.n≠d:=by exact ih ‹_›
  have F:=D c (dA ..)
  obtain⟨eI,k,S,M,L,Q⟩:=La af.small i (I d) c F<|(aS.flatten++h).map<|nY i
  rw[uM,lC]at l ⊢
  rw[ig,Q]
  simp only[gG]at B
  have N:=ay.N1 (p:=p) (w:=w) (bj:=bj) (ann:=ann) (cm:=cm) (bT:=bT) (os:=os) (pos:=i) (bV:=c) (g:=m.g) (n:=m.n) (t:=m.t) (Jc C A) (F▸by decide) (F▸by decide) l.left
  have O:=ay.merge (p:=p) (w:=w) (bj:=bj) (ann:=ann) (cm:=cm) (bT:=bT) (os:=os) (q:=i) (d:=d) (sub:=m.n) (n:=m.n+1) (k:=m.k) (D0:=c.length) (t:=m.t+3*c.length) (g:=c0 m.g m.n<|b3 (eF m.t c) c.length) (bA:=m.bA) (c':=eF m.t c)
   (cq ‹_›<|cv _ _) C (fS _) G (ih<|b4 J A) (J9 _ _) j (by rw[oc<|nq G];exact E) lu (l.meet<|za _ _) (by rw[tg,F];exact b4 (qE (ao (cv ..)<|d_ B) 17)<|by decide)
  rw[<-L]at N
  have lR:=af.next k S eI _ _ _ _ _ _ d m.n _ _ M N O
  rw[tg,F]at lR
  rw[uK]
  refine ay.steps (ay.bind lR ?_) (n:=(2+13*17+(5+6*17))+(330*aS.length+(6+19*h.length))) ((jE 330 (330*aS.length) _).symm.trans (congrArg (·+_)<|e6 330<|330*aS.length))
  dsimp only
  exact IH (m.next d c) (λP R=>D P<|dt _ R) (by show d<m.n+1;exact cq ‹_›<|cv _ _) lu (by show m.bA++eF m.t c≠[];simp[j]) (l.pass<|za _ _) (by show(m.bA++eF m.t c).length+_<_;rw[gF,tg,F,jE,e6 17];exact B)
theorem ay.display{n t:Nat}{aS:List (List<|Int×au)}(A:bI bj n=ah)(s:1<=n)(B:b.length=17)(E:∀b∈aS,b.length=17)(H:d.length<=15)(q:d≠[]) (l:gv [] (b++(aS.flatten++d))) (I:17*aS.length<80000) (ag:m=((dQ.mk (c0 g n<|b3 (eF t b) 17) (n+1) (t+51) 17<|eF t b).run n aS).last n d):ay p w bj ann (BQ<|(b++(aS.flatten++d)).map<|nY i) ⟨ax g n,cm,bT,t,os⟩ i (.ref n) ⟨ax m.g m.n,cm,bT,m.t,os⟩ i (223+(330*aS.length+(6+19*d.length))):=by
 subst ag;obtain⟨y,J,L,af⟩:=Mine.display (p:=p) (w:=w) (bj:=bj) (ann:=ann);obtain⟨eI,k,N,j,C,G⟩:=La af.small i ai b B<|(aS.flatten++d).map<|nY i;rw[L,ig,G,uK];have K:=ay.N1 (p:=p) (w:=w) (bj:=bj) (ann:=ann) (cm:=cm) (bT:=bT) (os:=os) (pos:=i) (bV:=b) (g:=g) (n:=n) (t:=t) A (B▸by decide) (B▸by decide) l.left;rw[<-C]at K;have D:=af.first k N eI _ _ _ _ n _ j K
 rw[B]at D;refine ay.bind D ?_;dsimp only;have F:eF t b≠[]:=by intro M;have:=congrArg sk M;rw[tg,B]at this;cases this
 exact Mn A s af H q aS ⟨c0 g n<|b3 (eF t b) 17,n+1,t+51,17,eF t b⟩ E (fS n) lu F (by have:=l.pass (c':=eF t b)<|za _ _;simpa using this) (by show(eF t b).length+_<_;rw[tg,B];exact cq (xQ I 17)<|by decide)
theorem dQ.Fv(d:Nat):∀(aS:List (List<|Int×au))(m:dQ),(m.run d aS).n=m.n+aS.length|[]=>@λm=>rfl|c::aS=>@λm=>by show(dQ.run d aS<|m.next d c).n=_;rw[dQ.Fv d aS];show m.n+1+_=_;simp;exact e7 _ _ _
theorem dQ.Nt(d:Nat):∀(aS:List (List<|Int×au))(m:dQ),(m.run d aS).t=m.t+51*aS.length|[]=>@λm=>rfl|c::aS=>@λm=>by show(dQ.run d aS<|m.next d c).t=_;rw[dQ.Nt d aS];show m.t+51+_=_;simp;exact e7 _ _ _
theorem dQ.Fu(d:Nat):∀(aS:List (List<|Int×au))(m:dQ)(a:Nat),a≠d->a<m.n->(m.run d aS).g a=m.g a
 |[]=>@λm a Z t=>rfl
 |c::aS=>@λm a j b=>by
  show(dQ.run d aS<|m.next d c).g a=_
  rw[dQ.Fu d aS _ a j (by show a<m.n+1;exact cq ‹_›<|cv _ _)]
  show c0 (c0 m.g m.n _) d _ a=_
  rw[oc j,oc<|f' ‹_›]
theorem dQ.Nr(d:Nat):∀(aS:List (List<|Int×au))(m:dQ)(w:Nat),d<m.n->(b:w<aS.length)->(m.run d aS).g (m.n+w)=I (b3 (eF (m.t+51*w) aS[w]) 17)
 |c::aS,m,0,a,Z=>by
  show(dQ.run d aS<|m.next d c).g (m.n+0)=_
  rw[dQ.Fu d aS _ _ (ih a)<|fS m.n]
  show c0 (c0 m.g m.n _) d _ (m.n+0)=_
  rw[oc<|ih a]
  exact lu
 |c::aS,m,w+1,a,b=>by
  show(dQ.run d aS<|m.next d c).g (m.n+(w+1))=_
  have:=dQ.Nr d aS (m.next d c) w (by show d<m.n+1;exact cq ‹_›<|cv _ _) (by simpa using b)
  rw[show m.n+(w+1)=(m.next d c).n+w from(e7 m.n w 1),this]
  show I (b3 (eF (m.t+51+51*w) _) 17)=_
  rw[show m.t+51+51*w=m.t+51*(w+1)by exact e7 _ _ _]
  rfl
def dQ.S3{x:dQ}{aS:List (List<|Int×au)}(D:d<x.n)(C:c=x.n+aS.length+1) (m:∀y,y<x.n->y≠d->x.g y=a y) (yu:∀w,(p:w<aS.length)->a (x.n+w)=I (b3 (eF (x.t+51*w) aS[w]) 17)) (s:a (x.n+aS.length)=I (b3 (iJ (x.t+51*aS.length) b) b.length)) (f:a d=I (b3 ((x.run d aS).last d b).bA ((x.run d aS).last d b).k)):ax ((x.run d aS).last d b).g c=ax a c:=by
 refine Xy<|jb λy A=>?_;have A:y<c:=by simpa using A
 by_cases q:y=d;subst q;rw[f];exact lu;show c0 (c0 (x.run d aS).g (x.run d aS).n _) d _ y=_;rw[oc q];by_cases B:y=x.n+aS.length;subst B;rw[s,dQ.Fv,dQ.Nt];exact lu;rw[oc (by rw[dQ.Fv];exact B)];by_cases E:y<x.n;rw[dQ.Fu d aS x y q E,m y E q];obtain⟨w,rfl⟩:∃w,y=x.n+w:=⟨y -x.n,by exact(afc<|nj ‹_›).symm⟩;have p:w<aS.length:=sq (ni<|Nat.lt_of_add_lt_add_left<|jE x.n aS.length 1▸C▸A) λq=>B<|q▸rfl;rw[dQ.Nr d aS x w D p,yu w p]
end
section
noncomputable def kk(f:Option (Option ar))(p:Bool):Bool:=p
noncomputable def kp{α β:Type}(a:Option α)(l:Option β):Option β:=l
def kE{s:Type}(d w:Option s):Prop:=kp (#[w][0]?) d=w
inductive af where
 |none
 |bool (b:Bool)
 |int (i:Int)
 |float (x:UInt64)
 |str (s:Str)
 |tuple (l:List af)
 |list (l:List af)
 |obj (c:Addr) (c':List (Str×af))
 |dict (c':List (Str×af))
 |ref (a:Addr)
mutual
inductive Rz(X:Addr->Prop)(h:Heap):Value->af->Prop
 |none:Rz X h .none .none
 |bool (b):Rz X h (.bool b) (.bool b)
 |int (i t):Rz X h (.int i t) (.int i)
 |float (x t) (n:t≠0):Rz X h (.float x t) (.float x)
 |str (s t):Rz X h (.str s t) (.str s)
 |ref (a):Rz X h (.ref a) (.ref a)
 |tuple {a aa ds n}:¬X a->h.get? a=some ⟨.type "tuple",none,.seq ⟨aa⟩ n,#[]⟩->RzL X h aa ds->Rz X h (.ref a) (.tuple ds)
 |list {a aa ds n}:¬X a->h.get? a=some ⟨.type "list",none,.seq ⟨aa⟩ n,#[]⟩->RzL X h aa ds->Rz X h (.ref a) (.list ds)
 |obj {a cG C bA n c'}:¬X a->¬X cG->h.get? a=some (instObj C cG)->h.get? cG=some ⟨.type "dict",none,.dict ⟨bA⟩ n,#[]⟩->dh X h bA c'->Rz X h (.ref a) (.obj C c')
 |dict {a bA n c'}:¬X a->(a==sysModules)=false->h.get? a=some ⟨.type "dict",none,.dict ⟨bA⟩ n,#[]⟩->dh X h bA c'->Rz X h (.ref a) (.dict c')
inductive RzL(X:Addr->Prop)(h:Heap):List Value->List af->Prop
 |nil:RzL X h [] []
 |cons {v aa d ds}:Rz X h v d->RzL X h aa ds->RzL X h (v::aa) (d::ds)
inductive dh(X:Addr->Prop)(h:Heap):List DictEntry->List (Str×af)->Prop
 |nil:dh X h [] []
 |cons {wh x t v bA d ds}:Rz X h v d->dh X h bA ds->dh X h (⟨wh,.str x t,v⟩::bA) ((x,d)::ds)
end
section
variable{X:aF->Prop}{h:cP}{v:ar}{G:Prop}
def Ik(X:aF->Prop)(h:cP)(v:ar)(G:Prop):af->Prop|.none=>(v=.none->G)->G|.bool d=>(v=.bool d->G)->G|.int c=>(∀k,v=.int c k->G)->G|.float m=>(∀k,k≠0->v=.float m k->G)->G|.str m=>(∀k,v=.str m k->G)->G|.ref f=>(v=.ref f->G)->G|.tuple g=>(∀f aa y,¬X f->h.get? f=I ⟨.type "tuple",ai,.seq ⟨aa⟩ y,#[]⟩->RzL X h aa g->v=.ref f->G)->G|.list g=>(∀f aa y,¬X f->h.get? f=I ⟨.type "list",ai,.seq ⟨aa⟩ y,#[]⟩->RzL X h aa g->v=.ref f->G)->G|.dict p=>(∀f e y,¬X f->(f==HI)=av->h.get? f=I ⟨.type "dict",ai,.dict ⟨e⟩ y,#[]⟩->dh X h e p->v=.ref f->G)->G|.obj l p=>(∀f cG e y,¬X f->¬X cG->h.get? f=I (mB l cG)->h.get? cG=I ⟨.type "dict",ai,.dict ⟨e⟩ y,#[]⟩->dh X h e p->v=.ref f->G)->G
def Rz.inv(f:Rz X h v d):Ik X h v G d:=f.casesOn (motive_1:=λv d _=>Ik X h v G d) (λk=>k rfl) (λ_ k=>k rfl) (λ_ a k=>k a rfl) (λ_ a e k=>k a e rfl) (λ_ a k=>k a rfl) (λ_ k=>k rfl) (λm b ab k=>k _ _ _ m b ab rfl) (λm b ab k=>k _ _ _ m b ab rfl) (λm b ab c q k=>k _ _ _ _ m b ab c q rfl) λm b ab c k=>k _ _ _ m b ab c rfl
def Rz.nK(w:Rz X h v .none):(v=.none->G)->G:=w.inv
def Rz.bK(w:Rz X h v (.bool p)):(v=.bool p->G)->G:=w.inv
def Rz.iK(w:Rz X h v (.int c)):(∀k,v=.int c k->G)->G:=w.inv
def Rz.fK(w:Rz X h v (.float m)):(∀k,k≠0->v=.float m k->G)->G:=w.inv
def Rz.sK(w:Rz X h v (.str m)):(∀k,v=.str m k->G)->G:=w.inv
def Rz.rK{f}(w:Rz X h v (.ref f)):(v=.ref f->G)->G:=w.inv
def Rz.tK(w:Rz X h v (.tuple g)):(∀f aa y,¬X f->h.get? f=I ⟨.type "tuple",ai,.seq ⟨aa⟩ y,#[]⟩->RzL X h aa g->v=.ref f->G)->G:=w.inv
def Rz.lK(w:Rz X h v (.list g)):(∀f aa y,¬X f->h.get? f=I ⟨.type "list",ai,.seq ⟨aa⟩ y,#[]⟩->RzL X h aa g->v=.ref f->G)->G:=w.inv
def Rz.dK(w:Rz X h v (.dict p)):(∀f b y,¬X f->(f==HI)=av->h.get? f=I ⟨.type "dict",ai,.dict ⟨b⟩ y,#[]⟩->dh X h b p->v=.ref f->G)->G:=w.inv
def Il(X:aF->Prop)(h:cP)(aa:List ar)(G:Prop):List af->Prop|[]=>(aa=[]->G)->G|d::g=>(∀v n,Rz X h v d->RzL X h n g->aa=v::n->G)->G
def RzL.inv{aa g}(w:RzL X h aa g):Il X h aa G g:=w.casesOn (motive_2:=λaa g _=>Il X h aa G g) (λk=>k rfl) λf p k=>k _ _ f p rfl
def RzL.nK{aa}(w:RzL X h aa []):(aa=[]->G)->G:=w.inv
def RzL.cK{aa d ds}(w:RzL X h aa (d::ds)):(∀v n,Rz X h v d->RzL X h n ds->aa=v::n->G)->G:=w.inv
def RzL.Um{v aa d g}(w:RzL X h (v::aa) (d::g))(k:Rz X h v d->RzL X h aa g->G):G:=by cases w with|cons f p=>exact k f p
def RzL.nV(w:RzL X h [] g)(k:g=[]->G):G:=by cases w;exact k rfl
def RzL.cV{v aa g}(w:RzL X h (v::aa) g)(k:∀d c,Rz X h v d->RzL X h aa c->g=d::c->G):G:=by cases w with|cons f p=>exact k _ _ f p rfl
def RzL.cN{v aa}(r:RzL X h (v::aa) []):G:=by cases r
def RzL.nC(w:RzL X h [] (d::g)):G:=by cases w
end
def fO(x:cQ):Prop:=x.cls=.type "code"/\∃p,x.data=.fields p
def Af{j:cP}{f:aF}{x:cQ}(i:j.get? f=I x)(y:¬fO x):∀d,j.get? f=I d->¬fO d:=λd g=>by rw[i]at g;cases g;exact y
def MD{a6:Array ar}:¬fO ⟨f,d,.seq a6 y,r⟩:=λj=>by obtain⟨Z,p,i⟩:=j;cases i
def Ag{j:cP}{f:aF}{r:au->Option ar}(y:j.Ns f r):∀x,j.get? f=I x->¬fO x:=λx i q=>by obtain⟨c,b,s,g,d,Z⟩:=y;rw[i]at g;cases g;obtain⟨Z,p,aM⟩:=q;rw[d]at aM;cases aM
set_option genInjectivity false in
structure bS where
 prog:Program
 w:World
 T:Addr->Prop
 P:Addr->Prop
 G:Addr
 B:Addr
 fb:Heap->Prop
 m9:∀h hr:Heap,fb h->(∀b a4,T b\/P b\/fO a4->h.get? b=some a4->hr.get? b=some a4)->fb hr
 MU:∀(h:Heap)(a:Addr),fb h->P a->∃a4,h.get? a=some a4
 booked:∀h,fb h->NoneBooked h
 N_:∀h,fb h->∃a4,h.get? sysModules=some a4
def bS.keeps(l:bS)(j d:cP)(a:l.fb j)(k:∀p x,j.get? p=I x->d.get? p=I x):l.fb d:=l.m9 j d a λp x Z i=>k p x i
def bS.step(l:bS)(j d:cP)(f:aF)(y:¬l.T f)(s:¬l.P f)(g:∀x,j.get? f=I x->¬fO x)(m:l.fb j)(k:x3 f j d):l.fb d:=l.m9 j d m λp x c i=>(k.2 p λq=>by subst q;exact c.elim y λab=>ab.elim s<|g x i).trans i
variable{C:bS}
structure aw(C:bS)(s ae:Shared):Prop where
 same:∃h eV,ae={s with heap:=h,toks:=eV}
 keep:∀b a4,s.heap.get? b=some a4->¬C.T b->ae.heap.get? b=some a4
 tabs:∀b,C.T b->∀bV,s.heap.get? b=some (tableObj bV)->∃more,ae.heap.get? b=some (tableObj<|bV++more)
 ok:C.fb s.heap->C.fb ae.heap
 toks:s.toks<=ae.toks
def aw.refl(l:aB):aw C l l:=⟨⟨_,_,rfl⟩,λZ Z i Z=>i,λZ Z r i=>⟨#[],by simpa using i⟩,id,cz _⟩
def aw.trans(f:aw C l ae)(p:aw C ae dj):aw C l dj:=by refine⟨?_,λc n i k=>p.keep c n (f.keep c n i k) k,λc k r i=>?_,λj=>p.ok<|f.ok j,ao f.toks p.toks⟩;obtain⟨j,y,rfl⟩:=f.same;obtain⟨d,q,rfl⟩:=p.same;exact⟨_,_,rfl⟩;obtain⟨w,i⟩:=f.tabs c k r i;obtain⟨g,i⟩:=p.tabs c k _ i;exact⟨w++g,by rw[i,uE]⟩
def aw.of_keep{s:aB}{h:cP}{eV:Nat}(k:∀p x,s.heap.get? p=I x->h.get? p=I x)(y:s.toks<=eV:=by first|exact cz _|exact pB _|assumption|exact cv _ 2|exact cv _ 3):aw C s {s with heap:=h,toks:=eV}:=⟨⟨_,_,rfl⟩,λp x i Z=>k p x i,λp Z r i=>⟨#[],by simpa using k p _ i⟩,λa=>C.keeps _ _ a k,y⟩
def aw.tok{l:aB}{f:Nat}(y:l.toks<=f:=by first|exact cz _|exact pB _|assumption|exact cv _ 2|exact cv _ 3):aw C l {l with toks:=f}:=⟨⟨_,_,rfl⟩,λZ Z i Z=>i,λZ Z r i=>⟨#[],by simpa using i⟩,id,y⟩
theorem aw.push{s:aB}{x:cQ}{eV:Nat}(y:s.toks<=eV:=by first|exact cz _|exact pB _|assumption|exact cv _ 2|exact cv _ 3):aw C s {s with heap:=s.heap.push x,toks:=eV}:=aw.of_keep (λZ Z i=>fA _ i) y
theorem aw.some{l ae:aB}(c:aw C l ae){p:aF}{a:cQ}(i:l.heap.get? p=I a)(w:C.T p->∃r,a=sD r):∃d,ae.heap.get? p=I d:=by by_cases k:C.T p;obtain⟨r,rfl⟩:=w k;obtain⟨f,i⟩:=c.tabs p k r i;exact⟨_,i⟩;exact⟨a,c.keep p a i k⟩
def Cc(c s:aF->Prop)(j d:cP):Prop:=∀p x,¬c p->j.get? p=I x->¬s p/\d.get? p=I x
def Rz.map(k:Cc g s j f)(w:Rz g j t d):Rz s f t d:=Rz.rec (motive_1:=λt d Z=>Rz s f t d) (motive_2:=λt d Z=>RzL s f t d) (motive_3:=λt d Z=>dh s f t d) .none .bool .int .float .str .ref (λl p Z n=>.tuple (k _ _ l p).1 (k _ _ l p).2 n) (λl p Z n=>.list (k _ _ l p).1 (k _ _ l p).2 n) (λl p n d Z i=>.obj (k _ _ l n).1 (k _ _ p d).1 (k _ _ l n).2 (k _ _ p d).2 i) (λl q p Z n=>.dict (k _ _ l p).1 q (k _ _ l p).2 n) .nil (λZ Z l p=>.cons l p) .nil (λZ Z l p=>.cons l p) w
def RzL.map(k:Cc g s j f)(w:RzL g j t d):RzL s f t d:=RzL.rec (motive_1:=λt d Z=>Rz s f t d) (motive_2:=λt d Z=>RzL s f t d) (motive_3:=λt d Z=>dh s f t d) .none .bool .int .float .str .ref (λl p Z n=>.tuple (k _ _ l p).1 (k _ _ l p).2 n) (λl p Z n=>.list (k _ _ l p).1 (k _ _ l p).2 n) (λl p n d Z i=>.obj (k _ _ l n).1 (k _ _ p d).1 (k _ _ l n).2 (k _ _ p d).2 i) (λl q p Z n=>.dict (k _ _ l p).1 q (k _ _ l p).2 n) .nil (λZ Z l p=>.cons l p) .nil (λZ Z l p=>.cons l p) w
def dh.map(k:Cc g s j f)(w:dh g j t d):dh s f t d:=dh.rec (motive_1:=λt d Z=>Rz s f t d) (motive_2:=λt d Z=>RzL s f t d) (motive_3:=λt d Z=>dh s f t d) .none .bool .int .float .str .ref (λl p Z n=>.tuple (k _ _ l p).1 (k _ _ l p).2 n) (λl p Z n=>.list (k _ _ l p).1 (k _ _ l p).2 n) (λl p n d Z i=>.obj (k _ _ l n).1 (k _ _ p d).1 (k _ _ l n).2 (k _ _ p d).2 i) (λl q p Z n=>.dict (k _ _ l p).1 q (k _ _ l p).2 n) .nil (λZ Z l p=>.cons l p) .nil (λZ Z l p=>.cons l p) w
def dh.ind{X:aF->Prop}{h:cP}{P:∀bA c',dh X h bA c'->Prop}(n:P [] [] .nil)(c:∀{wh x t v bA d c'}(a:Rz X h v d)(b:dh X h bA c'),P bA c' b->P (⟨wh,.str x t,v⟩::bA) ((x,d)::c') (.cons a b)){bA:List ff}{c':List (au×af)}(r:dh X h bA c'):P bA c' r:=dh.rec (motive_1:=λ_ _ _=>True) (motive_2:=λ_ _ _=>True) (motive_3:=P) trivial (λ_=>trivial) (λ_ _=>trivial) (λ_ _ _=>trivial) (λ_ _=>trivial) (λ_=>trivial) (λ_ _ _ _=>trivial) (λ_ _ _ _=>trivial) (λ_ _ _ _ _ _=>trivial) (λ_ _ _ _ _=>trivial) trivial (λ_ _ _ _=>trivial) n (λa b _ e=>c a b e) r
def Rz.mono(k:∀p x,¬c p->j.get? p=I x->hr.get? p=I x)(w:Rz c j t d):Rz c hr t d:=w.map λp x y i=>⟨y,k p x y i⟩
def Rz.less(k:∀p,s p->c p)(w:Rz c j t d):Rz s j t d:=w.map λp x a i=>⟨λf=>a<|k p f,i⟩
def Rz.more(k:∀p x,j.get? p=I x->Y p->c p)(w:Rz c j t d):Rz Y j t d:=w.map λp x a i=>⟨λf=>a<|k p x i f,i⟩
def RzL.mono(k:∀p x,¬c p->j.get? p=I x->hr.get? p=I x)(w:RzL c j t d):RzL c hr t d:=w.map λp x y i=>⟨y,k p x y i⟩
def RzL.less(k:∀p,s p->c p)(w:RzL c j t d):RzL s j t d:=w.map λp x a i=>⟨λf=>a<|k p f,i⟩
def RzL.more(k:∀p x,j.get? p=I x->Y p->c p)(w:RzL c j t d):RzL Y j t d:=w.map λp x a i=>⟨λf=>a<|k p x i f,i⟩
def dh.mono(k:∀p x,¬c p->j.get? p=I x->hr.get? p=I x)(w:dh c j t d):dh c hr t d:=w.map λp x y i=>⟨y,k p x y i⟩
def dh.less(k:∀p,s p->c p)(w:dh c j t d):dh s j t d:=w.map λp x a i=>⟨λf=>a<|k p f,i⟩
def dh.more(k:∀p x,j.get? p=I x->Y p->c p)(w:dh c j t d):dh Y j t d:=w.map λp x a i=>⟨λf=>a<|k p x i f,i⟩
theorem RzL.length:∀{g aa},RzL c j aa g->aa.length=g.length|[]=>λw=>w.nK λi=>i▸rfl|Z::t=>λw=>w.cK λZ Z Z p i=>i▸congrArg (·+1) p.length
theorem RzL.IQ(q:RzL c j n d):∀{g aa},RzL c j aa g->RzL c j (aa++n) (g++d)|[]=>λw=>w.nK λi=>i▸q|Z::t=>λw=>w.cK λZ Z f p i=>i▸.cons f (RzL.IQ q p)
def RzL.append{aa g n b}(w:RzL c j aa g)(q:RzL c j n b):RzL c j (aa++n) (g++b):=RzL.IQ q w
theorem RzL.get:∀{g aa},RzL c j aa g->∀{i:Nat},g[i]?=I d->∃l,aa[i]?=I l/\Rz c j l d|[],Z,t,y=>@λk=>nS k|Z::t,y,w,0=>@λk=>w.cK λl Z f Z q=>q▸⟨l,rfl,aZ k▸f⟩|Z::t,y,w,i+1=>@λk=>w.cK λZ Z Z p q=>q▸p.get (i:=i) k
theorem RzL.take:∀{g aa},RzL c j aa g->∀y,RzL c j (aa.take y) (g.take y)|Z,t,d,0=>.nil|[],Z,w,t+1=>w.nK λi=>i▸.nil|Z::t,d,w,y+1=>w.cK λZ Z f p i=>i▸.cons f (p.take y)
theorem RzL.drop:∀{g aa},RzL c j aa g->∀y,RzL c j (aa.drop y) (g.drop y)|Z,t,w,0=>w|[],Z,w,t+1=>w.nK λi=>i▸.nil|Z::t,a,w,y+1=>w.cK λZ Z Z p i=>i▸p.drop y
structure bf(C:bS)(X:Addr->Prop)(A:Around)(fuel:Nat)(s:Shared):Prop where
 handled:A.handled=none
 depth:A.depth+fuel<1000
 units:A.units+4*fuel<9000
 guards:A.guards=some []
 cI:∀a,X a->∃a4,s.heap.get? a=some a4/\(C.T a->∃bV,a4=tableObj bV)
 a_:∀a,C.T a->X a
 ok:C.fb s.heap
 tok:s.toks≠0
def bf.ext(b:bf C c k y l)(d:aw C l ae):bf C c k y ae:=⟨b.handled,b.depth,b.units,b.guards,λf h=>by
  obtain⟨j,i,p⟩:=b.cI f h;by_cases w:C.T f;obtain⟨r,rfl⟩:=p w;obtain⟨B,i⟩:=d.tabs f w r i;exact⟨_,i,λZ=>⟨_,rfl⟩⟩;exact⟨j,d.keep f j i w,λq=>absurd q w⟩,b.a_,d.ok b.ok,λi=>b.tok<|G1.mp<|i▸d.toks⟩
theorem bf.mono(f:bf C c k y l)(m:aw C l ae)(w:Rz c l.heap a d):Rz c ae.heap a d:=w.mono λp h q i=>m.keep p h i λj=>q<|f.a_ p j
def bf.gn(f:bf C c k y l)(m:aw C l ae)(w:RzL c l.heap a d):RzL c ae.heap a d:=w.mono λp h q i=>m.keep p h i λj=>q<|f.a_ p j
def bf.fuel(e:bf C c k y l)(j:r<=y):bf C c k r l:=⟨e.handled,b4 (hB j _) e.depth,b4 (hB (iN 4 j) _) e.units,e.guards,e.cI,e.a_,e.ok,e.tok⟩
def bf.fresh(a:bf C c k y l):¬c l.heap.objs.size:=λag=>by obtain⟨x,i,Z⟩:=a.cI _ ag;exact absurd (il i)<|qG _
set_option genInjectivity false in
structure b_ where
 env:Env
 X:Addr->Prop
 Y:Addr->Prop
 A:Around
 fuel:Nat
 pin:Str->Option Value:=λ_=>.none
def mL(C:bS)(g:b_)(b:cA ar)(k:aB)(d:af):Prop:=∀l,aw C k l->bf C g.X g.A g.fuel l->∀(h:ar->aB->Prop)(j:ar->aB->Prop),(∀a ae,aw C l ae->Rz g.X ae.heap a d->h a ae)->aL (aQ C.prog C.w) g.A b h j l
abbrev bu(C:bS)(g:b_)(i:aq)(k:aB)(d:af):Prop:=mL C g (cx i g.env) k d
def jL(C:bS)(g:b_)(d:List (Bool×cA ar))(k:aB)(b:List af):Prop:=∀a,aw C k a->bf C g.X g.A g.fuel a->∀(h:List ar->aB->Prop)(j:ar->aB->Prop),(∀aa ae,aw C a ae->RzL g.X ae.heap aa b->h aa ae)->aL (aQ C.prog C.w) g.A (spliced d) h j a
def pN(C:bS)(e:ar->cA ar)(b d:af):Prop:=∀(c:aF->Prop)(k:ef)(y:Nat)(l:aB)(t:ar),bf C c k y l->Rz c l.heap t b->∀(h:ar->aB->Prop)(j:ar->aB->Prop),(∀t ae,aw C l ae->Rz c ae.heap t d->h t ae)->aL (aQ C.prog C.w) k (e t) h j l
def dJ(C:bS)(g:ar->ar->cA ar)(e p d:af):Prop:=∀(c:aF->Prop)(k:ef)(y:Nat)(l:aB)(t i:ar),bf C c k y l->Rz c l.heap t e->Rz c l.heap i p->∀(h:ar->aB->Prop)(j:ar->aB->Prop),(∀t ae,aw C l ae->Rz c ae.heap t d->h t ae)->aL (aQ C.prog C.w) k (g t i) h j l
def eg(C:bS)(y:ar)(a:List af)(e:Nat)(d:af):Prop:=∀(c:aF->Prop)(k:ef)(l:aB)(aa:List ar),bf C c k e l->RzL c l.heap aa a->∀(h:ar->aB->Prop)(j:ar->aB->Prop),(∀t ae,aw C l ae->Rz c ae.heap t d->h t ae)->aL (aQ C.prog C.w) k (fu y aa []) h j l
def Gl{aa m:List ar}(e:c () d):aL x k (release aa m) c j d:=by
 unfold release;generalize(aa.filter λ|.ref Z=>ah|Z=>av)=i;induction i with
 |nil=>exact a' e
 |cons f w g=>
  cases w with|nil=>exact a' e|cons p w=>exact aA<|du<|sQ g
def qs{aa:List ar}(b:aL x k r a j l):aL x k (x' aa r) a j l:=by unfold x';exact aA<|du<|fh b (λt ae q=>aA<|Gl<|a' q) λZ Z i=>i
section
variable{c:b_}{a5:aB}
def mL.bind(G:mL C c e a5 d) (k:∀l i,aw C a5 l->bf C c.X c.A c.fuel l->Rz c.X l.heap i d->∀(a:ar->aB->Prop)(j:ar->aB->Prop),(∀i ae,aw C l ae->Rz c.X ae.heap i t->a i ae)->aL (aQ C.prog C.w) c.A (b i) a j l):mL C c (e>>=b) a5 t:=by intro l F D a j q;exact aA<|G l F D _ _ λi ae B H=>k ae i (F.trans B) (D.ext B) H _ _ λp dj ab n=>q p dj (B.trans ab) n
theorem bu.int{i:Int}{k:Nat}{pos:a8}:bu C c (.Constant (.int i) k pos) a5 (.int i):=λs x g Q E q=>by show aL _ _ (HC i) _ _ _;exactλZ Z Z=>q _ _ aw.tok<|.int i _
theorem bu.float:bu C c (.Constant (.float a) k b) a5 (.float a):=λl m e h j q=>by show aL _ _ (mkFloat a) _ _ _;exactλZ Z Z=>q _ _ aw.tok<|.float a _ e.tok
theorem bu.str:bu C c (.Constant (.str a) k b) a5 (.str a):=λl m e h j q=>by show aL _ _ (sM a) _ _ _;exactλZ Z Z=>q _ _ aw.tok<|.str a _
theorem bu.bool:bu C c (.Constant (.bool a) k b) a5 (.bool a):=λl m e h j q=>a'<|q _ _ (aw.refl l)<|.bool a
theorem bu.none:bu C c (.Constant .none k i) a5 .none:=λl m e h j q=>a'<|q _ _ (aw.refl l) .none
def bu.binop(H:bu C c f a5 a)(I:bu C c w a5 b)(n:dJ C (eW e) a b d):bu C c (.BinOp f e w i) a5 d:=by intro L m G h O q;rw[P'];refine aA<|H L m G _ _ λt p B D=>aA<|du<|I p (m.trans B) (G.ext B) _ _ λM F k j=>aA<|dT<|qs ?_;exact n c.X c.A c.fuel F t M ((G.ext B).ext k) ((G.ext B).mono k D) j _ _ λK ae N J=>q K ae ((B.trans k).trans N) J
def bu.unop(F:bu C c j a5 f)(n:pN C (HL b) f d):bu C c (.UnaryOp b j i) a5 d:=by intro l m D I H q;rw[arm_eval_UnaryOp];refine aA<|F l m D _ _ λt p r w=>aA<|dT<|du ?_;exact n c.X c.A c.fuel p t (D.ext r) w _ _ λk ae G B=>q k ae (r.trans G) B
end
end
set_option genSizeOfSpec false
open Lean in
local macro_rules (kind := Lean.Parser.Tactic.cases)
  | s => do
    let h : TSyntax `term := ⟨s[1][0][1]⟩
    if !h.raw.isIdent || !s[3].isNone then Macro.throwUnsupported
    let f := fun (k : Name × Nat) => do
      let c := mkIdent (`Mine ++ k.1)
      if k.2 == 9 then `(tacticSeq| exact $c $h) else `(tacticSeq| (refine $c $h ?_; clear $(⟨h.raw⟩); (iterate $(quote k.2) intro _); intro e; first | subst e | cases (e)))
    let a ← [(`nS, 9), (`sN, 9), (`fT, 9), (`tF, 9), (`sK, 0), (`Rz.iK, 1), (`Rz.sK, 1), (`Rz.fK, 2), (`Rz.nK, 0), (`Rz.bK, 0), (`Rz.rK, 0), (`Rz.lK, 6), (`Rz.tK, 6), (`Rz.dK, 7), (`RzL.cN, 9), (`RzL.nC, 9), (`RzL.nK, 0), (`RzL.nV, 0), (`RzL.cK, 4), (`RzL.cV, 4)].toArray.mapM f
    `(tactic| first | with_reducible first $[| $(a.extract 0 5)]* | first $[| $(a.extract 5 99)]* | (rcases $h:term with ⟨⟩) | cases ($h))
open Lean in
local macro_rules (kind := ident)
  | s => if s.getId == `z then `(by first | (refine (?_ : Mine.kk (PySem.W.getL "" []) _ = true); k_get) | (refine (?_ : Mine.kE _ _); refine (?_ : Mine.kp (#[_][0]?) _ = _); k_slotget) | kernel_rfl | decide) else if s.getId == `o then `(by assumption) else Macro.throwUnsupported
section
variable{C:bS}
def bD(C:bS)(j:cP)(c:kQ)(b:au)(t:ar):Prop:=c.scope.kind=.function/\(b==("__debug__":au))=av/\(b==("__classdict__":au))=av/\((c.kindOf b=I .local/\¬C.T c.locals/\∃r,j.Ns c.locals r/\r b=I t)\/((c.kindOf b=I .cell\/c.kindOf b=I .free)/\∃f,c.cells.lookup b=I f/\¬C.T f/\j.IsCell f (I t)))
def mc{j d:cP}(y:j.Ns f c)(k:∀x,j.get? f=I x->d.get? f=I x):d.Ns f c:=let⟨x,b,s,i,w⟩:=y;⟨x,b,s,k x i,w⟩
def pV{j b:cP}(y:j.IsCell f t)(k:∀x,j.get? f=I x->b.get? f=I x):b.IsCell f t:=let⟨x,i,d⟩:=y;⟨x,k x i,d⟩
def bD.ext(H:bD C g.heap f i h)(D:aw C g ae):bD C ae.heap f i h:=by obtain⟨E,p,F,d⟩:=H;refine⟨E,p,F,?_⟩;rcases d with⟨k,q,r,A,j⟩|⟨k,ad,G,q,w⟩;exact .inl ⟨k,q,r,mc A λB j=>D.keep _ B j q,j⟩;exact .inr ⟨k,ad,G,q,pV w λB j=>D.keep _ B j q⟩
def bD.load(J:bD C g.heap f r p)(D:i p g):aL y w (loadName f r) i j g:=by obtain⟨B,L,H,d⟩:=J;rcases d with⟨k,K,N,F,I⟩|⟨k,ad,G,K,q⟩;exact wpAny_loadName_local B k F I D;rcases k with k|k;exact wpAny_loadName_cell B k G q D;exact wpAny_loadName_free B k G q D H
def lN(C:bS)(g:b_)(l:aB)(m:au)(d:af):Prop:=∃t,bD C l.heap g.env m t/\Rz g.X l.heap t d
theorem lN.ext(j:lN C e l m d)(i:bf C e.X e.A e.fuel l)(h:aw C l ae):lN C e ae m d:=let⟨t,f,p⟩:=j;⟨t,f.ext h,i.mono h p⟩
section
variable{c:b_}{a5:aB}
def bu.name(j:lN C c a5 m d)(A:∀f,C.T f->c.X f):bu C c (.Name m i) a5 d:=by intro l D K J I q;obtain⟨H,n,w⟩:=j;exact BY (bD.load (n.ext D)<|q H l (aw.refl l)<|w.mono λp G B F=>D.keep p G F λk=>B<|A p k) n.2.1
def ny(C:bS)(c:b_)(i:aq)(y:ar):Prop:=∀l,bf C c.X c.A c.fuel l->∀(h:ar->aB->Prop)(j:ar->aB->Prop),h y l->aL (aQ C.prog C.w) c.A (cx i c.env) h j l
def HT(C:bS)(c:kQ)(m:au)(t:ar):Prop:=c.scope.kind=.function/\c.kindOf m=I .globalImplicit/\(m==("__debug__":au))=av/\∀j,C.fb j->∃n,j.Ns c.globals n/\(n m=I t\/(n m=ai/\∃i,j.Ns c.builtins i/\i m=I t))
def ny.name(j:HT C c.env m t):ny C c (.Name m i) t:=by intro l e G F q;obtain⟨f,p,d,k⟩:=j;obtain⟨n,A,w⟩:=k l.heap e.ok;refine Name_function_global f p ?_ d;rcases w with w|⟨w,D,B,y⟩;exact loadGlobal_global A w q;exact loadGlobal_builtin A w B y q
theorem jL.nil:jL C c [] a5 []:=λl m e h j q=>a'<|q [] l (aw.refl l) .nil
theorem jL.cons{k:cA ar}{a:List (Bool×cA ar)}{d:af}{i:List af}(j:mL C c k a5 d)(A:jL C c a a5 i):jL C c ((av,k)::a) a5 (d::i):=by intro l m e F D q;refine xX<|j l m e _ _ λB p b w=>A p (m.trans b) (e.ext b) _ _ λaa f ab n=>q (B::aa) f (b.trans ab)<|.cons ((e.ext b).mono ab w) n
def fv(C:bS)(c:b_)(b:List aq)(a5:aB)(g:List af):Prop:=∀i,jL C c (jd i<|hg b c.env) a5 g/\(jd i<|hg b c.env).any (·.1)=av
theorem fv.nil:fv C c [] a5 []:=λi=>⟨jL.nil,rfl⟩
theorem fv.cons{i:aq}{b:List aq}{d:af}{g:List af}(j:bu C c i a5 d)(k:fv C c b a5 g)(a:hg (i::b) c.env=(av,cx i c.env)::hg b c.env:=by rfl):fv C c (i::b) a5 (d::g):=by
 intro f;have aC:jd f (hg (i::b) c.env)=(av,cx i c.env)::jd f (hg b c.env):=by rw[a];rfl
 rw[aC];exact⟨jL.cons j (k f).1,(k f).2⟩
def hT:u9=16777216:=z
theorem bu.tuple(j:fv C c b a5 ds)(d:ds.length<=1000000):bu C c (.Tuple b k i) a5 (.tuple ds):=by intro l m e n f q;rw[arm_eval_Tuple];refine aA<|dT<|aA<|(j i).1 l m e _ _ λaa p a w=>?_;refine agW (q _ _ (a.trans aw.push)<|.tuple (e.ext a).fresh (fs _ rfl)<|(e.ext a).gn (aw.push (eV:=p.toks)) w) (by rw[w.length,hT];exact ao o z)
theorem bu.list{b:List aq}{i:a8}{ds:List af}(j:fv C c b a5 ds)(d:ds.length<=1000000):bu C c (.List b i) a5 (.list ds):=by intro l m e k f q;rw[Qa];refine aA<|dT<|aA<|(j i).1 l m e _ _ λaa p a w=>?_;refine yg (q _ _ (a.trans aw.push)<|.list (e.ext a).fresh (fs _ rfl)<|(e.ext a).gn (aw.push (eV:=p.toks)) w) (by rw[w.length,hT];exact ao o z)
def zt(B:d.any (·.1)=av)(F:jL C c d a5 k)(m:aw C a5 a)(D:bf C c.X c.A c.fuel a)(q:∀aa ae,aw C a ae->RzL c.X ae.heap aa k->i ⟨aa,[]⟩ ae):aL (aQ C.prog C.w) c.A (Qh y ah d []) i j a:=by rcases d with _|⟨⟨p,I⟩,H⟩;have:=F a m D (λaa ae=>i ⟨aa,[]⟩ ae) j q;unfold Qh;show aL _ _ (spliced []>>=_) _ _ _;exact aA<|fh this (λaa ae n=>du<|aA<|a'<|aA<|a'<|a' n) λZ Z G=>G;cases p;exact BI<|F a m D (λaa ae=>i ⟨aa,[]⟩ ae) j q;simp at B
def eO(C:bS)(y:ar):Prop:=∀j,C.fb j->∃k,(k=uW\/k=uX)/\uZ (aQ C.prog C.w) j (qS y) k
def eO.blt(id:String):eO C (.builtin id):=λj Z=>⟨_,.inr rfl,P6 rfl⟩
def eO.typ(y:String):eO C (.type y):=λj Z=>⟨_,.inr rfl,P6 rfl⟩
def eO.fn(n:∀j,C.fb j->∃x i,j.get? f=I x/\x.data=.func i):eO C (.ref f):=λj d=>by obtain⟨x,i,c,b⟩:=n j d;refine⟨.frame,.inl rfl,λe m g l k q=>?_⟩;unfold qS;refine aA<|wpAny_load (k _ _ c) ?_;rw[b];exact a' q
def vK(J:d.any (·.1)=av)(O:aL (aQ C.prog C.w) c.A (Qh y ah d []) (λG p=>G.kw=[]/\(∃k,(k=uW\/k=uX)/\uZ (aQ C.prog C.w) p.heap (qS y) k)/\aL (aQ C.prog C.w) c.A (fu y (first++G.pos) []) b j p) j m):aL (aQ C.prog C.w) c.A (hc i y first d []) b j m:=by
 unfold hc;refine aA<|du<|fh O (λG p n=>?_) λZ Z N=>N;obtain⟨F,P⟩:=G;obtain⟨rfl,⟨k,I,H⟩,B⟩:=n;refine aA<|dT ?_;rw[J];refine aA<|H.here ?_;have D:∀{g:cA ar},aL (aQ C.prog C.w) c.A g b j p->aL (aQ C.prog C.w) c.A (g>>=λM=>gr [M] u7>>=λZ=>bq M) b j p:=
  λL=>aA<|fh L (λM q K=>aA<|du<|sQ<|a' K) λZ Z R=>R
 rcases I with rfl|rfl;show aL _ _ (if d.length+2*0>30 then fu y (first++F) []>>=_ else BO plainCall y (first++F) []>>=_) b j p;split;exact D B;exact D<|wpAny_keep B;exact D B
def Jw(J:eO C e)(F:k.any (·.1)=av)(M:jL C c k a5 b)(I:eg C e (fd++b) p d)(K:p<=c.fuel)(O:aw C a5 a)(G:bf C c.X c.A c.fuel a)(B:RzL c.X a.heap first fd)(q:∀t ae,aw C a ae->Rz c.X ae.heap t d->m t ae):aL (aQ C.prog C.w) c.A (hc i e first k []) m j a:=by exact vK F<|zt F M O G λaa D H N=>⟨rfl,J D.heap (G.ext H).ok,I c.X c.A D (first++aa) ((G.ext H).fuel K) ((G.gn H B).append N) _ _ λt ae ab L=>q t ae (H.trans ab) L⟩
def bu.call{cL:aq}{b:List aq}{i:a8}{y:ar}{ds:List af}{d:af}{B:Nat}(a:ny C c cL y)(p:fv C c b a5 ds)(w:eg C y ds B d)(A:B<=c.fuel)(r:eO C y) (k:cx (.Call cL b [] i) c.env=(cx cL c.env>>=λt=>hc i t [] (jd i<|hg b c.env)<|ou i<|ox [] c.env):=by rfl):bu C c (.Call cL b [] i) a5 d:=by intro l m e h j q;show aL _ _ (cx (.Call cL b [] i) c.env) _ _ _;rw[k];exact aA<|a l e _ _<|Jw (fd:=[]) r (p i).2 (p i).1 w A m e .nil q
def gu(C:bS)(c:b_)(i:aq)(a5:aB)(p:Bool):Prop:=∀l,aw C a5 l->bf C c.X c.A c.fuel l->∀(h:Bool->aB->Prop)(j:ar->aB->Prop),(∀ae,aw C l ae->h p ae)->aL (aQ C.prog C.w) c.A (isTrue i c.env<|cx i c.env) h j l
def hZ(C:bS)(g:su)(f p:af)(d:Bool):Prop:=∀(c:aF->Prop)(k:ef)(y:Nat)(l:aB)(t i:ar),bf C c k y l->Rz c l.heap t f->Rz c l.heap i p->∀(h:ar->aB->Prop)(j:ar->aB->Prop),(∀ae,aw C l ae->h (.bool d) ae)->aL (aQ C.prog C.w) k (sJ g t i) h j l
def vw(C:bS)(f:af)(b:Bool):Prop:=∀(c:aF->Prop)(k:ef)(y:Nat)(l:aB)(t:ar),bf C c k y l->Rz c l.heap t f->∀(h:Bool->aB->Prop)(j:ar->aB->Prop),(∀ae,aw C l ae->h b ae)->aL (aQ C.prog C.w) k (yd t) h j l
def A3(c:a p l):aL x k (yd<|.bool p) a j l:=λZ Z Z=>c
def z'(j:nu g i=av):Qn [g] [i] [k]=[k]:=by show[agI g i k]=[k];unfold agI;rw[j]
def JF:compareChain i t [g] [w]=(gr [t] w>>=λa=>gs i>>=λZ=>x' [t,a]<|sJ g t a):=rfl
def Om:Qw i t [g] [w]=(gr [t] w>>=λa=>gs i>>=λZ=>x' [t,a] (sJ g t a)>>=λc=>gr [c]<|yd c):=rfl
def adv:Qw i t [g,m] [w,y]=(gr [t] w>>=λa=>gs i>>=λZ=>gr [t,a] (sJ g t a)>>=λc=>release [t,a] [c]>>=λZ=>gr [c,a] (yd c)>>=λp=>if p=ah then Qw i a [m] [y]else bq av):=rfl
def bu.cmp{I w:aq}{op:su}{i:a8}{a b:af}{k:Bool}(F:bu C c I a5 a)(H:bu C c w a5 b)(n:hZ C op a b k)(G:nu op w=av:=by rfl):bu C c (.Compare I [op] [w] i) a5 (.bool k):=by intro J m e h M q;rw[agA];refine aA<|F J m e _ _ λt p d f=>?_;rw[show sL [w] c.env=[cx w c.env]from rfl,z' G];rw[JF];refine aA<|du<|H p (m.trans d) (e.ext d) _ _ λK D B j=>aA<|dT<|qs ?_;exact n c.X c.A c.fuel D t K ((e.ext d).ext B) ((e.ext d).mono B f) j _ _ λae L=>q _ ae ((d.trans B).trans L)<|.bool k
def gu.cmp{I w:aq}{op:su}{i:a8}{a b:af}{k:Bool}(F:bu C c I a5 a)(H:bu C c w a5 b)(n:hZ C op a b k)(G:nu op w=av:=by rfl):gu C c (.Compare I [op] [w] i) a5 k:=by intro J m e h M q;rw[agB];refine aA<|F J m e _ _ λt p d f=>?_;rw[show sL [w] c.env=[cx w c.env]from rfl,z' G];rw[Om];refine aA<|du<|H p (m.trans d) (e.ext d) _ _ λK D B j=>aA<|dT<|aA<|qs ?_;exact n c.X c.A c.fuel D t K ((e.ext d).ext B) ((e.ext d).mono B f) j _ _ λae L=>du<|A3<|q ae<|(d.trans B).trans L
def gu.Uv{Z N i:aq}{G m:su}{M:a8}{W O Y:af}{k L:Bool}(P:bu C c Z a5 W)(T:bu C c N a5 O)(U:bu C c i a5 Y)(S:hZ C G W O k)(K:hZ C m O Y L)(R:nu m i=false:=by rfl):gu C c (.Compare Z [G,m] [N,i] M) a5 (k&&L):=by
 intro aa V F ag ad q;rw[agB];refine aA<|P aa V F _ _ λac p d f=>?_;rw[show Qn [G,m] [N,i] (sL [N,i] c.env)=cx N c.env::Qn [m] [i] [cx i c.env]from rfl,z' R];rw[adv];refine aA<|du<|T p (V.trans d) (F.ext d) _ _ λh H B j=>aA<|dT<|aA<|du ?_;refine S c.X c.A c.fuel H ac h ((F.ext d).ext B) ((F.ext d).mono B f) j _ _ λeH n=>?_;refine aA<|Gl<|aA<|du<|A3 ?_;have J:=(d.trans B).trans n;induction k using bz with
 |false=>exact a'<|q eH J
 |true=>
  rw[if_pos rfl,Om];refine aA<|du<|U eH (V.trans J) (F.ext J) _ _ λw I D t=>aA<|dT<|aA<|qs ?_;refine K c.X c.A c.fuel I h w ((F.ext J).ext D) ((F.ext J).mono D<|((F.ext d).ext B).mono n j) t _ _ λae ab=>du<|A3 ?_;simpa using q ae<|(J.trans D).trans ab
def gu.val{i:aq}{d:af}{k:Bool}(j:bu C c i a5 d)(w:vw C d k)(n:isTrue i c.env (cx i c.env)=(do let t<-cx i c.env;gs i.pos;gr [t] (yd t)):=by rfl):gu C c i a5 k:=by intro l m r D B q;rw[n];exact aA<|j l m r _ _ λt p a f=>aA<|dT<|du<|w c.X c.A c.fuel p t (r.ext a) f _ _ λae b=>q ae<|a.trans b
def gu.not(j:gu C c a a5 k):gu C c (.UnaryOp .Not a i) a5 (!k):=by intro l m d n f q;rw[arm_isTrue_UnaryOp];exact aA<|j l m d _ _ λae b=>a'<|q ae b
def hY(C:bS)(c:b_)(g:uU)(a:List aq)(a5:aB)(p:Bool):Prop:=∀l,aw C a5 l->bf C c.X c.A c.fuel l->∀(h:Bool->aB->Prop)(j:ar->aB->Prop),(∀ae,aw C l ae->h p ae)->aL (aQ C.prog C.w) c.A (allTrue g a c.env) h j l
def hY.and_nil:hY C c .And [] a5 ah:=λl m e h j q=>a'<|q l<|aw.refl l
def hY.or_nil:hY C c .Or [] a5 av:=λl m e h j q=>a'<|q l<|aw.refl l
def hY.and_cons(j:gu C c i a5 k)(d:k=true->hY C c .And b a5 l7):hY C c .And (i::b) a5 (k&&l7):=by intro l m f r n q;rw[agz];refine aA<|j l m f _ _ λp a=>?_;induction k using bz with|false=>exact a' (q p a)|true=>exact d rfl p (m.trans a) (f.ext a) _ _ λae ab=>by simpa using q ae<|a.trans ab
def hY.or_cons(j:gu C c i a5 k)(d:k=false->hY C c .Or b a5 l7):hY C c .Or (i::b) a5 (k||l7):=by intro l m f r n q;rw[agz];refine aA<|j l m f _ _ λp a=>?_;induction k using bz with|true=>exact a' (q p a)|false=>exact d rfl p (m.trans a) (f.ext a) _ _ λae ab=>by simpa using q ae<|a.trans ab
theorem gu.op{a:uU}(f:hY C c a b a5 k):gu C c (.BoolOp a b i) a5 k:=by intro l m e d j q;rw[arm_isTrue_BoolOp];exact f l m e d j q
def bu.DT(w:gu C c e a5 k)(n:k=true->bu C c f a5 d)(F:k=false->bu C c p a5 d):bu C c (.IfExp e f p i) a5 d:=by intro l m D h j q;rw[arm_eval_IfExp];refine aA<|w l m D _ _ λA B=>?_;induction k using bz with|true=>exact n rfl A (m.trans B) (D.ext B) _ _ λH ae ab G=>q H ae (B.trans ab) G|false=>exact F rfl A (m.trans B) (D.ext B) _ _ λH ae ab G=>q H ae (B.trans ab) G
end
def aao(f p:Int):dJ C (eW .Add) (.int f) (.int p) (.int<|f+p):=by intro c k y l t i e x m h j q;cases x;cases m;exact AutoIntOps.add_0<|q _ _ aw.tok<|.int _ _
def aaB(f p:Int):dJ C (eW .Sub) (.int f) (.int p) (.int<|f -p):=by intro c k y l t i e x m h j q;cases x;cases m;exact AutoIntOps.sub_0<|q _ _ aw.tok<|.int _ _
def aav(f p:Int)(j:PX f p):dJ C (eW .Mult) (.int f) (.int p) (.int<|f*p):=by intro c k y l t i e x m r d q;cases x;cases m;exact AutoIntOps.mul_0 (q _ _ aw.tok<|.int _ _) j
def aau(f p:Int)(j:p≠0):dJ C (eW .Mod) (.int f) (.int p) (.int<|f.fmod p):=by intro c k y l t i e x m r d q;cases x;cases m;exact mod_int' j<|q _ _ aw.tok<|.int _ _
def aas(f p:Int)(j:p≠0)(ax:nr f p=av):dJ C (eW .FloorDiv) (.int f) (.int p) (.int<|f.fdiv p):=by intro c k y l t i e x m r d q;cases x;cases m;exact floordiv_int j (q _ _ aw.tok<|.int _ _)<|.inl ax
def aaD(f p:Int)(j:p≠0)(d:gT (fI (decide (f<0)!=decide (p<0)) f.natAbs p.natAbs)=av):dJ C (eW .Div) (.int f) (.int p) (.float<|fI (decide (f<0)!=decide (p<0)) f.natAbs p.natAbs):=by intro c k y l t i e x m w r q;cases x;cases m;exact AutoIntOps.truediv_2 (by simpa using j) (by rw[d];simp)<|q _ _ aw.tok<|.float _ _ e.tok
def aat(f y:Int)(b:0<=y)(j:(dn f:Int)+y<=2^27):dJ C (eW .LShift) (.int f) (.int y) (.int<|f*2^y.toNat):=by intro c d k l t i e x m r p q;cases x;cases m;exact lshift_int_or e.handled (λj=>absurd b<|GH.mpr j) (λZ=>j) λZ=>q _ _ aw.tok<|.int _ _
def aar(f p:Int):dJ C (eW .BitAnd) (.int f) (.int p) (.int<|xW f p):=by intro c k y l t i e x m h j q;cases x;cases m;exact and_int<|q _ _ aw.tok<|.int _ _
def aay(f p:Int):dJ C (eW .BitOr) (.int f) (.int p) (.int<|afN f p):=by intro c k y l t i e x m h j q;cases x;cases m;exact or_int<|q _ _ aw.tok<|.int _ _
def aaE(f p:Int):dJ C (eW .BitXor) (.int f) (.int p) (.int<|PO f p):=by intro c k y l t i e x m h j q;cases x;cases m;exact xor_int<|q _ _ aw.tok<|.int _ _
def aaA(f y:Int)(b:0<=y):dJ C (eW .RShift) (.int f) (.int y) (.int<|if y>=((dn f:Nat):Int)then(if f<0 then -1 else 0)else f.fdiv (2^y.toNat)):=by intro c d k l t i e x m r p q;cases x;cases m;split at q;rename_i j;exact AutoIntOps.rshift_1 (ja.mpr b) j<|q _ _ aw.tok<|.int _ _;rename_i j;exact AutoIntOps.rshift_2 (ja.mpr b) j<|q _ _ aw.tok<|.int _ _
def aaz(f p:Int)(w:0<=p)(B:uV (((dn f:Nat):Int)*p)=av):dJ C (eW .Pow) (.int f) (.int p) (.int<|f^p.toNat):=by
 intro c H k L t M K F G J I q;cases F;cases G;by_cases h0:p=0;subst h0;exact AutoIntOps.pow_0 (by assumption) (by simp) (q _ _ aw.tok<|by simpa using Rz.int 1 _);by_cases d:(f==0||f==1)=ah;have i:f^p.toNat=f:=by simp only[mu,beq_iff_eq]at d;rcases d with rfl|rfl;exact Int.zero_pow λq=>h0<|aeF (Int.toNat_eq_zero.mp q) w;exact aeK
 exact AutoIntOps.pow_1 (by assumption) (by simpa using h0) d (q _ _ aw.tok (by rw[i];exact .int f _));by_cases l:(f==-1)=ah;have n:f=-1:=by simpa using l
 subst n;refine AutoIntOps.pow_2 (by assumption) (by simpa using h0) d l<|q _ _ aw.tok ?_;have i:(-1:Int)^p.toNat=if(p%2==0)=ah then 1 else -1:=by
  obtain⟨r,x⟩:∃r:Nat,p=r:=⟨p.toNat,(og w).symm⟩;subst x;have:((r:Int)).toNat=r:=rfl;rw[this];clear this h0 B w q d l;have y:∀r:Nat,(-1:Int)^r=if r%2=0 then 1 else -1:=by
   intro r;induction r with
   |zero=>simp
   |succ k D=>
    rw[nc,D];rcases afs k with j|j;rw[if_pos j,GW,j];rfl;rw[if_neg (by rw[j];decide),GW,j];rfl
  rw[y];by_cases j:r%2=0;rw[if_pos j,if_pos<|beq_iff_eq.mpr<|congrArg Int.ofNat j];rw[if_neg j,if_neg λq=>j<|uI<|beq_iff_eq.mp q]
 rw[i];exact .int _ _;exact AutoIntOps.pow_4 (by assumption) (by simpa using h0) d l (by rw[B];simp)<|q _ _ aw.tok<|.int _ _
def adG(f:Int):pN C (HL .USub) (.int f) (.int<|-f):=by intro c k y l t e w h j q;cases w;exact neg_int<|q _ _ aw.tok<|.int _ _
def adF(f:Int):pN C (HL .Invert) (.int f) (.int<|sr f):=by intro c k y l t e w h j q;cases w;exact invert_int<|q _ _ aw.tok<|.int _ _
def UA(f p:Int):hZ C .Lt (.int f) (.int p) (decide (f<p)):=by intro c k y l t i e x m h j q;cases x;cases m;exact lt_int<|q l<|aw.refl l
def Uz(f p:Int):hZ C .LtE (.int f) (.int p) (decide (f<=p)):=by intro c k y l t i e x m h j q;cases x;cases m;exact le_int<|q l<|aw.refl l
def QQ(f p:Int):hZ C .Gt (.int f) (.int p) (decide (p<f)):=by intro c k y l t i e x m h j q;cases x;cases m;exact gt_int<|q l<|aw.refl l
def Uy(f p:Int):hZ C .GtE (.int f) (.int p) (decide (p<=f)):=by intro c k y l t i e x m h j q;cases x;cases m;exact ge_int<|q l<|aw.refl l
def adu(f:Int):vw C (.int f) (f !=0):=by intro c k y l t e w h j q;cases w;exact truthy_int<|q l<|aw.refl l
def adt(p:Bool):vw C (.bool p) p:=by intro c k y l t e w h j q;cases w;exact A3<|q l<|aw.refl l
def Wx(f p:UInt64):dJ C (eW .Add) (.float f) (.float p) (.float<|dH f p):=by intro c k y l t i e x m h j q;cases x;cases m;exact add_float<|q _ _ aw.tok<|.float _ _ e.tok
def WG(f p:UInt64):dJ C (eW .Sub) (.float f) (.float p) (.float<|dc f p):=by intro c k y l t i e x m h j q;cases x;cases m;exact sub_float<|q _ _ aw.tok<|.float _ _ e.tok
def WC(f p:UInt64):dJ C (eW .Mult) (.float f) (.float p) (.float<|cX f p):=by intro c k y l t i e x m h j q;cases x;cases m;exact mul_float<|q _ _ aw.tok<|.float _ _ e.tok
def Wz(f p:UInt64)(j:ik p=av):dJ C (eW .Div) (.float f) (.float p) (.float<|iO f p):=by intro c k y l t i e x m r d q;cases x;cases m;exact ahc (by rw[j];simp)<|q _ _ aw.tok<|.float _ _ e.tok
def WB(f p:UInt64)(j:ik p=av):dJ C (eW .Mod) (.float f) (.float p) (.float (xZ f p).2):=by intro c k y l t i e x m r d q;cases x;cases m;exact aha (by rw[j];simp)<|q _ _ aw.tok<|.float _ _ e.tok
def Wy(f:UInt64)(y:Int)(j:y.natAbs<2^1023):dJ C (eW .Add) (.float f) (.int y) (.float<|dH f<|eA y):=by intro c b k l t i e x m p d q;cases x;cases m;exact add_fi_fits j<|q _ _ aw.tok<|.float _ _ e.tok
def WH(f:UInt64)(y:Int)(j:y.natAbs<2^1023):dJ C (eW .Sub) (.float f) (.int y) (.float<|dc f<|eA y):=by intro c b k l t i e x m p d q;cases x;cases m;exact sub_fi_fits j<|q _ _ aw.tok<|.float _ _ e.tok
def WD(f:UInt64)(y:Int)(j:y.natAbs<2^1023):dJ C (eW .Mult) (.float f) (.int y) (.float<|cX f<|eA y):=by intro c b k l t i e x m p d q;cases x;cases m;exact mul_fi_fits j<|q _ _ aw.tok<|.float _ _ e.tok
def WE(f:UInt64)(y:Int)(j:y.natAbs<2^1023):dJ C (eW .Mult) (.int y) (.float f) (.float<|cX (eA y) f):=by intro c b k l t i e x m p d q;cases x;cases m;exact mul_if_fits j<|q _ _ aw.tok<|.float _ _ e.tok
def WA(f:UInt64)(y:Int)(b:gT (eA y)=av)(l:ik (eA y)=av):dJ C (eW .Div) (.float f) (.int y) (.float<|iO f<|eA y):=by intro c d k p t i e x m h j q;cases x;cases m;exact ahd (by rw[b];simp) (by rw[l];simp)<|q _ _ aw.tok<|.float _ _ e.tok
def Wb(f p:UInt64):hZ C .Eq (.float f) (.float p) (gI f p==I qM):=by intro c k y l t i e x m h j q;cases x;cases m;exact afM<|q l<|aw.refl l
def Wd(f p:UInt64):hZ C .Lt (.float f) (.float p) (gI f p==I om):=by intro c k y l t i e x m h j q;cases x;cases m;exact ag'<|q l<|aw.refl l
def Wc(f p:UInt64):hZ C .LtE (.float f) (.float p) (gI f p==I om||gI f p==I qM):=by intro c k y l t i e x m h j q;cases x;cases m;exact ag_<|q l<|aw.refl l
def acv(f p:au)(D:f.length+p.length<=1000000):dJ C (eW .Add) (.str f) (.str p) (.str<|f++p):=by intro c k y l t i e x m B j q;cases x;cases m;exact lG (cz l.toks) (add_str (λd r w=>q _ _ (aw.tok w)<|.str _ _) (by rw[hT];exact ao o z))
def MJ{j:cP}(C:j.Ns c r)(D:j.Ns c b):r=b:=by obtain⟨E,w,s,q,d,Z,A⟩:=C;obtain⟨B,l,k,g,t,Z,i⟩:=D;rw[q]at g;cases g;rw[d]at t;cases t;funext p;rw[<-A p,i p]
structure h2(C:bS)(c:b_)(s:Shared):Prop where
 kind:c.env.scope.kind=.function
 ns:∃m,s.heap.Ns c.env.locals m
 cell:∀n a,c.env.cells.lookup n=some a->∃v,s.heap.IsCell a v
 apart:c.env.cells.Pairwise λx y=>x.2≠y.2
 e_:c.Y c.env.locals
 cE:∀a,c.Y a->c.X a
 hV:∀a,c.Y a->¬C.T a
 jz:∀a,c.Y a->¬C.P a
 dC:∀n a,c.env.cells.lookup n=some a->¬C.T a/\a≠c.env.locals/\c.X a
 pin:∀x v,c.pin x=some v->bD C s.heap c.env x v
def ZU{j:cP}{f:aF}{t:Option ar}(y:j.IsCell f t):∀x,j.get? f=I x->¬fO x:=λx i q=>by obtain⟨b,g,d⟩:=y;rw[i]at g;cases g;obtain⟨Z,p,aM⟩:=q;rw[d]at aM;cases aM
structure dU(C:bS)(c:b_)(s ae:Shared):Prop where
 same:∃h eV,ae={s with heap:=h,toks:=eV}
 keep:∀b a4,s.heap.get? b=some a4->¬C.T b->¬c.Y b->ae.heap.get? b=some a4
 tabs:∀b,C.T b->∀bV,s.heap.get? b=some (tableObj bV)->∃more,ae.heap.get? b=some (tableObj<|bV++more)
 ok:C.fb s.heap->C.fb ae.heap
 all:∀b a4,s.heap.get? b=some a4->¬C.T b->∃Ek,ae.heap.get? b=some Ek
 toks:s.toks<=ae.toks
def dU.kB(m:aw C l ae):dU C g l ae:=⟨m.same,λp a i k Z=>m.keep p a i k,m.tabs,m.ok,λp a i k=>⟨a,m.keep p a i k⟩,m.toks⟩
theorem dU.refl(l:aB):dU C g l l:=.kB<|aw.refl l
def dU.trans(f:dU C g l ae)(p:dU C g ae dj):dU C g l dj:=by refine⟨?_,λn w i k D=>p.keep n w (f.keep n w i k D) k D,λn k r i=>?_,λj=>p.ok<|f.ok j,λn w i k=>?_,ao f.toks p.toks⟩;obtain⟨j,G,rfl⟩:=f.same;obtain⟨E,q,rfl⟩:=p.same;exact⟨_,_,rfl⟩;obtain⟨F,i⟩:=f.tabs n k r i;obtain⟨B,i⟩:=p.tabs n k _ i;exact⟨F++B,by rw[i,uE]⟩;obtain⟨d,A⟩:=f.all n w i k;exact p.all n d A k
def dU.ext(w:aw C k l)(A:dU C g l ae)(j:∀f,g.Y f->k.heap.get? f=ai):aw C k ae:=by refine⟨?_,λp E i n=>A.keep p E (w.keep p E i n) n λq=>?_,λp n r i=>?_,λD=>A.ok<|w.ok D,ao w.toks A.toks⟩;obtain⟨D,H,rfl⟩:=w.same;obtain⟨d,F,rfl⟩:=A.same;exact⟨_,_,rfl⟩;rw[j p q]at i;cases i;obtain⟨G,i⟩:=w.tabs p n r i;obtain⟨B,i⟩:=A.tabs p n _ i;exact⟨G++B,by rw[i,uE]⟩
def bf.step(h:bf C b.X b.A b.fuel l)(j:dU C b l ae):bf C b.X b.A b.fuel ae:=⟨h.handled,h.depth,h.units,h.guards,λf n=>by
  obtain⟨y,i,k⟩:=h.cI f n;by_cases w:C.T f;obtain⟨r,rfl⟩:=k w;obtain⟨B,i⟩:=j.tabs f w r i;exact⟨_,i,λZ=>⟨_,rfl⟩⟩;obtain⟨d,p⟩:=j.all f y i w;exact⟨d,p,λq=>absurd q w⟩,h.a_,j.ok h.ok,λi=>h.tok<|G1.mp<|i▸j.toks⟩
def dU.n8(j:bf C a.X a.A a.fuel f)(n:h2 C a f)(m:dU C a f ae)(w:Rz a.X f.heap h d):Rz a.X ae.heap h d:=w.mono λp B q i=>m.keep p B i (λk=>q<|j.a_ p k) λD=>q<|n.cE p D
def dU.rS(j:bf C a.X a.A a.fuel f)(n:h2 C a f)(m:dU C a f ae)(w:RzL a.X f.heap h d):RzL a.X ae.heap h d:=w.mono λp B q i=>m.keep p B i (λk=>q<|j.a_ p k) λD=>q<|n.cE p D
theorem h2.ext(d:h2 C g b)(w:aw C b ae):h2 C g ae:=by refine⟨d.kind,?_,λk f i=>?_,d.apart,d.e_,d.cE,d.hV,d.jz,d.dC,λB A i=>(d.pin B A i).ext w⟩;obtain⟨r,k⟩:=d.ns;exact⟨r,mc k λq i=>w.keep _ q i<|d.hV _ d.e_⟩;obtain⟨t,j⟩:=d.cell k f i;exact⟨t,pV j λq p=>w.keep _ q p (d.dC k f i).1⟩
def B5(g:b_)(m:au):Prop:=g.pin m=ai/\(m==("__debug__":au))=av/\(m==("__classdict__":au))=av/\(g.env.kindOf m=I .local\/(g.env.kindOf m=I .cell/\∃f,g.env.cells.lookup m=I f/\g.Y f))
def h2.same(B:h2 C g h)(j:g.Y f)(D:∀x,h.heap.get? f=I x->¬fO x)(m:x3 f h.heap d)(n:∃x,d.get? f=I x)(w:h.toks<=i):dU C g h {h with heap:=d,toks:=i}:=by refine⟨⟨_,_,rfl⟩,λp x A k F=>(m.2 p λq=>F<|q▸j).trans A,λp k r A=>⟨#[],?_⟩,λE=>C.step h.heap d f (B.hV _ j) (B.jz _ j) D E m,λp x A k=>?_,w⟩;rw[Array.append_empty];exact(m.2 p λq=>B.hV _ j<|q▸k).trans A;by_cases q:p=f;exact q▸n;exact⟨x,(m.2 p q).trans A⟩
def AU(ar:bf C c.X c.A c.fuel f)(j:h2 C c f)(al:B5 c i)(q:∀ae,dU C c f ae->h2 C c ae->bD C ae.heap c.env i as->(∀F G,F≠i->bD C f.heap c.env F G->bD C ae.heap c.env F G)->an () ae):aL (aQ C.prog C.w) c.A (yc c.env i as) an a1 f:=by
 obtain⟨ax,af,ag,J⟩:=al;have U:∀F G,c.pin F=I G->F≠i:=λF G M q=>by rw[q,ax]at M;cases M
 rcases J with J|⟨J,N,H,ak⟩;obtain⟨ap,P⟩:=j.ns;refine wpAny_storeName_local J P (λd L D=>?_) (by rw[j.kind];rfl);have st:dU C c f {f with heap:=d,toks:=f.toks+1}:=j.same j.e_ (Ag P) D (L.imp λaq ad=>ad.elim λZ ad=>ad.elim λZ ad=>ad.1)<|pB _;have B:∀F G,F≠i->bD C f.heap c.env F G->bD C d c.env F G:=by rintro F k R ⟨_,W,Y,ab⟩;refine⟨j.kind,W,Y,?_⟩;rcases ab with⟨t,K,ah,O,aa⟩|⟨t,V,S,K,p⟩;refine .inl ⟨t,K,_,L,?_⟩;rw[if_neg R];rw[<-aa];exact congrFun (MJ P O) F;exact .inr ⟨t,V,S,K,p.sameBut D (j.dC _ _ S).2.1⟩
 refine q _ st ?_ ?_ B;refine⟨j.kind,⟨_,L⟩,λaj N M=>?_,j.apart,j.e_,j.cE,j.hV,j.jz,j.dC,λF G M=>B F G (U F G M)<|j.pin F G M⟩;obtain⟨k,T⟩:=j.cell aj N M;exact⟨k,T.sameBut D (j.dC aj N M).2.1⟩;exact⟨j.kind,af,ag,.inl ⟨J,j.hV _ j.e_,_,L,by simp⟩⟩;obtain⟨am,T⟩:=j.cell i N H;have ac:∀d,d.IsCell N (I as)->x3 N f.heap d->an () {f with heap:=d}:=by
  intro d r D;have st:dU C c f {f with heap:=d}:=j.same ak (ZU T) D (r.imp λaq=>jA)<|cz _;have B:∀F G,F≠i->bD C f.heap c.env F G->bD C d c.env F G:=by rintro F k R ⟨_,W,Y,ab⟩;refine⟨j.kind,W,Y,?_⟩;rcases ab with⟨t,K,ah,O,aa⟩|⟨t,V,S,K,p⟩;exact .inl ⟨t,K,ah,O.sameBut D<|nq (j.dC i N H).2.1,aa⟩;refine .inr ⟨t,V,S,K,p.sameBut D λq=>R ?_⟩;subst q;exact(name_of_addr j.apart (mem_of_lookup S)<|mem_of_lookup H)
  refine q _ st ?_ ?_ B;obtain⟨ap,P⟩:=j.ns;refine⟨j.kind,⟨ap,P.sameBut D<|nq (j.dC i N H).2.1⟩,λaj ao M=>?_,j.apart,j.e_,j.cE,j.hV,j.jz,j.dC,λF G M=>B F G (U F G M)<|j.pin F G M⟩;by_cases ai:ao=N;exact⟨_,ai▸r⟩;obtain⟨k,d⟩:=j.cell aj ao M;exact⟨k,d.sameBut D ai⟩;exact⟨j.kind,af,ag,.inr ⟨.inl J,N,H,(j.dC i N H).1,r⟩⟩
 exact wpAny_storeName_cell j.kind J H T ac
def CJ(F:bf C c.X c.A c.fuel d)(G:h2 C c d)(n:B5 c m)(q:∀ae,dU C c d ae->h2 C c ae->bD C ae.heap c.env m t->(∀k i,k≠m->bD C d.heap c.env k i->bD C ae.heap c.env k i)->h () ae):aL (aQ C.prog C.w) c.A (ov c.env m t) h j d:=by unfold ov;exact aA<|du<|sQ<|aA<|AU F G n λae r p B D=>sQ<|q ae r p B D
def Sa(C:bS)(k:ef)(F:aF->Prop)(m:aq)(n:ar)(y:List aF)(g:List af)(St:Nat->cP->Prop):Prop:=∀c d(l:aB)(h:ar->aB->Prop)(j:ar->aB->Prop),g[c]?=some d->St c l.heap->(∀f,F f->∃x,l.heap.get? f=some x)->(∀t e D,(∀B x,B∉y->l.heap.get? B=some x->e.get? B=some x)->St (c+1) e->Rz (λf=>F f\/f∈y) e t d->h t {l with heap:=e,toks:=D})->aL (aQ C.prog C.w) k (sO n) (λG p=>match G with|none=>False|some t=>aL (aQ C.prog C.w) k (u6 m n t) (λ_ q=>h t q) j p) j l
def R'(C:bS)(k:ef)(n:ar)(y:List aF)(g:List af)(St:Nat->cP->Prop):Prop:=∀(l:aB)(h:aB->Prop)(j:ar->aB->Prop),St g.length l.heap->(∀d f,(∀a x,a∉y->l.heap.get? a=some x->d.get? a=some x)->h {l with heap:=d,toks:=f})->aL (aQ C.prog C.w) k (sO n) (λc p=>match c with|none=>h p|some _=>False) j l
def R_(C:bS)(k:ef)(n:ar)(St:Nat->cP->Prop):Prop:=∀c(l:aB)(h:ar->aB->Prop)(j:ar->aB->Prop),St c l.heap->h n l->aL (aQ C.prog C.w) k (ya n) h j l
structure nI(C:bS)(A:Around)(X:Addr->Prop)(target:aq)(it:Value)(wr:List Addr)(ds:List af)(St:Nat->Heap->Prop):Prop where
 off:∀b∈wr,¬X b
 frame:∀i h hr,St i h->(∀b a4,h.get? b=some a4->(b∈wr\/¬X b)->hr.get? b=some a4)->St i hr
 here:∀i h,St i h->∀b∈wr,∃a4,h.get? b=some a4
 kA:∀i h,St i h->∀b∈wr,∀a4,h.get? b=some a4->¬fO a4
 turn:Sa C A X target it wr ds St
 stop:R' C A it wr ds St
 self:R_ C A it St
def R9(C:bS)(k:ef)(H:aF->Prop)(K:aF->Prop)(m:aq)(n:ar)(y:List aF)(g:List af)(St:Nat->cP->Prop):Prop:=∀(c:aF->Prop) D d(l:aB)(h:ar->aB->Prop)(j:ar->aB->Prop),(∀f,c f->¬K f)->g[D]?=some d->St D l.heap->(∀f,(H f\/c f)->∃x,l.heap.get? f=some x)->(∀t e G,(∀B x,B∉y->l.heap.get? B=some x->e.get? B=some x)->St (D+1) e->Rz (λf=>(H f\/c f)\/f∈y) e t d->h t {l with heap:=e,toks:=G})->aL (aQ C.prog C.w) k (sO n) (λI p=>match I with|none=>False|some t=>aL (aQ C.prog C.w) k (u6 m n t) (λ_ q=>h t q) j p) j l
def R8(C:bS)(k:ef)(n:ar)(y:List aF)(g:List af)(St:Nat->cP->Prop):Prop:=∀(l:aB)(h:aB->Prop)(j:ar->aB->Prop),St g.length l.heap->(∀d f,(∀a x,a∉y->l.heap.get? a=some x->d.get? a=some x)->h {l with heap:=d,toks:=f})->aL (aQ C.prog C.w) k (sO n) (λc p=>match c with|none=>h p|some _=>False) j l
def R7(C:bS)(k:ef)(n:ar)(St:Nat->cP->Prop):Prop:=∀c(l:aB)(h:ar->aB->Prop)(j:ar->aB->Prop),St c l.heap->h n l->aL (aQ C.prog C.w) k (ya n) h j l
structure e2(C:bS)(A:Around)(X:Addr->Prop)(K:Addr->Prop)(target:aq)(it:Value)(wr:List Addr)(ds:List af)(St:Nat->Heap->Prop):Prop where
 off:∀b∈wr,¬X b
 low:∀b∈wr,K b
 frame:∀i h hr,St i h->(∀b a4,h.get? b=some a4->(b∈wr\/(¬X b/\K b))->hr.get? b=some a4)->St i hr
 here:∀i h,St i h->∀b∈wr,∃a4,h.get? b=some a4
 kA:∀i h,St i h->∀b∈wr,∀a4,h.get? b=some a4->¬fO a4
 turn:R9 C A X K target it wr ds St
 stop:R8 C A it wr ds St
 self:R7 C A it St
def e2.to{K:aF->Prop}{St:Nat->cP->Prop}(B:e2 C j c K m n y g St)(t:aF->Prop)(w:∀D,t D->¬K D):nI C j (λD=>c D\/t D) m n y g St where
 off:=λp r q=>q.elim (B.off p r) λG=>w p G<|B.low p r
 frame:=λL P H st k=>B.frame L P H st λp x O r=>k p x O<|r.imp id λq ab=>ab.elim q.1 λG=>w p G q.2
 here:=B.here
 kA:=B.kA
 turn:=λL d l N M J st I q=>B.turn t L d l N M w J st I q
 stop:=B.stop
 self:=B.self
noncomputable def aaM:List String:=["enumerate","zip","dict_itemiterator","dict_reverseitemiterator","odict_iterator","itertools.zip_longest","itertools.pairwise"]
set_option tactic.hygienic true in
def wd(i:l.heap.get? b=I x)(e:x.cls=.type n)(g:aaM.contains n=av)
  (d:h () l):aL c k (u6 m (.ref b) t) h j l:=by
 have aU:aL c k (do
   let(.ref w,.ref f):=(ags b,t)|return
   let x<-load w
   match x.cls,x.data with
   |.type n,.fields aa=>
    if["enumerate","zip","dict_itemiterator","dict_reverseitemiterator","odict_iterator","itertools.zip_longest","itertools.pairwise"].contains n&&aa[0]?==I (rawInt f)then
     HG "for.unpacks-the-owned-tuple"
     updateField w 0 .none
   |_,_=>bq ()) h j l:=by
  cases t
  case ref f=>
   refine aA<|wpAny_load i ?_;rw[e];cases p:x.data with
   |fields aa=>
    dsimp only;have:["enumerate","zip","dict_itemiterator","dict_reverseitemiterator","odict_iterator","itertools.zip_longest","itertools.pairwise"].contains n=av:=g;rw[this];exact a' d
   |_=>exact a' d
  all_goals exact a' d
 cases m
 case Tuple=>exact aU
 case List=>exact aU
 all_goals exact a' d
def m1{j:cP}{f:aF}{x:cQ}{n:String}(i:j.get? f=I x)(b:x.cls=.type n)(s:(n=="code")=av):∀d,j.get? f=I d->¬fO d:=λd g q=>by rw[i]at g;cases g;have:=b.symm.trans q.1;injection this with this;subst this;simp at s
abbrev fV(c:aF->Prop)(K:aF->Prop)(y:List aF):aF->Prop:=λp=>(c p\/¬K p)\/p∈y
def dE{P:aF->Prop}(j:P f)(p:aF)(q:p∈[f]):P p:=(c_.mp q)▸j
def k_{P:aF->Prop}(j:P f)(d:P g)(p:aF)(q:p∈[f,g]):P p:=(c9.mp q).elim (λi=>i▸j)<|dE d p
def tO{P:aF->Prop}(j:P f)(k:P g)(l:P d)(m:P i)(p:aF)(q:p∈[f,g,d,i]):P p:=(c9.mp q).elim (λi=>i▸j) λq=>(c9.mp q).elim (λi=>i▸k)<|k_ l m p
def tP{P:aF->Prop}(j:∀p∈y,P p)(d:P f)(p:aF)(q:p∈y++[f]):P p:=(jD.mp q).elim (j p)<|dE d p
def Ae{p f g:aF}(j:p∉[f,g]):p≠f/\p≠g:=by simpa using j
def o7{p f g d i:aF}(j:p∉[f,g,d,i]):p≠f/\p≠g/\p≠d/\p≠i:=by simpa using j
def fV.no{c K:aF->Prop}(j:¬fV c K y p):¬c p/\K p:=⟨λq=>j<|.inl<|.inl q,sa λq=>j<|.inl<|.inr q⟩
def e2.ofWalks{K:aF->Prop}{St:Nat->cP->Prop}{R:cP->Prop} (Y:Walks C.prog C.w al am m y ds.length an St) (V:∀p∈y,¬X p) (L:∀p∈y,K p) (S:∀p∈m,p∈y\/(¬X p/\K p)) (N:∀B r,R B->(∀p x,B.get? p=I x->¬fV X K y p->r.get? p=I x)->R r) (T:∀c t(l:aB)(a:Unit->aB->Prop)(j:ar->aB->Prop),St c l.heap->a () l->aL (aQ C.prog C.w) al (u6 target (.ref am) t) a j l) (g:∀c B,St c B->∀p∈y,∃x,B.get? p=I x) (U:∀c B,St c B->∀p∈y,∀x,B.get? p=I x->¬fO x) (aa:∀c t B d,an c t->R B->ds[c]?=I d->Rz (fV X K y) B t d):e2 C al X K target (.ref am) y ds (λc B=>St c B/\R B)where
 off:=V
 low:=L
 frame:=λc B r st k=>⟨Y.frame c B r st.1 λp J x M=>k p x M<|S p J,N B r st.2 λp x M D=>k p x M<|.inr ⟨λq=>D<|.inl<|.inl q,sa λq=>D<|.inl<|.inr q⟩⟩
 here:=λc B st=>g c B st.1
 kA:=λc B st=>U c B st.1
 turn:=λae c d l a j Z O st ad q=>by have ac:c<ds.length:=(qC.mp O).1;refine Y.item c l _ j ac st.1 λt r f n H k=>?_;have G:R r:=N _ _ st.2 λp x M D=>k p x (λq=>D<|.inr q) M;refine T (c+1) t _ _ _ H<|q t r f k ⟨H,G⟩<|(aa c t r d n G O).less λp J=>?_;exact J.imp (λab=>ab.imp id<|Z p) id
 stop:=λl a j st q=>Y.done l _ j st.1 λr f k=>q r f k
 self:=λc l a j st q=>Y.self c l a j st.1 q
def fV.keep{K:aF->Prop}{aa:List ar}(j d:cP)(w:RzL (fV c K y) j aa g)(k:∀p x,j.get? p=I x->¬fV c K y p->d.get? p=I x):RzL (fV c K y) d aa g:=w.mono λp x q i=>k p x i q
theorem e2.list{k:ef}{c:aF->Prop}{K:aF->Prop}{m:aq}{B f:aF}{aa:List ar}{ds:List af}(J:k.handled=ai)(G:¬c B)(g:K B)(n:¬c f)(M:K f)(l:f≠B)(L:aa.length=ds.length):e2 C k c K m (.ref B) [B] ds (λF j=>(j.IsListIter B f F/\j.IsList f aa.toArray)/\RzL (fV c K [B]) j aa ds):=by have N:=Walks.list (prog:=C.prog) (w:=C.w) J B f l aa.toArray;rw[show aa.toArray.size=ds.length by simpa using L]at N;refine e2.ofWalks N ?_ ?_ ?_ fV.keep ?_ ?_ ?_ ?_;exact dE G;exact dE g;exact k_ (P:=λp=>p∈[B]\/(¬c p/\K p)) (.inl<|.head _)<|.inr ⟨n,M⟩;exactλF t V U T st q=>st.1.elim λx f=>wd f.1 f.2.1 z q;exactλF j st=>dE (P:=λp=>∃x,j.get? p=I x)<|st.1.imp λx=>jA;exactλF j st=>dE (P:=λp=>∀x,j.get? p=I x->¬fO x)<|st.1.elim λx f=>m1 f.1 f.2.1 z;intro F t j d D R H;obtain⟨S,O,y⟩:=R.get H;simp only[oh]at D;rw[D]at O;cases O;exact y
theorem e2.tuple{K:aF->Prop}{aa:List ar}(H:A.handled=ai)(F:¬c g)(L:K g)(n:¬c f)(M:K f)(l:f≠g)(J:aa.length=ds.length):e2 C A c K m (.ref g) [g] ds (λD j=>(j.IsTupleIter g f D/\j.IsTuple f aa.toArray)/\RzL (fV c K [g]) j aa ds):=by have N:=P9 (prog:=C.prog) (w:=C.w) H g f l aa.toArray;rw[show aa.toArray.size=ds.length by simpa using J]at N;refine e2.ofWalks N ?_ ?_ ?_ fV.keep ?_ ?_ ?_ ?_;exact dE F;exact dE L;exact k_ (P:=λp=>p∈[g]\/(¬c p/\K p)) (.inl<|.head _)<|.inr ⟨n,M⟩;exactλD t U T S st q=>st.1.elim λx f=>wd f.1 f.2.1 z q;exactλD j st=>dE (P:=λp=>∃x,j.get? p=I x)<|st.1.imp λx=>jA;exactλD j st=>dE (P:=λp=>∀x,j.get? p=I x->¬fO x)<|st.1.elim λx f=>m1 f.1 f.2.1 z;intro D t j d B R G;obtain⟨k,O,y⟩:=R.get G;simp only[oh]at B;rw[B]at O;cases O;exact y
noncomputable def kH(f g:Int)(y:Nat):List af:=(aH y).map λb=>.int<|f+(b:Nat)*g
theorem e2.range{K:aF->Prop}(L:k.handled=ai)(J:¬p l)(M:K l):e2 C k p K m (.ref l) [l] (kH f g y) (λB D=>IsRangeIter D l (f+(B:Nat)*g) ((y:Int) -(B:Nat)) g/\True):=by
 have N:=Walks.range (prog:=C.prog) (w:=C.w) L l f g y;have r:(kH f g y).length=y:=by simp[kH]
 rw[<-r]at N;have:=e2.ofWalks (X:=p) (K:=K) (target:=m) (R:=λZ=>True) N (dE J) (dE M) (λ_=>.inl) (λZ Z Z Z=>trivial) ?_ ?_ ?_ ?_;rw[r]at this;exact this;intro B T Y V U st q;exact wd (n:="range_iterator") st rfl z q;exactλB D st=>dE (P:=λH=>∃x,D.get? H=I x) ⟨_,st⟩;exactλB D st=>dE (P:=λH=>∀x,D.get? H=I x->¬fO x)<|m1 (n:="range_iterator") st rfl z;rintro B T D d ⟨aa,rfl⟩ _ F;simp only[kH,jC,xV]at F;obtain⟨S,G,rfl⟩:=F;have:S=B:=by rw[qC]at G;obtain⟨Z,O⟩:=G;simpa using O.symm
 subst this;exact .int _ _
noncomputable def q2(m:au):List af:=m.cps.toList.map λg=>.str ⟨#[g]⟩
theorem e2.str{K:aF->Prop}(F:k.handled=ai)(H:¬l e)(L:K e):e2 C k l K g (.ref e) [e] (q2 m) (λf j=>j.IsStrIter e (BV m) m t f/\True):=by
 have y:Walks C.prog C.w k e [e] [e] (q2 m).length (SignAt m) (λf j=>j.IsStrIter e (BV m) m t f):=by rw[show(q2 m).length=m.cps.size by simp[q2]];unfold BV;split;exact Walks.strAscii F e m t;exact Walks.strWide F e m t
 refine e2.ofWalks (R:=λZ=>True) y (dE H) (dE L) (λ_=>.inl) (λZ Z Z Z=>trivial) ?_ ?_ ?_ ?_;exactλf N T S O st q=>st.elim λn B=>wd B.1 B.2.1 (by unfold BV;split<;>decide) q;exactλf j st=>dE (P:=λp=>∃n,j.get? p=I n)<|st.imp λn=>jA;exactλf j st=>dE (P:=λp=>∀n,j.get? p=I n->¬fO n) (st.elim λn B=>m1 B.1 B.2.1 (by unfold BV;split<;>decide));rintro f N j d ⟨M,U,J,rfl⟩ _ D;simp only[q2,jC,xV]at D;obtain⟨G,r,rfl⟩:=D;have:M=G:=PH (J.symm.trans<|by simpa using r);subst this;exact .str _ _
def e2.rev{K:aF->Prop}{aa:List ar}(L:k.handled=ai)(J:¬c j)(O:K j)(n:¬c f)(S:K f)(l:f≠j)(N:aa.length=g.length):e2 C k c K m (.ref j) [j] g.reverse (λG B=>(G<=g.length/\B.IsRevIter j f ((g.length:Int) -1 -(G:Int))/\B.IsList f aa.toArray)/\RzL (fV c K [j]) B aa g):=by
 have y:=Walks.listRev (prog:=C.prog) (w:=C.w) L j f l aa.toArray;have H:aa.toArray.size=g.length:=by simpa using N
 rw[H]at y;rw[<-GO]at y;have:=e2.ofWalks (X:=c) (K:=K) (target:=m) (ds:=g.reverse) (R:=λB=>RzL (fV c K [j]) B aa g) y ?_ ?_ ?_ fV.keep ?_ ?_ ?_ ?_;rw[GO]at this;exact this;exact dE J;exact dE O;exact k_ (P:=λp=>p∈[j]\/(¬c p/\K p)) (.inl<|.head _)<|.inr ⟨n,S⟩;exactλG t ac ab Z st q=>st.2.1.elim λx f=>wd f.1 f.2.1 z q;exactλG B st=>dE (P:=λp=>∃x,B.get? p=I x)<|st.2.1.imp λx=>jA;exactλG B st=>dE (P:=λp=>∀x,B.get? p=I x->¬fO x)<|st.2.1.elim λx f=>m1 f.1 f.2.1 z;intro G t B d F V D;have M:G<g.length:=by simpa using(qC.mp D).1
 rw[List.getElem?_reverse<|by simpa using M]at D;obtain⟨Y,U,T⟩:=V.get D;rw[GO]at F;simp only[oh]at F;rw[F]at U;cases U;exact T
noncomputable def q1(g:List af):List af:=g.zipIdx.map λs=>.tuple [.int (s.2:Nat),s.1]
def Nx(ag:¬c a)(b:j.get? a=I {cls:=.type "tuple",data:=.seq k})(w:RzL c j k.toList g):Rz c j (.ref a) (.tuple g):=by obtain⟨aa⟩:=k;exact .tuple ag b w
def MK(g:List af):(q1 g).length=g.length:=by simp[q1]
def Z5{c:Nat}(j:(q1 g)[c]?=I d):∃t,g[c]?=I t/\.tuple [.int (c:Nat),t]=d:=by simp only[q1,jC,xV,List.getElem?_zipIdx]at j;obtain⟨s,⟨t,a,rfl⟩,rfl⟩:=j;exact⟨t,a,by simp⟩
def e2.enum{K:aF->Prop}{cZ:List aq}{aa:List ar}(an:bd.handled=ai)(am:¬m l)(ac:¬m j)(ak:¬m f)(au:K l)(ad:K j)(as:K f)(S:l≠j)(R:f≠l)(Y:f≠j)(ao:aa.length=g.length):e2 C bd m K (.Tuple cZ k a2) (.ref l) [l,j] (q1 g) (λV J=>((∃G,IsEnum J l j V G)/\J.IsListIter j f V/\J.IsList f aa.toArray)/\RzL (fV m K [l,j]) J aa g)where
 off:=k_ am ac
 low:=k_ au ad
 frame:=λV J T st kp=>
  ⟨⟨st.1.1.imp λG B=>kp l _ B<|.inl<|.head _,st.1.2.1.at λt W=>kp j t W<|.inl<|.tail _<|.head _,st.1.2.2.at λt W=>kp f t W<|.inr ⟨ak,as⟩⟩,st.2.mono λp t w W=>kp p t W<|.inr<|fV.no w⟩
 here:=λV J st=>k_ (P:=λp=>∃t,J.get? p=I t) (st.1.1.elim λG B=>⟨_,B⟩)<|st.1.2.1.imp λt=>jA
 kA:=λV J st=>k_ (P:=λp=>∀t,J.get? p=I t->¬fO t) (st.1.1.elim λG B=>m1 (n:="enumerate") B rfl z)<|st.1.2.1.elim λt f=>m1 f.1 f.2.1 z
 turn:=λaA V d N ax aw af al st aj q=>by
  obtain⟨G,B⟩:=st.1.1;obtain⟨az,Z,rfl⟩:=Z5 al;obtain⟨W,ag,av⟩:=st.2.get Z;refine wpAny_pyNext_enum_item B st.1.2.1 st.1.2.2 (oh.trans ag) S λT ap U ah ay kp=>?_;have M:∀{a1},(∃t,N.heap.get? a1=I t)->N.heap.objs.size≠a1:=λ⟨_,l⟩=>ih<|il l;refine wpAny_letOwnedTupleGo_enum ap λr L D=>?_;have d5:∀p t,p∉[l,j]->N.heap.get? p=I t->r.get? p=I t:=λp t w O=>
   (D.2 p (Ae w).1).trans (kp p t (Ae w).1 (Ae w).2 O)
  have ae:∀p t,¬fV m K [l,j] p->N.heap.get? p=I t->r.get? p=I t:=λp t w=>d5 p t λq=>w<|.inr q;refine q _ r (N.toks+1) d5 ⟨⟨⟨W,L⟩,U.at λt O=>(D.2 j S.symm).trans O,(st.1.2.2.at λt O=>kp f t R Y O).at λt O=>(D.2 f R).trans O⟩,st.2.mono λp t w=>ae p t w⟩ ?_;refine Nx ?_ ((D.2 _<|M ⟨_,B⟩).trans ah)<|.cons (Rz.int _ _)<|.cons ((av.mono λp t w=>ae p t w).less λp w=>w.imp (λab=>ab.imp id<|af p) id) .nil;exactλH=>H.elim (λH=>M (aj _ H) rfl) λH=>k_ (P:=λp=>N.heap.objs.size≠p) (M ⟨_,B⟩) (M<|st.1.2.1.imp λt=>jA) _ H rfl
 stop:=λN ax aw st q=>by obtain⟨G,B⟩:=st.1.1;exact wpAny_pyNext_enum_end an (MK g▸B) (MK g▸st.1.2.1) st.1.2.2 (by simp[ao]) λT kp=>q T N.toks λp t w O=>kp p t (Ae w).2 O
 self:=λV N ax aw st q=>st.1.1.elim λG B=>agX B q
noncomputable def oy:List af->List af->List af|a::d,p::w=>.tuple [a,p]::oy d w|_,_=>[]
def aaP:∀{w:List af}{c:Nat}{d:af},(oy e w)[c]?=I d->∃f p,e[c]?=I f/\w[c]?=I p/\d=.tuple [f,p]:=by
 induction e with
 |nil=>exactλj=>nS j
 |cons f e g=>
  intro w c d j;induction w using bb with
  |nil=>exact nS j
  |cons p w=>
   induction c using cN with|zero=>exact⟨f,p,rfl,rfl,(aZ j).symm⟩|succ c=>exact g (c:=c) j
def MV(d:List af):∀w:List af,(oy d w).length=min d.length w.length:=by
 induction d with
 |nil=>exactλw=>(Nat.zero_min _).symm
 |cons f d g=>
  intro w;induction w using bb with|nil=>rfl|cons p w=>exact(congrArg (·+1)<|g w).trans (Nat.add_min_add_right ..).symm
def e2.zip{K:aF->Prop}{cZ:List aq}{ab L H di dq M N:aF}{aa us:List ar}(aB:bd.handled=ai)(D:ZipApart ab L H di dq M N) (aE:¬j ab) (ac:¬j L) (ad:¬j H) (aw:¬j di) (ax:¬j dq) (ae:¬j M) (af:¬j N) (aH:K ab) (aj:K L) (ak:K H) (aG:K di) (ah:K dq) (al:K M) (am:K N) (mY:aa.length=g.length) (i1:us.length=l.length):e2 C bd j K (.Tuple cZ k a2) (.ref ab) [ab,H,di,dq] (oy g l) (λZ J=>(IsZip J ab L H .none/\IsPair J L (.ref di) (.ref dq)/\(∃W G,IsPair J H W G)/\J.IsListIter di M Z/\J.IsListIter dq N Z/\J.IsList M aa.toArray/\J.IsList N us.toArray)/\RzL (fV j K [ab,H,di,dq]) J aa g/\RzL (fV j K [ab,H,di,dq]) J us l)where
 off:=tO aE ad aw ax
 low:=tO aH ak aG ah
 frame:=λZ J Y st kp=>
  ⟨⟨kp _ _ st.1.1<|.inl<|.head _,kp _ _ st.1.2.1<|.inr ⟨ac,aj⟩,st.1.2.2.1.imp λS=>aeC λm fi=>kp _ _ fi<|.inl<|.tail _<|.head _,st.1.2.2.2.1.at λw f=>kp _ w f<|.inl<|.tail _<|.tail _<|.head _,st.1.2.2.2.2.1.at λw f=>kp _ w f<|.inl<|.tail _<|.tail _<|.tail _<|.head _,st.1.2.2.2.2.2.1.at λw f=>kp _ w f<|.inr ⟨ae,al⟩,st.1.2.2.2.2.2.2.at λw f=>kp _ w f<|.inr ⟨af,am⟩⟩,st.2.1.mono λG w t S=>kp G w S<|.inr<|fV.no t,st.2.2.mono λG w t S=>kp G w S<|.inr<|fV.no t⟩
 here:=λZ J st=>tO (P:=λG=>∃w,J.get? G=I w) ⟨_,st.1.1⟩ (st.1.2.2.1.elim λS=>Exists.elim (p:=λm=>IsPair J H S m) (h₂:=λm fi=>⟨_,fi⟩)) (st.1.2.2.2.1.imp λw=>jA)<|st.1.2.2.2.2.1.imp λw=>jA
 kA:=λZ J st=>tO (P:=λG=>∀w,J.get? G=I w->¬fO w) (m1 (n:="zip") st.1.1 rfl z) (st.1.2.2.1.elim λS=>λ⟨m,fi⟩=>m1 (n:="tuple") fi rfl z) (st.1.2.2.2.1.elim λw W=>m1 W.1 W.2.1 z)<|st.1.2.2.2.2.1.elim λw W=>m1 W.1 W.2.1 z
 turn:=λaP Z d V aO aN ay aA st az q=>by
  obtain⟨aI,aJ,fi⟩:=st.1.2.2.1;obtain⟨aR,vR,aC,aM,rfl⟩:=aaP aA;obtain⟨S,ag,aK⟩:=st.2.1.get aC;obtain⟨m,aD,aL⟩:=st.2.2.get aM;refine wpAny_pyNext_zip_item D st.1.1 st.1.2.1 fi st.1.2.2.2.1 st.1.2.2.2.2.1 st.1.2.2.2.2.2.1 st.1.2.2.2.2.2.2 (x:=S) (y:=m) (oh.trans ag) (oh.trans aD) λY ao ap as au av aQ kp=>?_;have O:∀{a1},(∃w,V.heap.get? a1=I w)->V.heap.objs.size≠a1:=λ⟨_,f⟩=>ih<|il f;refine wpAny_letOwnedTupleGo_zip ao λr T B=>?_;have d5:∀G w,G∉[ab,H,di,dq]->V.heap.get? G=I w->r.get? G=I w:=λG w t m=>
   (B.2 G (o7 t).1).trans (kp G w (o7 t).1 (o7 t).2.1 (o7 t).2.2.1 (o7 t).2.2.2 m)
  have U:∀G w,¬fV j K [ab,H,di,dq] G->V.heap.get? G=I w->r.get? G=I w:=λG w t=>d5 G w λq=>t<|.inr q;have an:∀G,(j G\/aP G)\/G∈[ab,H,di,dq]->fV j K [ab,H,di,dq] G:=λG t=>t.imp (λab=>ab.imp id<|ay G) id;refine q _ r V.toks d5 ⟨⟨T,(B.2 L D.TIz).trans<|kp L _ D.TIz D.TITO D.TIi1 D.TIi2 st.1.2.1,⟨S,m,(B.2 H D.TOz).trans ap⟩,as.at λw f=>(B.2 di D.i1z).trans f,au.at λw f=>(B.2 dq D.i2z).trans f,st.1.2.2.2.2.2.1.at λw f=>(B.2 M D.l1z).trans<|kp M w D.l1z D.l1TO D.l1i1 D.l1i2 f,st.1.2.2.2.2.2.2.at λw f=>(B.2 N D.l2z).trans<|kp N w D.l2z D.l2TO D.l2i1 D.l2i2 f⟩,st.2.1.mono λG w t=>U G w t,st.2.2.mono λG w t=>U G w t⟩ ?_;refine Nx ?_ ((B.2 _<|O ⟨_,st.1.1⟩).trans av)<|.cons ((aK.mono λG w t=>U G w t).less an)<|.cons ((aL.mono λG w t=>U G w t).less an) .nil;exactλR=>R.elim (λR=>O (az _ R) rfl) λR=>tO (P:=λG=>V.heap.objs.size≠G) (O ⟨_,st.1.1⟩) (O ⟨_,fi⟩) (O<|st.1.2.2.2.1.imp λw=>jA) (O<|st.1.2.2.2.2.1.imp λw=>jA) _ R rfl
 stop:=λV aO aN st q=>by obtain⟨aI,aJ,fi⟩:=st.1.2.2.1;refine wpAny_pyNext_zip_end aB D st.1.1 st.1.2.1 fi ((MV g l)▸st.1.2.2.2.1) ((MV g l)▸st.1.2.2.2.2.1) st.1.2.2.2.2.2.1 st.1.2.2.2.2.2.2 ?_ λY kp=>q Y V.toks λG w t m=>kp G w (o7 t).1 (o7 t).2.1 (o7 t).2.2.1 (o7 t).2.2.2 m;rw[oh,oh];exact(afl g.length l.length).imp (λJ=>xK (by rw[mY,afp J];exact cz _)) (λJ=>xK (by rw[i1,Nat.min_eq_right J];exact cz _))
 self:=λZ V aO aN st q=>agY st.1.1 q
end
structure a0 where
 sc:Scope
 own:List Str
abbrev cf:=List<|au×af
set_option genInjectivity false in
structure cY where
 bin:Operator->af->af->Option af
 un:UnaryOp->af->Option af
 cmp:CmpOp->af->af->Option Bool
 truth:af->Option Bool
 item:af->af->Option af
 slice:af->af->af->af->Option af
 attr:af->Str->Option af
 e':af->Str->List af->Option af
 call:Str->List af->Option af
 const:Str->Option af
 aug:Operator->af->af->Option af
 move:Str->List af->List af->Option af
 h9:Str->Str->Option af
noncomputable def a0.global(a:a0)(m:au):Bool:=a.sc.kind==.function&&a.sc.names.lookup m==I .globalImplicit&&!(m==("__debug__":au))
noncomputable def Az(l j:gW):gW:={l with names:=l.names.map λ(y,k)=>if(k==.free&&j.kind==.function&&j.names.lookup y==I .cell)then(y,.cell)else(y,k)}
noncomputable def jo(m:au):Bool:=!(m==("__debug__":au))&&!(m==("__classdict__":au))
noncomputable def dM:List au->Bool|[]=>ah|x::w=>!w.contains x&&dM w
def a0.comp(a:a0)(l:gW):Option a0:=if a.sc.kind==.function&&l.kind==.function&&dM (l.names.map (·.1))&&l.names.all (λs=>jo s.1&&l.names.lookup s.1==I s.2&&(s.2!=.free||a.sc.names.lookup s.1==I .cell||a.sc.names.lookup s.1==I .free))then
  I ⟨Az l a.sc,(l.names.filter λs=>s.2==.local||s.2==.cell).map (·.1)⟩
 else ai
noncomputable def eK(l:gW)(f:cf):cf:=f.filter λs=>l.names.lookup s.1==I .free
def pR(a:a0)(i:aq)(d:af)(f:cf):Option cf:=(fo i).bind λab=>if a.own.contains ab.1&&jo ab.1 then I ((ab.1,d)::f)else ai
noncomputable def hF(a:a0):List aq->List af->cf->Option cf|[],[],f=>I f|e::b,d::g,f=>(pR a e d f).bind λc=>hF a b g c|_,_,_=>ai
noncomputable def uk(d:af):Option (List af):=if j:d.ctorIdx=5 then af.tuple.elim (motive_1:=λZ=>Option<|List af) d j I else ai
def eR(a:a0)(k:aq)(d:af)(f:cf):Option cf:=(j7 k).elim (pR a k d f) λab=>(uk d).bind λg=>hF a ab.1 g f
def wK(i:aq):Option au:=(fo i).map (·.1)
def xq(i:aq):List au:=(j7 i).elim (wK i).toList λab=>ab.1.filterMap wK
def fw(a:a0)(m:aq)(d:af)(f:cf):Option cf:=if(xq m).all λb=>(f.lookup b).isNone then eR a m d f else ai
noncomputable def eM:aq->Bool|.Starred ..=>ah|_=>av
noncomputable def ud:af->Option (List af)|.list g=>I g|.tuple g=>I g|_=>ai
noncomputable def nB:af->Option (List af)|.list g=>I g|_=>ai
noncomputable def QT:aq->Bool|.Name ..=>ah|_=>av
def B_(i:aq):Bool:=(j7 i).isSome
def q0(a:aq):af->Option (List af)|.list g=>I g|.tuple g=>I g|.str m=>if QT a then I (q2 m)else ai|_=>ai
def Cz:List aq->Option aq|[f]=>if eM f then ai else I f|_=>ai
def n'(d:List aq):Option aq:=(i2 d).bind λi=>(Gp i).map (·.1)
def xc(i:aq):Option (Option aq×Option aq×Option aq):=(Gn i).map λab=>(ab.1,ab.2.1,ab.2.2.1)
def o_(y:au)(d:List aq):Option (au×List aq):=(i2 d).bind λi=>(uy i).bind λab=>if y==("list":au)&&ab.1==("range":au)then I (ab.1,ab.2.2.1)else ai
def IS:List aq->Option (aq×aq)|[f,p]=>if eM f||eM p then ai else I (f,p)|_=>ai
def mW(b:List aq):Option (au×au×List aq×List aq):=b.head?.bind λi=>(uy i).bind λab=>(i2 ab.2.2.1).bind λg=>(uy g).bind λa=>if ab.1==("list":au)&&a.1==("range":au)&&!b.tail.isEmpty then I (ab.1,a.1,a.2.2.1,b.tail)else ai
def tI(r:au)(b:List aq):Option (au×au):=(t2 b).bind λq=>(ph q.1).bind λa=>(ph q.2).bind λc=>if r==("replace":au)then I (a,c)else ai
noncomputable def Fm(f:af)(m b:au):Option af:=match f with|.str ab=>if decide (ab.length+(ab.length+1)*b.length<=16777216)then I (.str<|agq ab m b)else ai|_=>ai
def S4(i:aq):Option af:=(ph i).elim ((wk i).map .int) λm=>I<|.str m
noncomputable def vU:List (Option aq)->List aq->Option (List<|au×af)|[],[]=>I []|k::n,t::aa=>(k.bind ph).bind λm=>(S4 t).bind λd=>(vU n aa).map λw=>(m,d)::w|_,_=>ai
noncomputable def o1:List au->Bool|[]=>ah|x::w=>!w.contains x&&o1 w
def J_(n:List (Option aq))(aa:List aq):Option af:=(vU n aa).bind λp=>if o1 (p.map (·.1))&&!p.isEmpty&&bI p.length 15 then I (.dict p)else ai
def qh(i:aq):Bool:=(uy i).elim ah λab=>!ab.2.2.1.isEmpty
noncomputable def lh(f p g:Int):Bool:=PM f p g&&decide (g≠0)&&decide (kd f p g<=1000000)
def eo:List af->Option (List af)|[.int p]=>if lh 0 p 1 then I (kH 0 1 (kd 0 p 1).toNat)else ai|[.int f,.int p]=>if lh f p 1 then I (kH f 1 (kd f p 1).toNat)else ai|[.int f,.int p,.int g]=>if lh f p g&&!nr (p -f) g then I (kH f g (kd f p g).toNat)else ai|_=>ai
def DF(a:a0)(f:cf)(i:aq):Option au:=(fo i).bind λab=>if a.global ab.1&&(f.lookup ab.1).isNone then I ab.1 else ai
mutual
noncomputable def bh(C:cY):Nat->a0->cf->aq->Option af
 |0,_,_,_=>none
 |n+1,B,j,an=>match an with
  |.Constant (.int c) _ _=>some<|.int c
  |.Constant (.float F) _ _=>some<|.float F
  |.Constant (.str F) _ _=>some<|.str F
  |.Constant (.bool F) _ _=>some<|.bool F
  |.Constant .none _ _=>some .none
  |.Name F _=>match j.lookup F with|some d=>some d|none=>if B.global F then C.const F else none
  |.Tuple L _ _=>(fj C n B j L).bind λI=>if bI I.length 1000000 then some (.tuple I)else none
  |.List L _=>(fj C n B j L).bind λI=>if bI I.length 1000000 then some (.list I)else none
  |.BinOp Q g w _=>(bh C n B j Q).bind λE=>(bh C n B j w).bind λH=>C.bin g E H
  |.UnaryOp g F _=>(bh C n B j F).bind λE=>C.un g E
  |.Compare Q [g] [w] _=>if nu g w then none else(bh C n B j Q).bind λE=>(bh C n B j w).bind λH=>(C.cmp g E H).map .bool
  |.IfExp ac E H _=>(fB C n B j ac).bind λk=>if k then bh C n B j E else bh C n B j H
  |.Subscript M c _=>(xc c).elim ((bh C n B j M).bind λE=>(bh C n B j c).bind λH=>C.item E H) λq=>(bh C n B j M).bind λE=>(v5 C n B j q.1).bind λQ=>(v5 C n B j q.2.1).bind λab=>(v5 C n B j q.2.2).bind λac=>C.slice E Q ab ac
  |.Attribute M F _=>(DF B j M).elim (if qh M then(bh C n B j M).bind λE=>C.attr E F else none) λy=>C.h9 y F
  |.Call (.Attribute am al R) A [] as=>if qh am&&bI A.length 20&&R.endLine==as.line then(bh C n B j am).bind λE=>(tI al A).elim ((fj C n B j A).bind λI=>C.e' E al I) λW=>Fm E W.1 W.2 else none
  |.Call (.Name y _) A [] _=>if B.global y&&(j.lookup y).isNone then
    (n' A).elim ((o_ y A).elim ((mW A).elim ((fj C n B j A).bind λI=>C.call y I) λJ=>
     if B.global J.1&&(j.lookup J.1).isNone&&B.global J.2.1&&(j.lookup J.2.1).isNone then(fj C n B j J.2.2.1).bind λZ=>(eo Z).bind λY=>(fj C n B j J.2.2.2).bind λI=>C.move y Y I else none) λV=>if B.global V.1&&(j.lookup V.1).isNone then(fj C n B j V.2).bind λI=>(eo I).map .list else none)
     λF=>(bh C n B j F).bind λd=>(ud d).bind λI=>if bI I.length 1000000 then C.call y I else none
   else none
  |.Dict U aa _=>J_ U aa
  |.ListComp N (⟨D,s,P,k⟩::T) G _=>if k==0 then(B.comp G).bind λX=>(er C n B j D s).bind λI=>
    (pK C n X (eK G j) N D P T I).bind λK=>if bI K.length 1000000 then some (.list K)else none
   else none
  |_=>none
noncomputable def v5(h:cY):Nat->a0->cf->Option aq->Option af
 |0,_,_,_=>none
 |n+1,a,f,i=>match i with|none=>some .none|some i=>bh h n a f i
noncomputable def fj(h:cY):Nat->a0->cf->List aq->Option (List af)
 |0,_,_,_=>ai
 |n+1,a,f,b=>match b with|[]=>I []|e::b=>if eM e then ai else(bh h n a f e).bind λd=>(fj h n a f b).bind λw=>I<|d::w
noncomputable def fB(q:cY):Nat->a0->cf->aq->Option Bool
 |0,_,_,_=>ai
 |n+1,c,f,e=>match e with|.UnaryOp .Not j _=>(fB q n c f j).map (!·)|.BoolOp g h _=>oG q n c f g h|.IfExp _ _ _ _=>ai|.Compare d [g] [w] _=>if nu g w then ai else(bh q n c f d).bind λt=>(bh q n c f w).bind λp=>q.cmp g t p|.Compare d [g,m] [w,i] _=>if nu m i then ai else(bh q n c f d).bind λt=>(bh q n c f w).bind λp=>(bh q n c f i).bind λe=>(q.cmp g t p).bind λk=>(q.cmp m p e).bind λs=>I (k&&s)|.Compare _ _ _ _=>ai|e=>(bh q n c f e).bind q.truth
noncomputable def oG(h:cY):Nat->a0->cf->uU->List aq->Option Bool
 |0,_,_,_,_=>ai
 |n+1,a,f,g,b=>match g,b with|.And,[]=>I ah|.Or,[]=>I av|.And,i::b=>(fB h n a f i).bind λk=>if k then oG h n a f .And b else I av|.Or,i::b=>(fB h n a f i).bind λk=>if k then I ah else oG h n a f .Or b
noncomputable def er(h:cY):Nat->a0->cf->aq->aq->Option (List af)
 |0,_,_,_,_=>ai
 |n+1,c,b,m,e=>match e with
  |.Call (.Name y s) k [] q=>if c.global y&&(b.lookup y).isNone then
    (if y==("range":au)then(fj h n c b k).bind eo
    else if y==("enumerate":au)then(if B_ m then(Cz k).bind λi=>(bh h n c b i).bind λd=>(nB d).map q1 else ai)
    else if y==("zip":au)then(if B_ m then(IS k).bind λi=>(bh h n c b i.1).bind λd=>(bh h n c b i.2).bind λt=>(nB d).bind λg=>(nB t).map λj=>oy g j else ai)
    else if y==("reversed":au)then(Cz k).bind λi=>(bh h n c b i).bind λd=>(nB d).map List.reverse
    else(bh h n c b<|.Call (.Name y s) k [] q).bind ud)
   else ai
  |e=>(bh h n c b e).bind<|q0 m
noncomputable def pK(q:cY):Nat->a0->cf->aq->aq->List aq->List mA->List af->Option (List af)
 |0,_,_,_,_,_,_,_=>ai
 |n+1,a,f,p,m,b,c,g=>match g with
  |[]=>I []
  |d::g=>(fw a m d f).bind λl=>(oG q n a l .And b).bind λk=>
    (if k then match c with
     |[]=>(bh q n a l p).map λy=>[y]
     |⟨j,h,i,s⟩::e=>if s==0 then(er q n a l j h).bind λt=>pK q n a l p j i e t else ai
    else I []).bind λa6=>(pK q n a f p m b c g).bind λw=>I<|a6++w
end
section
variable{C:bS}
structure b1(C:bS)(c:b_)(S:a0)(aK:cf)(s:Shared):Prop where
 sc:c.env.scope=S.sc
 glob:c.env.globals=C.G
 blt:c.env.builtins=C.B
 a_:∀a,C.T a->c.X a
 own:∀x,S.own.contains x=true->jo x=true->B5 c x
 cells:∀n,(S.sc.names.lookup n=some .cell\/S.sc.names.lookup n=some .free)->∃a,c.env.cells.lookup n=some a
 names:∀x d,aK.lookup x=some d->lN C c s x d
 loc:h2 C c s
def lN.ext'(w:lN C g l m d)(k:∀f,C.T f->g.X f)(r:aw C l ae):lN C g ae m d:=
 let⟨h,f,p⟩:=w;⟨h,f.ext r,p.mono λp A j i=>r.keep p A i λq=>j<|k p q⟩
theorem b1.ext(k:b1 C g a f l)(m:aw C l ae):b1 C g a f ae:=⟨k.sc,k.glob,k.blt,k.a_,k.own,k.cells,λb d i=>(k.names b d i).ext' k.a_ m,k.loc.ext m⟩
def yW(j:pR a i d f=I c):∃m s,i=.Name m s/\(a.own.contains m&&jo m)=ah/\(m,d)::f=c:=bK j λab l j=>⟨ab.1,ab.2,jy l,cw j⟩
def yX(ag:(a.own.contains m&&jo m)=ah):pR a (.Name m s) d f=I ((m,d)::f):=if_pos ag
inductive yi(S:a0):List aq->List af->cf->cf->Prop
 |nil (aK):yi S [] [] aK aK
 |cons {x p bA d ds aK qx} (ag:(S.own.contains x&&jo x)=true):yi S bA ds ((x,d)::aK) qx->yi S (.Name x p::bA) (d::ds) aK qx
def rj:∀{g:List af}{f c:cf},hF a b g f=I c->yi a b g f c:=by
 induction b with
 |nil=>
  intro g f c j;induction g using bb with|nil=>exact aZ j▸.nil _|cons=>exact nS j
 |cons i b k=>
  intro g f c j;induction g using bb with
  |nil=>exact nS j
  |cons d g=>
   refine bK j λn s l=>?_;obtain⟨m,q,aC,ag,aM⟩:=yW s;rw[aC];exact .cons ag<|k<|aM▸l
inductive B2(S:a0):aq->af->cf->cf->Prop
 |name {x p d aK} (ag:(S.own.contains x&&jo x)=true):B2 S (.Name x p) d aK ((x,d)::aK)
 |tuple {bA k p ds aK qx} (h:hF S bA ds aK=some qx):B2 S (.Tuple bA k p) (.tuple ds) aK qx
def Oq(j:uk d=I b):d=.tuple b:=by by_cases w:d.ctorIdx=5;exact af.tuple.elim (motive_1:=λd=>uk d=I b->d=.tuple b) d w (λf j=>congrArg _<|aZ j) j;exact nS<|(dif_neg w).symm.trans j
def yY(j:eR a k d f=some c):B2 a k d f c:=by
 replace j:(j7 k).elim (pR a k d f) (λab=>(uk d).bind λg=>hF a ab.1 g f)=some c:=j;induction l:j7 k using b6 with
 |none=>
  rw[l]at j;obtain⟨m,s,aC,ag,aM⟩:=yW j;rw[aC,<-aM];exact .name ag
 |some ab=>
  rw[l]at j;exact bK j λg b j=>by rw[uz l,Oq b];exact .tuple j
def Ei{b a:au}(j:b∉a::d):b∉[a]:=λr=>j<|c_.mp r▸dA
def Ej{b a:au}(j:b∉a::d):b∉d:=λr=>j<|dt _ r
def Ah{b m:au}(j:b∉[m]):b≠m:=λi=>j<|c_.mpr i
def I'(k:b1 C b a f l)(K:bf C b.X b.A b.fuel l)(N:pR a m d f=I i)(R:Rz b.X l.heap t d)(q:∀ae,dU C b l ae->b1 C b a i ae->(∀D F,D∉xq m->bD C l.heap b.env D F->bD C ae.heap b.env D F)->n () ae):aL (aQ C.prog C.w) b.A (hE m b.env t) n j l:=by
 obtain⟨P,T,rfl,ag,rfl⟩:=yW N;clear N;rw[Qc];refine aA<|dT<|CJ K k.loc (k.own P (aY ag).1 (aY ag).2) λae st M L H=>q ae st ⟨k.sc,k.glob,k.blt,k.a_,k.own,k.cells,λD J G=>?_,M⟩ λD F B=>H D F<|Ah B;rw[ey]at G;induction B:D==P using bz with
 |true=>
  rw[B]at G;exact bF B▸⟨t,L,aZ G▸st.n8 K k.loc R⟩
 |false=>
  rw[B]at G;exact(k.names D J G).elim λF O=>⟨F,H D F (by simpa using B) O.1,st.n8 K k.loc O.2⟩
def IU:∀{b:List aq}{g:List af}{f c:cf},hF a b g f=I c->b.length=g.length/\Ht b env=b.map (λi=>(av,hE i env)):=by intro b g f c j;have q:=rj j;clear j;induction q with|nil=>exact⟨rfl,rfl⟩|@cons n s b Z t y k m d l=>exact⟨congrArg (·+1) l.1,congrArg ((av,hE (.Name n s) env)::·) l.2⟩
def IC{a6:List ar}:u2 (k::a9) (m::a6)=(gr a6 (k m)>>=λZ=>u2 a9 a6):=rfl
set_option tactic.hygienic true in
def TA:∀{b:List aq}{m:List af}{aa:List ar}{f i:cf}{l:aB},b1 C j a f l->bf C j.X j.A j.fuel l->hF a b m f=I i->RzL j.X l.heap aa m->(∀ae,dU C j l ae->b1 C j a i ae->(∀G K,G∉(b.filterMap wK)->bD C l.heap j.env G K->bD C ae.heap j.env G K)->ac () ae)->aL (aQ C.prog C.w) j.A (u2 (b.map λN=>hE N j.env) aa) ac al l:=by
 intro b m aa f i l k O M Y q;have H:=rj M;clear M;induction H generalizing aa l with
 |nil=>cases Y;exact a'<|q l (dU.refl l) k λZ Z Z M=>M
 |@cons ah ab b d m f i ag H R=>
  cases Y;rename_i ad L T U;show aL _ _ (u2 (hE (.Name ah ab) j.env::b.map λN=>hE N j.env)<|ad::L) _ _ _;rw[IC];refine aA<|du<|I' k O (yX ag) T λV st B W=>?_;refine R B (O.step st) (dU.rS O k.loc st U) λF t D n=>q F (st.trans t) D λG K J P=>?_;exact n G K (Ej J)<|W G K (Ei J) P
theorem dU.of_keep(k:∀p x,s.heap.get? p=I x->h.get? p=I x)(y:s.toks<=eV):dU C g s {s with heap:=h,toks:=eV}:=.kB<|aw.of_keep k y
def Wl{b:List aq}:(b.map λi=>(av,hE i c)).findIdx? (·.1)=ai:=by rw[List.findIdx?_eq_none_iff];intro m ag;simp at ag;obtain⟨Z,Z,rfl⟩:=ag;rfl
set_option tactic.hygienic true in
def yZ(k:b1 C c p f l)(K:bf C c.X c.A c.fuel l)(D:eR p m d f=I j)(W:Rz c.X l.heap ac d)(q:∀ae,dU C c l ae->b1 C c p j ae->(∀H M,H∉xq m->bD C l.heap c.env H M->bD C ae.heap c.env H M)->t () ae):aL (aQ C.prog C.w) c.A (hE m c.env ac) t al l:=by
 have O:=yY D;clear D;cases O with
 |name ag=>exact I' k K (yX ag) W q
 |tuple D=>
  cases W;rename_i Y aa ab Z B F;have lR:=IU (env:=c.env) D;have N:l.heap.IsTuple Y aa.toArray:=⟨_,B,rfl,ab,rfl⟩;refine wpAny_assign_Tuple K.handled N (by rw[lR.2];simp[lR.1,F.length]) (by rw[lR.2];exact Wl) λi ag=>?_;have kp:∀J L,l.heap.get? J=I L->i.get? J=I L:=λJ L V=>ag J L (f'<|il V) V;have G:aw C l {l with heap:=i}:=aw.of_keep kp;rw[lR.2,dG];exact TA (k.ext G) (K.ext G) D (K.gn G F) λae st T U=>q ae ((dU.kB G).trans st) T λH M R P=>U H M R<|P.ext G
def vx(C:bS)(a:b_)(m:aq)(n:ar)(y:List aF)(g:List af)(l:aB):Prop:=∃St,e2 C a.A a.X (λp=>∃x,l.heap.get? p=I x) m n y g St/\St 0 l.heap
def e1(C:bS)(g:b_)(m i:aq)(k:aB)(a:List af):Prop:=∀l,aw C k l->bf C g.X g.A g.fuel l->∀(h:ar->aB->Prop)(j:ar->aB->Prop),(∀n ae y,aw C l ae->(∀d∈y,l.heap.get? d=ai)->vx C g m n y a ae->h n ae)->aL (aQ C.prog C.w) g.A (cx i g.env) (λf p=>aL (aQ C.prog C.w) g.A (ya f) h j p) j l
def MH{j:cP}{f:aF}(k:¬f<j.objs.size):j.get? f=none:=by induction i:j.get? f using b6 with|none=>rfl|some x=>exact absurd (il i) k
def lb{j:cP}{f:aF}(k:j.objs.size<=f):j.get? f=ai:=MH<|qK.mpr k
def g7(j:cP):j.get? j.objs.size=ai:=MH<|qG _
def aw.old(B:aw C l ae)(q:bf C c k y l)(j:ae.heap.get? f=none):l.heap.get? f=none:=by
 induction i:l.heap.get? f using b6 with
 |none=>rfl
 |some D=>
  by_cases b:C.T f;obtain⟨d,p,w⟩:=q.cI f<|q.a_ f b;obtain⟨r,rfl⟩:=w b;obtain⟨E,aM⟩:=B.tabs f b r p;rw[j]at aM;cases aM;rw[B.keep f D i b]at j;cases j
def RzL.tm{aa g}(l:∀p∈a,j.get? p=ai)(k:∀p x,j.get? p=I x->d.get? p=I x)(w:RzL c j aa g):RzL (fV c (λp=>∃x,d.get? p=I x) a) d aa g:=by refine(w.more (Y:=fV c (λp=>∃x,d.get? p=I x) a) λp x i f=>?_).mono λp x Z i=>k p x i;rcases f with(f|f)|f;exact f;exact absurd ⟨_,k p x i⟩ f;rw[l p f]at i;cases i
def RzL.wide{d:List aF}{aa g}(k:∀p∈d,j.get? p=ai)(w:RzL c j aa g):RzL (λf=>c f\/f∈d) j aa g:=w.more λp x i l=>l.resolve_right λq=>by rw[k p q]at i;cases i
section
variable{c:b_}{a5:aB}{target e:aq}
set_option tactic.hygienic true in
theorem e1.list{ds:List af}(j:bu C c e a5 (.list ds)):e1 C c target e a5 ds:=by intro l m D J I q;refine j l m D _ _ λt p F H=>?_;have i:=D.ext F;cases H;rename_i f aa G w d B;have A:p.heap.IsList f aa.toArray:=⟨_,d,rfl,G,rfl⟩;refine wpAny_pyIter_list A<|q _ _ [p.heap.objs.size] (F.trans aw.push) ?_ ⟨_,e2.list D.handled i.fresh ⟨_,fs _ rfl⟩ w ⟨_,fA _ d⟩ (f'<|il d) B.length,?_⟩;exact dE<|F.old D<|g7 _;refine⟨⟨⟨_,fs _ rfl,rfl,rfl⟩,A.push _⟩,?_⟩;exact RzL.tm (dE<|g7 _) (λK L k=>fA _ k) B
set_option tactic.hygienic true in
theorem e1.tuple(j:bu C c e a5 (.tuple ds)):e1 C c target e a5 ds:=by intro J m D L K q;refine j J m D _ _ λt p F I=>?_;have i:=D.ext F;cases I;rename_i f aa G w d B;have A:p.heap.IsTuple f aa.toArray:=⟨_,d,rfl,G,rfl⟩;refine QF A<|q _ _ [p.heap.objs.size] (F.trans aw.push) ?_ ⟨_,e2.tuple D.handled i.fresh ⟨_,fs _ rfl⟩ w ⟨_,fA _ d⟩ (f'<|il d) B.length,?_⟩;exact dE<|F.old D<|g7 _;refine⟨⟨⟨_,fs _ rfl,rfl,rfl⟩,A.at λH l=>fA _ l⟩,?_⟩;exact RzL.tm (dE<|g7 _) (λM H k=>fA _ k) B
theorem e1.str(j:bu C c e a5 (.str m)):e1 C c target e a5 (q2 m):=by
 intro l b a f d q;refine j l b a _ _ λk p b w=>?_;have i:=a.ext b;cases w with
 |str Z t=>
 refine wpAny_pyIter_strU<|q _ _ [p.heap.objs.size] (b.trans aw.push) ?_ ⟨_,e2.str (t:=t) a.handled i.fresh ⟨_,fs _ rfl⟩,?_⟩;exact dE<|b.old a<|g7 _;exact⟨⟨_,fs _ rfl,rfl,rfl⟩,trivial⟩
def vN(t:eO C k)(n:d.any (·.1)=av)(D:jL C c d a5 a)(G:aw C a5 b)(e:bf C c.X c.A c.fuel b)(q:∀aa ae,aw C b ae->RzL c.X ae.heap aa a->aL (aQ C.prog C.w) c.A (fu k aa []) m j ae):aL (aQ C.prog C.w) c.A (hc i k [] d []) m j b:=by exact vK (first:=[]) n<|zt n D G e λaa p B F=>⟨rfl,t p.heap (e.ext B).ok,q aa p B F⟩
def AF{f p c:Int}(j:lh f p c=ah):PM f p c=ah/\c≠0/\kd f p c<=1000000:=by unfold lh at j;simp only[bY,decide_eq_true_eq]at j;exact⟨j.1.1,j.1.2,j.2⟩
def Nc(f p c:Int):0<=kd f p c:=by unfold kd;split;split;have:0<=(p -f -1)/c:=aeE (OY<|aeN o)<|OX o;exact OV this z;exact fR _;split;have:0<=(f -p -1)/ -c:=aeE (OY<|aeN o)<|Int.neg_nonneg_of_nonpos<|ja.mp o;exact OV this z;exact fR _
def e1.ofRange(e:bf C c.X c.A c.fuel l)(I:aw C l p)(H:IsRange p.heap n f d k x i B)(J:lh f d k=ah) (q:∀D ae F,aw C l ae->(∀d∈F,l.heap.get? d=ai)->vx C c target D F (kH f k (kd f d k).toNat) ae->m D ae):aL (aQ C.prog C.w) c.A (ya<|.ref n) m j p:=by obtain⟨G,K,L⟩:=AF J;refine wpAny_pyIter_range H G<|q _ _ [p.heap.objs.size] (I.trans aw.push) ?_ ⟨_,e2.range e.handled (e.ext I).fresh ⟨_,fs _ rfl⟩,?_⟩;exact dE<|I.old e<|g7 _;have:=Nc f d k;refine⟨?_,trivial⟩;show af' _ _=_;rw[fs _ rfl];simp[og this]
inductive yE:List af->List af->Prop
 |one {b} (h:lh 0 b 1=true):yE [.int b] (kH 0 1 (kd 0 b 1).toNat)
 |two {a b} (h:lh a b 1=true):yE [.int a,.int b] (kH a 1 (kd a b 1).toNat)
 |three {a b c} (h:lh a b c=true) (Lg:nr (b -a) c=false):yE [.int a,.int b,.int c] (kH a c (kd a b c).toNat)
def Na(j:eo d=I g):yE d g:=by
 induction d using bb with
 |nil=>exact nS j
 |cons f d=>
 cases f<;>try exact nS j
 induction d using bb with
 |nil=>have e:=cw j;exact e.2▸.one e.1
 |cons p d=>
 cases p<;>try exact nS j
 induction d using bb with
 |nil=>have e:=cw j;exact e.2▸.two e.1
 |cons c d=>
 cases c<;>try exact nS j
 induction d using bb with|cons=>exact nS j|nil=>have e:=cw j;exact e.2▸.three (aY e.1).1 (jt (aY e.1).2)
set_option tactic.hygienic true in
def e1.range(D:ny C c cL (.type "range"))(n:fv C c b a5 k)(j:eo k=I a) (f:cx (.Call cL b [] i) c.env=(cx cL c.env>>=λt=>hc i t [] (jd i<|hg b c.env)<|ou i<|ox [] c.env)):e1 C c target (.Call cL b [] i) a5 a:=by
 intro H J e L K q;rw[f];refine aA<|D H e _ _<|vN (.typ _) (n i).2 (n i).1 J e λaa p G w=>?_;cases Na j with
 |one d=>
  cases w;rename_i A m;cases m;cases A;exact call_range_1<|e1.ofRange (target:=target) e (G.trans aw.push) (x4 ..) d q
 |two d=>
  cases w;rename_i A m;cases m;rename_i m B;cases B;cases A;cases m;exact call_range_2<|e1.ofRange (target:=target) e (G.trans aw.push) (x4 ..) d q
 |three d l=>
  cases w;rename_i A m;cases m;rename_i m B;cases B;rename_i B F;cases F;cases A;cases m;cases B;exact call_range_3 (AF d).2.1 (e1.ofRange (target:=target) e (G.trans aw.push) (x4 ..) d q)<|.inl l
set_option tactic.hygienic true in
theorem e1.enum{cZ:List aq}(P:ny C c cL (.type "enumerate"))(D:fv C c [f] a5 [.list d]) (B:cx (.Call cL [f] [] i) c.env=(cx cL c.env>>=λad=>hc i ad [] (jd i<|hg [f] c.env)<|ou i<|ox [] c.env)):e1 C c (.Tuple cZ k ac) (.Call cL [f] [] i) a5 (q1 d):=by intro ab ae e ag af q;rw[B];refine aA<|P ab e _ _<|vN (.typ _) (D i).2 (D i).1 ae e λaa p M Z=>?_;cases Z;rename_i S m;cases m;cases S;rename_i W aa Y w A K;have I:p.heap.IsList W aa.toArray:=⟨_,A,rfl,Y,rfl⟩;have G:=e.ext M;have J:∀f,p.heap.objs.size<=f->¬c.X f:=λf D R=>(G.cI _ R).elim λL j=>qK.mpr D<|il j.1;have t:=il A;refine call_enumerate_list I λV H F T kp=>agX H ?_;refine q _ _ [p.heap.objs.size+1,p.heap.objs.size] (M.trans<|aw.of_keep kp) ?_ ⟨_,e2.enum e.handled (J _<|cv _ _) (J _<|cz _) w ⟨_,H⟩ (F.imp λL=>jA) ⟨_,kp _ _ A⟩ (ih<|fS _) (f'<|xS t) (f' t) K.length,?_⟩;exact k_ (M.old e<|lb<|cv _ _)<|M.old e<|g7 _;refine⟨⟨⟨_,H⟩,F,I.at λL O=>kp _ _ O⟩,?_⟩;exact RzL.tm (k_ (lb<|cv _ _)<|g7 _) (λU L N=>kp U L N) K
set_option tactic.hygienic true in
theorem e1.rev(J:ny C c cL (.type "reversed"))(I:fv C c [f] a5 [.list d]) (D:cx (.Call cL [f] [] i) c.env=(cx cL c.env>>=λP=>hc i P [] (jd i<|hg [f] c.env)<|ou i<|ox [] c.env)):e1 C c target (.Call cL [f] [] i) a5 d.reverse:=by
 intro O R e h j q;rw[D];refine aA<|J O e _ _<|vN (.typ _) (I i).2 (I i).1 R e λaa p L N=>?_;cases N;rename_i K m;cases m;cases K;rename_i l aa M w A G;have H:p.heap.IsList l aa.toArray:=⟨_,A,rfl,M,rfl⟩;have F:=e.ext L;have t:=il A;have B:(p.heap.push<|revObj l<|(aa.toArray.size:Int) -1).IsRevIter p.heap.objs.size l ((aa.toArray.size:Int) -1):=⟨_,fs _ rfl,rfl,rfl⟩;refine call_reversed_list H<|wpAny_pyIter_revIter B ?_;refine q _ _ [p.heap.objs.size] (L.trans aw.push) ?_ ⟨_,e2.rev (aa:=aa) e.handled F.fresh ⟨_,fs _ rfl⟩ w ⟨_,fA _ A⟩ (f' t) G.length,?_⟩;exact dE<|L.old e<|g7 _;refine⟨⟨cO _,?_,H.push _⟩,?_⟩;have:(aa.toArray.size:Int) -1=(d.length:Int) -1 -((0:Nat):Int):=by simp[G.length]
 rw[this]at B ⊢;exact B;exact RzL.tm (dE<|g7 _) (λS T k=>fA _ k) G
set_option tactic.hygienic true in
theorem e1.zip{cZ:List aq}(Z:ny C c cL (.type "zip"))(F:fv C c [f,d] a5 [.list j,.list l]) (B:cx (.Call cL [f,d] [] i) c.env=(cx cL c.env>>=λao=>hc i ao [] (jd i<|hg [f,d] c.env)<|ou i<|ox [] c.env)):e1 C c (.Tuple cZ k an) (.Call cL [f,d] [] i) a5 (oy j l):=by intro am ar O au as q;rw[B];refine aA<|Z am O _ _<|vN (.typ _) (F i).2 (F i).1 ar O λaa p af al=>?_;cases al;rename_i ad m;cases m;rename_i m ae;cases ae;cases ad;rename_i S aa ak w A U;cases m;rename_i T us ac R e I;have P:p.heap.IsList S aa.toArray:=⟨_,A,rfl,ak,rfl⟩;have G:p.heap.IsList T us.toArray:=⟨_,e,rfl,ac,rfl⟩;have L:=O.ext af;have D:∀f,p.heap.objs.size<=f->¬c.X f:=λf F ab=>(L.cI _ ab).elim λH ah=>qK.mpr F<|il ah.1;have t:=il A;have M:=il e;have W:ZipApart (p.heap.objs.size+4) (p.heap.objs.size+2) (p.heap.objs.size+3) p.heap.objs.size (p.heap.objs.size+1) S T:=ktu_apart _ _ _ t M;refine call_zip_2 P G λaj uB xC xD Bc V ag kp=>agY uB ?_;have N:∀d∈[p.heap.objs.size+4,p.heap.objs.size+3,p.heap.objs.size,p.heap.objs.size+1],p.heap.get? d=ai:=tO (lb<|cv _ _) (lb<|cv _ _) (lb<|cz _)<|lb<|cv _ _;refine q _ _ [p.heap.objs.size+4,p.heap.objs.size+3,p.heap.objs.size,p.heap.objs.size+1] (af.trans<|aw.of_keep kp) (λd Y=>af.old O<|N d Y) ⟨_,e2.zip (aa:=aa) (us:=us) O.handled W (D _<|cv _ _) (D _<|cv _ _) (D _<|cv _ _) (D _<|cz _) (D _<|cv _ _) w R ⟨_,uB⟩ ⟨_,xC⟩ ⟨_,xD⟩ (Bc.imp λH=>jA) (V.imp λH=>jA) ⟨_,kp _ _ A⟩ ⟨_,kp _ _ e⟩ U.length I.length,?_⟩;exact⟨⟨uB,xC,⟨_,_,xD⟩,Bc,V,P.at λH K=>kp _ _ K,G.at λH K=>kp _ _ K⟩,RzL.tm N (λd H J=>kp d H J) U,RzL.tm N (λd H J=>kp d H J) I⟩
end
def nH(C:bS)(g:b_)(q:List aq)(a:aB)(k:Bool):Prop:=
 ∀l,aw C a l->bf C g.X g.A g.fuel l->∀(h:Bool->aB->Prop)(j:ar->aB->Prop),(∀ae,aw C l ae->h k ae)->
  aL (aQ C.prog C.w) g.A (jB q ah λi d=>if d=ah then do let b<-isTrue i g.env (cx i g.env);bq (hW b)else bq (hW d)) h j l
theorem Oc:∀{a:List aq}{l:aB}{h:Bool->aB->Prop}{j:ar->aB->Prop},h av l->
  aL x k (jB a av λe w=>if w=ah then do let g<-isTrue e c (cx e c);bq (hW g)else bq (hW w)) h j l
 |[]=>λq=>a' q
 |e::b=>λq=>by
  rw[sj]
  exact aA<|a'<|Oc q
def nH.nil:nH C a [] k ah:=λl m e h j q=>a'<|q l<|aw.refl l
def nH.cons{f:b_}{a:aB}{i:aq}{b:List aq}{k l7:Bool}(j:gu C f i a k)(n:k=true->nH C f b a l7):nH C f (i::b) a (k&&l7):=by intro l m r w t q;rw[sj];refine aA ?_;rw[if_pos rfl];refine aA<|j l m r _ _ λp d=>a' ?_;induction k using bz with|false=>exact Oc (q p d)|true=>exact n rfl p (m.trans d) (r.ext d) _ _ λae ab=>by simpa using q ae<|d.trans ab
def JJ(q:a[k]?=I ⟨m,g,B,0⟩)
  (h0:fU (aQ C.prog C.w) y (.compLoop (.ListComp p a l i) k n b c) e r)
  (j:∀D,aL (aQ C.prog C.w) y (ya n) (λd ae=>fU (aQ C.prog C.w) y (.compLoop (.ListComp p a l i) k d b c) e ae) D r):
  fU (aQ C.prog C.w) y (.compStart (.ListComp p a l i) k n b c) e r:=by
 refine Hu ?_
 show aL _ _ ((compStart (.ListComp p a l i) k n b c).onRaise (λt=>do HE t c;gs theWindowsPlace)) _ _ r
 refine wpAny_notedAt ?_
 unfold compStart
 rw[show clausesOf (.ListComp p a l i)=a from rfl,q]
 show aL _ _ (ask>>=_) _ _ r
 refine aA<|QB<|yf ?_
 split
 first
  |exact aA<|a'<|a'<|Gv rfl h0
  |exact a'<|Gv rfl h0
 first
  |exact aA<|va<|aA<|dT<|aA<|fh (j _) (λd ae f=>a'<|Gv rfl f) λZ Z t=>t
  |(refine aA<|va ?_;show aL _ _ (gs g.pos>>=_) _ _ r;exact aA<|dT<|aA<|fh (j _) (λd ae f=>a'<|Gv rfl f) λZ Z t=>t)
def Js(C:bS)(p:aq)(a:List mA)(l:gW)(i:a8)(k:Nat)(n h:ar)(c:kQ)(s:ef)(e:oq->aB->Prop)(j:ar->aB->Prop)(q:aB):Option mA->Prop
 |some b=>b.is_async=0/\(∀m,Qj b.iter c m=bq m)/\aL (aQ C.prog C.w) s (cx b.iter c) (λm oa=>aL (aQ C.prog C.w) s (ya m) (λd t=>
   fU (aQ C.prog C.w) s (.compStart (.ListComp p a l i) (k+1) d h c) (λB g=>∃y,B=.ok y/\fU (aQ C.prog C.w) s (.compLoop (.ListComp p a l i) k n h c) e g) t) j oa) j q
 |none=>aL (aQ C.prog C.w) s (cx p c) (λm oa=>aL (aQ C.prog C.w) s (fu (.builtin "list.append") [h,m]) (λZ t=>fU (aQ C.prog C.w) s (.compLoop (.ListComp p a l i) k n h c) e t) j oa) j q
def T3(C:bS)(b:aq)(a:List mA)(l:gW)(i:a8)(k:Nat)(n h:ar)(c:kQ)(d:ef)(x:oq->aB->Prop)(j:ar->aB->Prop)(m:aq)(s:List aq)(p:aB):Option ar->Prop
 |none=>x (.ok .next) p
 |some t=>aL (aQ C.prog C.w) d (u6 m n t) (λZ q=>aL (aQ C.prog C.w) d (hE m c t) (λZ eH=>
   aL (aQ C.prog C.w) d (jB s ah λy B=>if B=ah then do let g<-isTrue y c (cx y c);bq (hW g)else bq (hW B)) (λg f=>
    cond g (Js C b a l i k n h c d x j f a[k+1]?) (fU (aQ C.prog C.w) d (.compLoop (.ListComp b a l i) k n h c) x f)) j eH) j q) j p
def CT(Q:a[k]?=some ⟨m,g,b,0⟩)
  (N:∀V,aL (aQ C.prog C.w) d (sO n) (λO I=>T3 C p a l i k n h c d e V m b I O) V j):
  fU (aQ C.prog C.w) d (.compLoop (.ListComp p a l i) k n h c) e j:=by
 refine Hu ?_
 show aL _ _ ((compTurn (.ListComp p a l i) k n h c).onRaise (λB=>do HE B c;Qx B)) _ _ j
 refine QD ?_
 unfold compTurn
 dsimp only
 rw[Q]
 refine aA<|dT<|aA<|fh (N _) (λO I H=>?_) λZ Z B=>B
 induction O using b6 with
 |none=>exact a' H
 |some ae=>
  refine aA<|fh H (λZ q K=>aA<|fh K (λZ eH L=>aA<|fh L (λT M y=>?_) λZ Z B=>B) λZ Z B=>B) λZ Z B=>B;induction T using bz with
  |false=>exact a' ⟨rfl,y⟩
  |true=>
   replace y:Js C p a l i k n h c d e _ M a[k+1]?:=y;generalize a[k+1]?=aa at y ⊢;induction aa using b6 with
   |none=>exact aA<|aA<|fh y (λB oa D=>aA<|fh D (λZ t F=>a'<|a' ⟨rfl,F⟩) λZ Z B=>B) λZ Z B=>B
   |some P=>
    obtain⟨ac,Y,X,ab⟩:=P;obtain⟨J,S,y⟩:=y;replace J:ab=0:=J;subst J;refine aA<|fh y (λB oa D=>aA<|dT<|aA ?_) λZ Z B=>B;refine QE (S B)<|aA<|du<|fh D (λW t F=>aA ?_) λZ Z B=>B;refine wpAny_onRaise<|wpAny_run<|codeAny_mono F λO U G=>?_;obtain⟨ad,rfl,G⟩:=G;exact a' ⟨rfl,G⟩
noncomputable def b_.grow(c:b_)(W:List aF):b_:={c with X:=λf=>c.X f\/f∈W}
structure dB(C:bS)(W:List Addr)(s ae:Shared):Prop where
 same:∃h eV,ae={s with heap:=h,toks:=eV}
 keep:∀b a4,s.heap.get? b=some a4->¬C.T b->b∉W->ae.heap.get? b=some a4
 tabs:∀b,C.T b->∀bV,s.heap.get? b=some (tableObj bV)->∃more,ae.heap.get? b=some (tableObj<|bV++more)
 ok:C.fb s.heap->C.fb ae.heap
 toks:s.toks<=ae.toks
def dB.of{d:List aF}{l:aB}{j:cP}{m:Nat}(w:∀f∈d,¬C.T f)(ax:∀f∈d,¬C.P f)(A:∀f∈d,∀x,l.heap.get? f=I x->¬fO x)(k:∀p x,p∉d->l.heap.get? p=I x->j.get? p=I x)(B:l.toks<=m:=by first|exact cz _|exact pB _|assumption|exact cv _ 2|exact cv _ 3):dB C d l {l with heap:=j,toks:=m}:=by refine⟨⟨_,_,rfl⟩,λp x i Z E=>k p x E i,λp D r i=>⟨#[],?_⟩,λg=>C.m9 _ _ g λp x c i=>k p x (λq=>c.elim (w p q) λab=>ab.elim (ax p q)<|A p q x i) i,B⟩;simpa using k p _ (λq=>w p q D) i
structure dd(C:bS)(c:b_)(W:List Addr)(s ae:Shared):Prop where
 same:∃h eV,ae={s with heap:=h,toks:=eV}
 keep:∀b a4,s.heap.get? b=some a4->¬C.T b->¬c.Y b->b∉W->ae.heap.get? b=some a4
 tabs:∀b,C.T b->∀bV,s.heap.get? b=some (tableObj bV)->∃more,ae.heap.get? b=some (tableObj<|bV++more)
 ok:C.fb s.heap->C.fb ae.heap
 all:∀b a4,s.heap.get? b=some a4->¬C.T b->b∉W->∃Ek,ae.heap.get? b=some Ek
 toks:s.toks<=ae.toks
def dB.bt(j:dB C y l ae)(k:∀f∈y,f∈gZ):dd C c gZ l ae:=⟨j.same,λp x i d Z n=>j.keep p x i d λq=>n<|k p q,j.tabs,j.ok,λp x i d n=>⟨x,j.keep p x i d λq=>n<|k p q⟩,j.toks⟩
def dU.bt(j:dU C c l ae):dd C c a l ae:=⟨j.same,λp x i k d Z=>j.keep p x i k d,j.tabs,j.ok,λp x i k Z=>j.all p x i k,j.toks⟩
theorem aw.bt(j:aw C l ae):dd C c y l ae:=(dU.kB j).bt
def dd.trans(f:dd C g d l ae)(p:dd C g d ae dj):dd C g d l dj:=by refine⟨?_,λA B i k G n=>p.keep A B (f.keep A B i k G n) k G n,λA k r i=>?_,λj=>p.ok<|f.ok j,λA B i k n=>?_,ao f.toks p.toks⟩;obtain⟨j,J,rfl⟩:=f.same;obtain⟨H,q,rfl⟩:=p.same;exact⟨_,_,rfl⟩;obtain⟨I,i⟩:=f.tabs A k r i;obtain⟨E,i⟩:=p.tabs A k _ i;exact⟨I++E,by rw[i,uE]⟩;obtain⟨F,D⟩:=f.all A B i k n;exact p.all A F D k n
def dd.cut(m:dd C g f l ae)(j:∀p,g.Y p->d.Y p)(h:∀p∈f,p∈gZ\/l.heap.get? p=ai):dd C d gZ l ae:=by refine⟨m.same,λp x i k r n=>m.keep p x i k (λq=>r<|j p q) λq=>?_,m.tabs,m.ok,λp x i k n=>m.all p x i k λq=>?_,m.toks⟩;rcases h p q with ab|ab;exact n ab;rw[ab]at i;cases i;rcases h p q with ab|ab;exact n ab;rw[ab]at i;cases i
def bf.bt(h:bf C b c.A c.fuel l)(B:dd C c y l ae)(D:∀f∈y,b f->¬C.T f/\∃E,ae.heap.get? f=I E):bf C b c.A c.fuel ae:=⟨h.handled,h.depth,h.units,h.guards,λf n=>by
  obtain⟨E,i,k⟩:=h.cI f n;by_cases w:C.T f;obtain⟨r,rfl⟩:=k w;obtain⟨F,i⟩:=B.tabs f w r i;exact⟨_,i,λZ=>⟨_,rfl⟩⟩;by_cases j:f∈y;obtain⟨Z,d,p⟩:=D f j n;exact⟨d,p,λq=>absurd q w⟩;obtain⟨d,p⟩:=B.all f E i w j;exact⟨d,p,λq=>absurd q w⟩,h.a_,B.ok h.ok,λi=>h.tok<|G1.mp<|i▸B.toks⟩
structure iu(C:bS)(c:b_)(W:List Addr):Prop where
 loc:c.env.locals∉W
 cell:∀n a,c.env.cells.lookup n=some a->a∉W
 cI:∀a∈W,c.X a
def h2.g_(p:h2 C c d)(D:iu C c b)(E:dB C b d ae):h2 C c ae:=by refine⟨p.kind,?_,λA f i=>?_,p.apart,p.e_,p.cE,p.hV,p.jz,p.dC,λL J i=>?_⟩;obtain⟨r,A⟩:=p.ns;exact⟨r,mc A λq i=>E.keep _ q i (p.hV _ p.e_) D.loc⟩;obtain⟨K,j⟩:=p.cell A f i;exact⟨K,pV j λq g=>E.keep _ q g (p.dC A f i).1<|D.cell A f i⟩;obtain⟨f,F,G,I⟩:=p.pin L J i;refine⟨f,F,G,?_⟩;rcases I with⟨k,B,r,H,i⟩|⟨k,ad,p,B,w⟩;exact .inl ⟨k,B,r,mc H λq i=>E.keep _ q i B D.loc,i⟩;exact .inr ⟨k,ad,p,B,pV w λq g=>E.keep _ q g B<|D.cell _ _ p⟩
def lN.g_(L:lN C c f g d)(j:∀D,C.T D->c.X D)(J:iu C c y)(st:dB C y f ae):lN C c ae g d:=by obtain⟨O,⟨D,E,F,I⟩,N⟩:=L;refine⟨O,⟨D,E,F,?_⟩,N.mono λp n B i=>st.keep p n i (λA=>B<|j p A) λq=>B<|J.cI p q⟩;rcases I with⟨k,A,M,H,i⟩|⟨k,ad,K,A,w⟩;exact .inl ⟨k,A,M,mc H λn i=>st.keep _ n i A J.loc,i⟩;exact .inr ⟨k,ad,K,A,pV w λn G=>st.keep _ n G A<|J.cell _ _ K⟩
theorem b1.g_(k:b1 C c a f l)(x:iu C c b)(st:dB C b l ae):b1 C c a f ae:=⟨k.sc,k.glob,k.blt,k.a_,k.own,k.cells,λg d i=>(k.names g d i).g_ k.a_ x st,k.loc.g_ x st⟩
def bf.only{b:b_}(e:bf C b.X b.A b.fuel l)(m:dB C y l ae)(t:∀f∈y,¬C.T f/\∃d,ae.heap.get? f=I d):bf C b.X b.A b.fuel ae:=e.bt (c:=b) (m.bt λZ q=>q) λf q Z=>t f q
def b1.sub(k:b1 C g a b l)(j:∀m d,f.lookup m=I d->b.lookup m=I d):b1 C g a f l:=⟨k.sc,k.glob,k.blt,k.a_,k.own,k.cells,λm d i=>k.names m d<|j m d i,k.loc⟩
theorem b1.grow(k:b1 C c i h g)(j:∀p∈W,g.heap.get? p=ai)(m:aw C g ae)(L:∀f,C.T f->∃E,g.heap.get? f=I E):b1 C (c.grow W) i h ae:=by
 have A:=k.loc.ext m;refine⟨k.sc,k.glob,k.blt,λf J=>.inl<|k.a_ f J,k.own,k.cells,λD d B=>?_,?_⟩;obtain⟨K,f,w⟩:=k.names D d B;refine⟨K,f.ext m,?_⟩;have H:Rz (λf=>c.X f\/f∈W) g.heap K d:=w.more λp E B D=>D.resolve_right λq=>by rw[j p q]at B;cases B
 exact H.mono λp E F B=>m.keep p E B λJ=>F<|.inl<|k.a_ p J;exact⟨A.kind,A.ns,A.cell,A.apart,A.e_,λf D=>.inl<|A.cE f D,A.hV,A.jz,λG f B=>⟨(A.dC G f B).1,(A.dC G f B).2.1,.inl (A.dC G f B).2.2⟩,A.pin⟩
def b1.shrink(k:b1 C (g.grow j) h f i)(E:∀m,C.T m->g.X m)(F:∀m,g.Y m->g.X m)(D:∀B m,g.env.cells.lookup B=I m->g.X m):b1 C g h f i:=by refine⟨k.sc,k.glob,k.blt,E,k.own,k.cells,λG d A=>?_,?_⟩;obtain⟨t,m,w⟩:=k.names G d A;exact⟨t,m,w.less λp q=>.inl q⟩;have x:=k.loc;exact⟨x.kind,x.ns,x.cell,x.apart,x.e_,F,x.hV,x.jz,λB m A=>⟨(x.dC B m A).1,(x.dC B m A).2.1,D B m A⟩,x.pin⟩
structure eX(C:bS)(c:b_)(vb:Addr)(r8:List af)(s:Shared):Prop where
 e4:¬C.T vb
 mZ:¬C.P vb
 off:iu C c [vb]
 wM:¬c.Y vb
 at':∃aa n,s.heap.get? vb=some ⟨.type "list",none,.seq ⟨aa⟩ n,#[]⟩/\RzL c.X s.heap aa r8
def eX.of_keep(f:eX C g d m s)(k:∀p x,s.heap.get? p=I x->(p=d\/¬g.X p)->ae.heap.get? p=I x):eX C g d m ae:=by obtain⟨aa,y,i,w⟩:=f.at';exact⟨f.e4,f.mZ,f.off,f.wM,aa,y,k _ _ i<|.inl rfl,w.mono λp x q i=>k p x i<|.inr q⟩
def eX.step(f:eX C g d m l)(j:∀f,C.T f->g.X f)(i:∀f,g.Y f->g.X f)(st:dU C g l ae):eX C g d m ae:=f.of_keep λp x w n=>st.keep p x w (λk=>n.elim (λq=>f.e4<|q▸k) λq=>q<|j p k) λr=>n.elim (λq=>f.wM<|q▸r) λq=>q<|i p r
def eX.ext(f:eX C g d m l)(j:∀f,C.T f->g.X f)(st:aw C l ae):eX C g d m ae:=f.of_keep λp x i n=>st.keep p x i λk=>n.elim (λq=>f.e4<|q▸k) λq=>q<|j p k
def eX.g_(f:eX C c d m l)(j:∀f,C.T f->c.X f)(g:d∉y)(x:iu C c y)(st:dB C y l ae):eX C c d m ae:=f.of_keep λp n i r=>st.keep p n i (λk=>r.elim (λq=>f.e4<|q▸k) λq=>q<|j p k) λq=>r.elim (λab=>g<|ab▸q) λab=>ab<|x.cI p q
theorem eX.grow(f:eX C c d m l)(g:∀f,C.T f->c.X f)(j:∀p∈W,l.heap.get? p=ai)(h:aw C l ae):eX C (c.grow W) d m ae:=by obtain⟨aa,y,i,w⟩:=f.at';refine⟨f.e4,f.mZ,⟨f.off.loc,f.off.cell,λp q=>.inl<|f.off.cI p q⟩,f.wM,aa,y,h.keep _ _ i f.e4,?_⟩;exact(w.wide j).mono λp A q i=>h.keep p A i λk=>q<|.inl<|g p k
def eX.shrink(f:eX C (g.grow y) d m l)(j:g.X d):eX C g d m l:=by obtain⟨aa,t,i,w⟩:=f.at';exact⟨f.e4,f.mZ,⟨f.off.loc,f.off.cell,λp k=>by replace k:=c_.mp k;exact k▸j⟩,f.wM,aa,t,i,w.less λp q=>.inl q⟩
def vE(D:eX C c g m l)(O:Rz c.X l.heap t d)(N:m.length<=1000000)(q:∀ae,dB C [g] l ae->eX C c g (m++[d]) ae->h .none ae):aL (aQ C.prog C.w) c.A (fu (.builtin "list.append") [.ref g,t]) h j l:=by
 obtain⟨aa,y,i,K⟩:=D.at';have J:(⟨aa⟩:Array ar).size<=u9:=by have:=K.length;show aa.length<=_;rw[hT];exact ao (bQ o)<|ao o z
 refine u4 He ⟨_,i,rfl⟩ PySem.F.entry_list_append (PySem.F.args_list_append_2 _ _) (AutoListH.list_append_list_val_0 g ⟨aa⟩ y t J) ⟨i,?_⟩;have L:=PW (ft λf=>f.push t) i rfl;have M:x3 g l.heap (l.heap.update g<|ft λf=>f.push t):=Hg ..;have kp:∀p x,p∉[g]->l.heap.get? p=I x->(l.heap.update g<|ft λf=>f.push t).get? p=I x:=λp x B k=>(M.2 p<|by simpa using B).trans k;have G:∀p x,¬c.X p->l.heap.get? p=I x->(l.heap.update g<|ft λf=>f.push t).get? p=I x:=λp x B k=>kp p x (λab=>B<|D.off.cI p ab) k;show h .none _;obtain⟨H,aM⟩:∃H,(l.heap.update g<|ft λf=>f.push t).get? g=I ⟨.type "list",ai,.seq ⟨aa++[t]⟩ H,#[]⟩:=by rw[L];simp only[ft,ae9];exact⟨_,rfl⟩
 refine q _ (dB.of (dE D.e4) (dE D.mZ) (dE<|Af i MD) kp) ⟨D.e4,D.mZ,D.off,D.wM,aa++[t],H,aM,?_⟩;exact(K.mono λp x B k=>G p x B k).append<|.cons (O.mono λp x B k=>G p x B k) .nil
def cB(C:bS)(m:au)(t:ar):Prop:=∀j,C.fb j->∃n,j.Ns C.G n/\(n m=I t\/(n m=ai/\∃i,j.Ns C.B i/\i m=I t))
noncomputable def rX:af->Bool
 |.list _|.tuple _|.str _|.dict _=>ah
 |_=>av
def Ci(C:bS)(g q i B d:af):Prop:=∀(c:aF->Prop)(k:ef)(y:Nat)(b:aB)(e x m p:ar)(r:aF),bf C c k y b->Rz c b.heap e g->b.heap.get? r=I {cls:=.type "slice",data:=.fields #[x,m,p]}->Rz c b.heap x q->Rz c b.heap m i->Rz c b.heap p B->∀(f:ar->aB->Prop)(j:ar->aB->Prop),(∀e ae,aw C b ae->Rz c ae.heap e d->f e ae)->aL (aQ C.prog C.w) k (qR e<|.ref r) f j b
def mE(C:bS)(e:af)(r:au)(g:List af)(q:Nat)(d:af):Prop:=∃i:List af,∀(c:aF->Prop)(k:ef)(y:Nat)(l:aB)(t:ar)(aW:cA Bool),bf C c k y l->Rz c l.heap t e->∀(h:ar×List ar->aB->Prop)(j:ar->aB->Prop),(∀b first ae,aw C l ae->eO C b->RzL c ae.heap first i->eg C b (i++g) q d->h (b,first) ae)->aL (aQ C.prog C.w) k (getMethod t r aW) h j l
def q7(C:bS)(y:ar)(p g:List af)(q:Nat)(d:af):Prop:=∀(c:aF->Prop)(k:ef)(b:aB)(e:aF)(aa a:List ar)(r:Nat),bf C c k q b->b.heap.get? e=I ⟨.type "list",ai,.seq ⟨aa⟩ r,#[]⟩->¬c e->¬C.P e->RzL c b.heap aa p->RzL c b.heap a g->∀(h:ar->aB->Prop)(j:ar->aB->Prop),(∀t ae,dB C [e] b ae->Rz c ae.heap t d->h t ae)->aL (aQ C.prog C.w) k (fu y (.ref e::a) []) h j b
def RN(C:bS)(q:cY):Prop:=∀f p g,q.bin .Add f p=I (.list g)->∀(c:aF->Prop)(k:ef)(y:Nat)(d:aB)(t i:ar),bf C c k y d->Rz c d.heap t f->Rz c d.heap i p->∀(h:ar->aB->Prop)(j:ar->aB->Prop),(∀e ae aa r,aw C d ae->d.heap.get? e=ai->ae.heap.get? e=I ⟨.type "list",ai,.seq ⟨aa⟩ r,#[]⟩->RzL c ae.heap aa g->h (.ref e) ae)->aL (aQ C.prog C.w) k (eW .Add t i) h j d
def RO(C:bS)(b:cY):Prop:=∀a m d,b.h9 a m=I d->∃t,cB C a t/\∀(c:aF->Prop)(k:ef)(y:Nat)(l:aB),bf C c k y l->∀(h:ar->aB->Prop)(j:ar->aB->Prop),(∀i ae,aw C l ae->Rz c ae.heap i d->h i ae)->aL (aQ C.prog C.w) k (x9 t m ah) h j l
structure dv(C:bS)(O:cY)(N:Nat):Prop where
 bin:∀op a b d,O.bin op a b=some d->dJ C (binaryOp op) a b d
 un:∀op a d,O.un op a=some d->pN C (unaryOp op) a d
 cmp:∀op a b k,O.cmp op a b=some k->hZ C op a b k
 truth:∀a k,O.truth a=some k->vw C a k
 item:∀a b d,O.item a b=some d->rX a=true/\dJ C getItem a b d
 slice:∀a l h t d,O.slice a l h t=some d->rX a=true/\Ci C a l h t d
 attr:∀a x d,O.attr a x=some d->pN C (λv=>getAttr v x true) a d
 e':∀a m ds d,O.e' a m ds=some d->mE C a m ds N d
 call:∀f ds d,O.call f ds=some d->∃v,cB C f v/\eO C v/\eg C v ds N d
 const:∀x d,O.const x=some d->∃v,cB C x v/\∀X h,Rz X h v d
 aug:∀op a b d,O.aug op a b=some d->dJ C (inplaceOp op) a b d
 cat:RN C O
 move:∀f gj ds d,O.move f gj ds=some d->∃v,cB C f v/\eO C v/\q7 C v gj ds N d
 h9:RO C O
 range:cB C "range" (.type "range")
 enum:cB C "enumerate" (.type "enumerate")
 zip:cB C "zip" (.type "zip")
 rev:cB C "reversed" (.type "reversed")
 list:cB C "list" (.type "list")
def Xd(k:b1 C e d f l)(j:d.global m=ah)(B:cB C m t):HT C e.env m t:=by unfold a0.global at j;simp only[bY,beq_iff_eq,ew]at j;refine⟨by rw[k.sc];exact j.1.1,by unfold PQ;rw[k.sc];exact j.1.2,j.2,λax y=>?_⟩;obtain⟨n,r,w⟩:=B ax y;exact⟨n,k.glob▸r,w.imp id λq=>⟨q.1,by obtain⟨i,A,p⟩:=q.2;exact⟨i,k.blt▸A,p⟩⟩⟩
def It(C:bS)(U:cY)(q K:Nat):Prop:=∀(L:a0)(f:cf)(p m:aq)(r:List aq)(F:List mA)(E x:List af)(g:b_)(D:aB)(e:aF->Prop)(d:aF)(B:List af)(k:Nat)(j:List mA)(t:aq)(l:gW)(H:a8)(G:ar)(y:List aF)(h:List af)(St:Nat->cP->Prop)(M:Nat),pK U K L f p m r F E=I x->q<=g.fuel->j.drop k=⟨m,t,r,0⟩::F->h.drop M=E->M<=h.length->nI C g.A e m G y h St->St M D.heap->g.X=(λJ=>e J\/J∈y)->(∀J,C.T J->e J)->(∀J,g.Y J->e J)->(∀K J,g.env.cells.lookup K=I J->e J)->e d->(∀V∈y,¬C.P V)->bf C g.X g.A g.fuel D->b1 C g L f D->eX C g d B D->B.length+x.length<=1000000->∀(Q:oq->aB->Prop),(∀ae,dd C g (d::y) D ae->b1 C g L f ae->eX C g d (B++x) ae->Q (.ok .next) ae)->fU (aQ C.prog C.w) g.A (.compLoop (.ListComp p j l H) k G (.ref d) g.env) Q D
def RY(C:bS)(h:cY)(q:Nat)(y:Nat):Prop:=∀a f i d g k,b1 C g a f k->q<=g.fuel->v5 h y a f i=I d->mL C g (BX<|BS i g.env) k d
def RZ(C:bS)(h:cY)(q:Nat)(y:Nat):Prop:=∀a f b g d k,b1 C d a f k->q<=d.fuel->fj h y a f b=I g->fv C d b k g
def RX(C:bS)(h:cY)(q:Nat)(y:Nat):Prop:=∀a f g b k e d,b1 C e a f d->q<=e.fuel->oG h y a f g b=I k->hY C e g b d k
def R2(C:bS)(h:cY)(q:Nat)(y:Nat):Prop:=∀a f b k g d,b1 C g a f d->q<=g.fuel->oG h y a f .And b=I k->nH C g b d k
def R1(C:bS)(h:cY)(q:Nat)(y:Nat):Prop:=∀a f m i g b k,b1 C b a f k->q<=b.fuel->er h y a f m i=I g->e1 C b m i k g
def R0(h:cY)(y:Nat):Prop:=∀a f m i g,er h y a f m i=I g->∀c b,Qj i c b=bq b
structure hH(C:bS)(O:cY)(N n:Nat):Prop where
 dN:∀S aK e d c a5,b1 C c S aK a5->N<=c.fuel->bh O n S aK e=some d->bu C c e a5 d
 Dt:RY C O N n
 jS:RZ C O N n
 lZ:∀S aK e k c a5,b1 C c S aK a5->N<=c.fuel->fB O n S aK e=some k->gu C c e a5 k
 Ds:RX C O N n
 K0:R2 C O N n
 zy:R1 C O N n
 zv:R0 O n
 Dz:It C O N n
def acu(I:cY)(H:Nat):hH C I H 0:=by refine⟨?_,?_,?_,?_,?_,?_,?_,?_,?_⟩;intro a f A d g r k w j;cases j;intro a f A d g r k w j;cases j;intro a f A d g r k w j;cases j;intro a f A d g r k w j;cases j;intro a f L A d g r k w j;cases j;intro a f A d g r k w j;cases j;intro a f M A d g r k w j;cases j;intro a f M A d j;cases j;intro a f p m q K J x g R B G P k D E l F n y b St Q j;cases j
variable{O:cY}{N n:Nat}
def r1(j:eM i=av):hg (i::b) c=(av,cx i c)::hg b c:=by cases i<;>first|rfl|exact tF j
def aco(A:dv C O N)(j:hH C O N n):∀a f b g p l,b1 C p a f l->N<=p.fuel->fj O (n+1) a f b=I g->fv C p b l g:=by
 intro a f b g p l k t i;induction b using bb with
 |nil=>exact aZ i▸fv.nil
 |cons m a6=>
  replace i:(if eM m=ah then ai else(bh O n a f m).bind λd=>(fj O n a f a6).bind λw=>I<|d::w)=I g:=i;split at i;exact nS i;rename_i y;exact bK i λd q i=>bK i λw s i=>aZ i▸fv.cons (j.dN _ _ _ _ _ _ k t q) (j.jS _ _ _ _ _ _ k t s) (r1<|(r' _).mp y)
def acn(j:hH C O N n):∀r f i d p b,b1 C p r f b->N<=p.fuel->v5 O (n+1) r f i=some d->mL C p (BX<|BS i p.env) b d:=by
 intro r f i d p b k t a;induction i using b6 with
 |none=>
  exact aZ a▸λl m A y w q=>a'<|q _ _ (aw.refl l) .none
 |some i=>exact j.dN _ _ _ _ _ _ k t a
def ack(j:hH C O N n):∀a f g r k A d,b1 C A a f d->N<=A.fuel->oG O (n+1) a f g r=I k->hY C A g r d k:=by
 intro a f g r k A d y t i;induction r using bb with
 |nil=>cases g<;>first|exact aZ i▸hY.and_nil|exact aZ i▸hY.or_nil
 |cons m a6=>
  cases g;refine bK i λw s l=>?_;have p:=j.lZ _ _ _ _ _ _ y t s;induction w using bz with|false=>exact aZ l▸hY.and_cons (l7:=true) p (λq=>nomatch q)|true=>exact hY.and_cons p λZ=>j.Ds _ _ _ _ _ _ _ y t l
  refine bK i λw s l=>?_;have p:=j.lZ _ _ _ _ _ _ y t s;induction w using bz with|true=>exact aZ l▸hY.or_cons (l7:=true) p (λq=>nomatch q)|false=>exact hY.or_cons p λZ=>j.Ds _ _ _ _ _ _ _ y t l
def acr(j:hH C O N n):∀a f r k g d,b1 C g a f d->N<=g.fuel->oG O (n+1) a f .And r=I k->nH C g r d k:=by
 intro a f r k g d y t i;induction r using bb with
 |nil=>exact aZ i▸nH.nil
 |cons m a6=>
  refine bK i λw s l=>?_;have p:=j.lZ _ _ _ _ _ _ y t s;induction w using bz with|false=>exact aZ l▸nH.cons (l7:=true) p (λq=>nomatch q)|true=>exact nH.cons p λZ=>j.K0 _ _ _ _ _ _ y t l
def T2(K:dv C O N)(R:hH C O N n)(J:b1 C F A f x)(q:N<=F.fuel)(j:fB O (n+1) A f (.Compare d s D ac)=I k):gu C F (.Compare d s D ac) x k:=by
 match s,D,j with
 |[g],[w],j=>
  replace j:(if nu g w=ah then ai else(bh O n A f d).bind λQ=>(bh O n A f w).bind λP=>O.cmp g Q P)=I k:=j
  split at j
  exact nS j
  rename_i M
  exact bK j λQ L j=>bK j λP H V=>gu.cmp (R.dN _ _ _ _ _ _ J q L) (R.dN _ _ _ _ _ _ J q H) (K.cmp _ _ _ _ V)<|(r' _).mp M
 |[g,m],[w,i],j=>
  replace j:(if nu m i=ah then ai else(bh O n A f d).bind λQ=>(bh O n A f w).bind λP=>(bh O n A f i).bind λY=>(O.cmp g Q P).bind λk=>(O.cmp m P Y).bind λX=>I<|k&&X)=I k:=j
  split at j
  exact nS j
  rename_i M
  exact bK j λQ L j=>bK j λP H j=>bK j λY W j=>bK j λaa T j=>bK j λd5 U j=>aZ j▸gu.Uv (R.dN _ _ _ _ _ _ J q L) (R.dN _ _ _ _ _ _ J q H) (R.dN _ _ _ _ _ _ J q W) (K.cmp _ _ _ _ T) (K.cmp _ _ _ _ U) ((r' _).mp M)
 |[],Z,j=>exact nS j
 |[Z],[],j=>exact nS j
 |[Z],t::y::B,j=>exact nS j
 |[Z,t],[],j=>exact nS j
 |[Z,t],[y],j=>exact nS j
 |[Z,t],y::B::E::G,j=>exact nS j
 |Z::t::y::B,E,j=>exact nS j
def Jj(j:dv C O N)(r:hH C O N n)(y:b1 C g a f b)(t:N<=g.fuel)(q:(bh O n a f i).bind O.truth=I k)(w:isTrue i g.env (cx i g.env)=(do let p<-cx i g.env;gs i.pos;gr [p] (yd p))):gu C g i b k:=
 bK q λd m l=>gu.val (r.dN _ _ _ _ _ _ y t m) (j.truth _ _ l) w
set_option tactic.hygienic true in
def acj(j:dv C O N)(b:hH C O N n):∀w q i k r l,b1 C r w q l->N<=r.fuel->fB O (n+1) w q i=I k->gu C r i l k:=by
 intro w q i k r l y t a;cases i<;>first|exact nS a|exact Jj j b y t a rfl|exact T2 j b y t a|skip
 case UnaryOp g m f=>
  cases g<;>first|exact Jj j b y t a rfl|exact fm a λd s i=>i▸gu.not (b.lZ _ _ _ _ _ _ y t s)
 case BoolOp g A f=>exact gu.op<|b.Ds _ _ _ _ _ _ _ y t a
end
section
variable{C:bS}{O:cY}{N n:Nat}
def rg(j:bu C g f k d)(e:eM f=av):fv C g [f] k [d]:=fv.cons j fv.nil<|r1 e
def SO(j:bu C g f k d)(m:eM f=av)(l:bu C g p k i)(q:eM p=av):fv C g [f,p] k [d,i]:=fv.cons j (rg l q)<|r1 m
def kx(k:b1 C b a d l)(j:a.global y=ah)(e:cB C y t):ny C b (.Name y p) t:=ny.name<|Xd k j e
def ab4(j:ud d=I g):d=.list g\/d=.tuple g:=by
 cases d<;>try exact nS j
 exact .inr<|congrArg _<|aZ j;exact .inl<|congrArg _<|aZ j
def z3(j:nB d=I g):d=.list g:=by cases d<;>first|exact nS j|exact congrArg _<|aZ j
def H9(j:B_ a=ah):∃b k s,a=.Tuple b k s:=(mT j).elim λab n=>⟨_,_,_,uz n⟩
def yS:∀{x:List aq}{f},Cz x=I f->x=[f]/\eM f=av
 |[],Z,j=>nS j
 |Z::t::y,k,j=>nS j
 |[p],f,j=>by
  replace j:(if eM p=ah then ai else I p)=I f:=j
  split at j
  exact nS j
  rename_i e
  exact aZ j▸⟨rfl,(r' _).mp e⟩
def SG:∀{x:List aq}{f},IS x=I f->x=[f.1,f.2]/\eM f.1=av/\eM f.2=av
 |[],Z,j=>nS j
 |[Z],t,j=>nS j
 |Z::t::y::k,m,j=>nS j
 |[p,g],f,j=>by
  replace j:(if(eM p||eM g)=ah then ai else I (p,g))=I f:=j
  split at j
  exact nS j
  rename_i e
  exact aZ j▸⟨rfl,(r' _).mp λq=>e (by rw[q];rfl),(r' _).mp λq=>e<|by rw[q,Bg]⟩
set_option tactic.hygienic true in
def DY(j:hH C O N n)(y:b1 C b a f k)(t:N<=b.fuel)(q:(bh O n a f i).bind (q0 m)=I g):e1 C b m i k g:=by
 refine bK q λd s p=>?_;have r:=j.dN _ _ _ _ _ _ y t s;clear q s;cases d<;>try exact nS p
 case str A=>exact(cw p).2▸e1.str r
 case tuple w=>exact aZ p▸e1.tuple r
 case list w=>exact aZ p▸e1.list r
def Yl(j:hH C O N n)(y:b1 C b a f k)(t:N<=b.fuel)(q:(bh O n a f i).bind ud=I g):e1 C b m i k g:=by refine bK q λd p x=>?_;have l:=j.dN _ _ _ _ _ _ y t p;rcases ab4 x with rfl|rfl;exact e1.list l;exact e1.tuple l
set_option tactic.hygienic true in
def acq(j:dv C O N)(E:hH C O N n):∀T L m i g Q k,b1 C Q T L k->N<=Q.fuel->er O (n+1) T L m i=I g->e1 C Q m i k g:=by
 intro T L m i g Q k y t b;cases i<;>try exact DY E y t b
 rename_i cL U X ad;cases cL<;>try exact DY E y t b
 rename_i R ab;cases X<;>try exact DY E y t b
 have J:=g8 b;clear b;have D:=(aY J.1).1;have b:=J.2;clear J;by_cases s:(R==("range":au))=ah;rw[if_pos s]at b;have aC:=bF s;subst aC;exact bK b λx A W=>e1.range (kx y D j.range) (E.jS _ _ _ _ _ _ y t A) W rfl;rw[if_neg s]at b;by_cases F:(R==("enumerate":au))=ah;rw[if_pos F]at b;have aC:=bF F;subst aC;refine iK b λw b=>bK b λY A b=>bK b λd B b=>fm b λZ r i=>?_;obtain⟨V,kk,q,rfl⟩:=H9 w;rw[(yS A).1,<-i];exact e1.enum (kx y D j.enum) (rg (z3 r▸E.dN _ _ _ _ _ _ y t B) (yS A).2) rfl;rw[if_neg F]at b;by_cases G:(R==("zip":au))=ah;rw[if_pos G]at b;have aC:=bF G;subst aC;refine iK b λw b=>bK b λY A b=>bK b λd B b=>bK b λaa M b=>bK b λZ r b=>fm b λac P i=>?_;obtain⟨V,kk,q,rfl⟩:=H9 w;have K:=SG A;rw[K.1,<-i];exact e1.zip (kx y D j.zip) (SO (z3 r▸E.dN _ _ _ _ _ _ y t B) K.2.1 (z3 P▸E.dN _ _ _ _ _ _ y t M) K.2.2) rfl;rw[if_neg G]at b;by_cases H:(R==("reversed":au))=ah;rw[if_pos H]at b;have aC:=bF H;subst aC;refine bK b λY A b=>bK b λd B b=>fm b λZ r i=>?_;rw[(yS A).1,<-i];exact e1.rev (kx y D j.rev) (rg (z3 r▸E.dN _ _ _ _ _ _ y t B) (yS A).2) rfl;rw[if_neg H]at b;exact Yl E y t b
def acp:∀j f m i g,er O (n+1) j f m i=I g->∀c h,Qj i c h=bq h:=by
 intro j f m i g b c h;cases i<;>first|rfl|skip
 exact bK b λd a Z=>by cases n<;>exact nS a
def D6{f:cf}(j:b≠m):List.lookup b ((m,d)::f)=f.lookup b:=by rw[ey];rw[show(b==m)=av by simpa using j]
def Tx:∀{b:List aq}{g:List af}{f c:cf},hF a b g f=I c->∀e,e∉(b.filterMap wK)->c.lookup e=f.lookup e:=by intro b g f c j e;have q:=rj j;clear j;induction q with|nil=>exactλZ=>rfl|@cons m s b d g f c ag q i=>exactλk=>(i<|Ej k).trans<|D6<|Ah<|Ei k
def I_(j:fw a m d f=I c):eR a m d f=I c/\∀b i,f.lookup b=I i->c.lookup b=I i:=by
 refine iK j λl j=>⟨j,λb i g=>?_⟩;have k:b∉xq m:=λq=>by have:=(bG.mp l) b q;rw[g]at this;exact fT this
 rw[<-g];have n:=yY j;clear j l;cases n with|name ag=>exact D6 (Ah k)|tuple j=>exact Tx j b k
def vx.here(d:vx C b m a y g l):∃St,nI C b.A b.X m a y g St/\St 0 l.heap:=by obtain⟨St,k,st⟩:=d;have:=k.to (λZ=>False) λZ j=>j.elim;exact⟨St,by simpa using this,st⟩
def nI.use{k:ef}{e:aF->Prop}{m:aq}{n:ar}{y:List aF}{g:List af}{St:Nat->cP->Prop}(R:nI C k e m n y g St){H:Nat}{d:af}{l:aB}{J:ar->aB->Prop}{K:aB->Prop}{L:ar->aB->Prop} (N:g[H]?=some d) (st:St H l.heap) (M:∀F,e F->∃I,l.heap.get? F=some I) (q:∀t D f,l.toks<=f->(∀G I,G∉y->l.heap.get? G=some I->D.get? G=some I)->St (H+1) D->Rz (λF=>e F\/F∈y) D t d->L t {l with heap:=D,toks:=f}):aL (aQ C.prog C.w) k (sO n) (λP p=>match P with|none=>K p|some t=>aL (aQ C.prog C.w) k (u6 m n t) (λZ B=>L t B) J p) J l:=by refine fh (wpAny_toks<|R.turn H d l (λt B=>l.toks<=B.toks->L t B) J N st M λt D f F G S O=>q t D f O F G S) (λP p j=>?_) λZ Z U=>U.2;obtain⟨h0,j⟩:=j;induction P using b6 with|none=>exact j.elim|some t=>exact fh (wpAny_toks_of h0 j) (λZ Z ab=>ab.2 ab.1) λZ Z ab=>ab.2
def nI.end_{k:ef}{e:aF->Prop}{m:aq}{n:ar}{y:List aF}{g:List af}{St:Nat->cP->Prop}(H:nI C k e m n y g St){l:aB}{F:ar->aB->Prop}{K:aB->Prop}{Z:ar->aB->Prop} (st:St g.length l.heap) (q:∀d f,l.toks<=f->(∀i G,i∉y->l.heap.get? i=some G->d.get? i=some G)->K {l with heap:=d,toks:=f}):aL (aQ C.prog C.w) k (sO n) (λD p=>match D with|none=>K p|some t=>Z t p) F l:=by refine fh (wpAny_toks<|H.stop l (λc=>l.toks<=c.toks->K c) F st λd f I B=>q d f B I) (λD p j=>?_) λ_ _ J=>J.2;obtain⟨h0,j⟩:=j;induction D using b6 with|none=>exact j h0|some t=>exact j.elim
theorem bf.grow{c:b_}(d:bf C c.X c.A c.fuel l)(j:∀p∈W,∃x,l.heap.get? p=I x)(y:∀p∈W,¬C.T p):bf C (c.grow W).X (c.grow W).A (c.grow W).fuel l:=⟨d.handled,d.depth,d.units,d.guards,λf n=>by
  rcases n with n|n;exact d.cI f n;obtain⟨x,i⟩:=j f n;exact⟨x,i,λk=>absurd k<|y f n⟩,λf k=>.inl<|d.a_ f k,d.ok,d.tok⟩
def bf.gg(d:bf C c k n l)(j:l.heap.get? a=ai):¬C.T a/\¬C.P a/\¬c a:=by refine⟨λr=>?_,λq=>?_,λm=>?_⟩;obtain⟨f,i,Z⟩:=d.cI a<|d.a_ a r;rw[j]at i;cases i;obtain⟨f,i⟩:=C.MU _ _ d.ok q;rw[j]at i;cases i;obtain⟨f,i,Z⟩:=d.cI a m;rw[j]at i;cases i
def yr{s:Type}{a w:List s}{d:s}(j:a.drop c=d::w):a[c]?=I d/\a.drop (c+1)=w:=by
 have b:a[c]?=I d:=by
  have:(a.drop c)[0]?=I d:=by rw[j];rfl
  simpa using this
 refine⟨b,?_⟩;rw[<-aeV,j];rfl
def Kh{s:Type}{d:List s}(j:d.drop c=[]):d.length<=c:=by simpa using j
set_option maxHeartbeats 1000000 in
def acs(b5:dv C O N)(bj:hH C O N n):It C O N (n+1):=by
 intro bh bQ M aJ bG bq bR b3 L bi aD H bg k F a9 l am bn an aS St ca W aG bA bw bC ak st aN aM aO br a4 a5 b2 kk af a8 cd q;have ad:iu C L an:=⟨λD=>ak.off _ D<|aO _ kk.loc.e_,λbk P Q D=>ak.off _ D<|br bk P Q,λP D=>by rw[aN];exact .inr D⟩;have aF:H∉an:=λD=>ak.off _ D a4;have bc:∀P∈an,¬C.T P:=λP D bl=>ak.off _ D<|aM P bl;have V:∀p,(p∈an\/¬aD p)->¬C.T p/\¬L.Y p/\p≠H:=λp B=>
  ⟨λbl=>B.elim (λD=>ak.off _ D<|aM p bl) λab=>ab<|aM p bl,λbo=>B.elim (λD=>ak.off _ D<|aO p bo) λab=>ab<|aO p bo,λQ=>B.elim (λD=>aF<|Q▸D) λab=>ab<|Q▸a4⟩
 obtain⟨bB,aH⟩:=yr bA;refine CT bB λb4=>?_;induction bR using bb with
 |nil=>
  obtain rfl:=aZ W;have bU:=Kh bw;have bE:ca=aS.length:=nh bC bU;refine ak.end_ (bE▸st) λce ci iS aP=>?_;have J:dB C an bi {bi with heap:=ce,toks:=ci}:=dB.of bc a5 (λP D=>ak.kA _ _ st P D) aP;refine q _ (J.bt λP D=>dt _ D) (kk.g_ ad J) ?_;rw[qB];exact af.g_ kk.a_ aF ad J
 |cons d a'=>
  obtain⟨aU,bx⟩:=yr bw;refine bK W λaC B W=>bK W λbX bW W=>bK W λa6 K W=>bK W λch bV Q=>?_;obtain rfl:=aZ Q;clear W;obtain⟨bu,as⟩:=I_ B;rw[gF]at a8;refine ak.use aU st (λP bT=>by obtain⟨aR,Q,Z⟩:=b2.cI P (by rw[aN];exact .inl bT);exact⟨aR,Q⟩) λb6 ac G iS aP jv ba=>?_;rw[<-aN]at ba;have J:dB C an bi {bi with heap:=ac,toks:=G}:=dB.of bc a5 (λP D=>ak.kA _ _ st P D) aP;have aX:Rz L.X ({bi with heap:=ac,toks:=G}:aB).heap b6 d:=ba;have au:St (ca+1) ({bi with heap:=ac,toks:=G}:aB).heap:=jv;clear ba jv aP iS;generalize({bi with heap:=ac,toks:=G}:aB)=bZ at J aX au ⊢;have df:=b2.only J λP D=>⟨bc P D,ak.here _ _ au P D⟩;have bI:=kk.g_ ad J;have a0:=af.g_ kk.a_ aF ad J;refine yZ bI df bu aX λax U aW Z=>?_;have b7:=df.step U;have a3:=a0.step kk.a_ kk.loc.cE U;have kJ:St (ca+1) ax.heap:=ak.frame _ _ _ au λp aR Q B=>U.keep p aR Q (V p B).1 (V p B).2.1;refine bj.K0 _ _ _ _ _ _ aW aG bW ax (aw.refl ax) b7 _ _ λeH aK=>?_;have ah:=aW.ext aK;have lI:=b7.ext aK;have ap:=a3.ext kk.a_ aK;have uf:St (ca+1) eH.heap:=ak.frame _ _ _ kJ λp aR Q B=>aK.keep p aR Q (V p B).1;have bO:dd C L (H::an) bi eH:=((J.bt λP D=>dt _ D).trans U.bt).trans aK.bt;have next:∀j(a1:dd C L [H] eH j),b1 C L bh bQ j->eX C L H (bg++a6) j->fU (aQ C.prog C.w) L.A (.compLoop (.ListComp M F l am) k bn (.ref H) L.env) cd j:=by
   intro j a1 bJ aq;have jU:bf C L.X L.A L.fuel j:=lI.bt a1 λP D Z=>by replace D:=c_.mp D;subst D;obtain⟨aa,bk,Q,Z⟩:=aq.at';exact⟨aq.e4,_,Q⟩
   have bM:St (ca+1) j.heap:=ak.frame _ _ _ uf λp aR Q B=>a1.keep p aR Q (V p B).1 (V p B).2.1 (by simpa using(V p B).2.2);refine bj.Dz bh bQ M aJ bG bq a' ch L j aD H (bg++a6) k F a9 l am bn an aS St (ca+1) bV aG bA bx (by have:=(qC.mp aU).1;exact G7 o) ak bM aN aM aO br a4 a5 jU bJ aq (by rw[gF];omega) cd λae bN bH aY=>?_;refine q ae ((bO.trans<|a1.cut (λZ bo=>bo) λp D=>.inl (by simp at D;simp[D])).trans bN) bH ?_;rw[<-lC];exact aY
  induction bX using bz with
  |false=>
   obtain rfl:=aZ (K:I []=I a6);exact next eH (aw.refl eH).bt (ah.sub as) (by rw[qB];exact ap)
  |true=>
   induction bq using bb with
   |nil=>
    have ay:F[k+1]?=ai:=by have:F.drop (k+1)=[]:=aH;simpa using this
    rw[ay];refine fm K λb9 ag Q=>?_;subst Q;refine bj.dN _ _ _ _ _ _ ah aG ag eH (aw.refl eH) lI _ _ λb8 j aj bY=>?_;refine vE (ap.ext kk.a_ aj) bY (ao (cv _ _) o) λoa aA ar=>?_;exact next oa (aj.bt.trans<|aA.bt λZ q=>q) (((ah.ext aj).g_ af.off aA).sub as) ar
   |cons bS aT=>
    obtain⟨a2,bd,bm,bs⟩:=bS;have ay:F[k+1]?=I ⟨a2,bd,bm,bs⟩:=(yr aH).1;rw[ay];replace K:(if(bs==0)=true then(er O n bh aC a2 bd).bind λaE=>pK O n bh aC M a2 bm aT aE else ai)=I a6:=K;have a7:=g8 K;clear K;have bD:bs=0:=bF a7.1;subst bD;refine bK a7.2 λaE aV K=>?_;clear a7;refine⟨rfl,bj.zv _ _ _ _ _ aV _,?_⟩;refine bj.zy bh aC a2 bd aE L eH ah aG aV eH (aw.refl eH) lI _ _ λbe j al aj az b0=>?_;obtain⟨aL,gz,av⟩:=b0.here;have bp:=λp(B:p∈al)=>lI.gg<|az p B;have aI:fU (aQ C.prog C.w) L.A (.compLoop (.ListComp M F l am) (k+1) be (.ref H) L.env) (λch bv=>∃cl,ch=.ok cl/\fU (aQ C.prog C.w) L.A (.compLoop (.ListComp M F l am) k bn (.ref H) L.env) cd bv) j:=by
     refine bj.Dz bh aC M a2 bm aT aE a6 (L.grow al) j L.X H bg (k+1) F bd l am be al aE aL 0 K aG aH Bo (cO _) gz av rfl kk.a_ kk.loc.cE (λbk P Q=>(kk.loc.dC bk P Q).2.2) (af.off.cI _<|by simp) (λp B=>(bp p B).2.1) ((lI.ext aj).grow (gz.here _ _ av) λp B=>(bp p B).1) (ah.grow az aj λP bl=>by obtain⟨aR,Q,Z⟩:=lI.cI P<|lI.a_ P bl;exact⟨aR,Q⟩) (ap.grow kk.a_ az aj) (by omega) _ λoa bP bL ar=>⟨.next,rfl,?_⟩;have a1:dd C L [H] eH oa:=(aj.bt.trans bP).cut (λZ bo=>bo) λp D=>by rcases c9.mp D with rfl|D;exact .inl (by simp);exact .inr<|az p D
     exact next oa a1 ((bL.shrink kk.a_ kk.loc.cE λbk P Q=>(kk.loc.dC bk P Q).2.2).sub as) (ar.shrink<|af.off.cI _<|by simp)
    exact JJ ay aI λb4=>gz.self 0 _ _ _ av aI
noncomputable def kh(c:kQ)(d:List (au×pD)):List (au×aF):=(d.filter λs=>s.2==.free).map λs=>(s.1,(c.cells.lookup s.1).getD 0)
def Uu(j:∀s∈l.names,s.2=.free->∃f,c.cells.lookup s.1=I f):x7 l c=bq (kh c l.names).reverse:=by
 have y:∀(d:List (au×pD))(b:List (au×aF)),(∀s∈d,s.2=.free->∃f,c.cells.lookup s.1=I f)->
   (jB d b (λm t=>if(m.2==.free)=ah then do let f<-cellOf c m.1;bq (hW<|(m.1,f)::t)else bq (hW t)):cA (List<|au×aF))=bq ((kh c d).reverse++b):=by
  intro d
  induction d with
  |nil=>intro b _;rfl
  |cons s t g=>
   intro b ax;rw[sj];by_cases e:(s.2==.free)=ah;obtain⟨f,n⟩:=ax s dA<|bF e;have w:cellOf c s.1=bq f:=by unfold cellOf;rw[n]
   rw[if_pos e,w];simp only[uL];rw[g _ λq i=>ax q<|dt _ i];congr 1;simp[kh,e,n];rw[if_neg e];simp only[uL];rw[g _ λq i=>ax q<|dt _ i];congr 1;have k:(s.2==kR)=av:=by simpa using e
   simp[kh,k]
 unfold x7;have:=y l.names [] j;rw[qB]at this;rw[<-this];simp only[bind_pure]
def JC{c:kQ}{n:au}{f:aF}:∀{d:List (au×pD)},(∀s∈d,s.2=.free->∃f,c.cells.lookup s.1=I f)->(kh c d).reverse.lookup n=I f->c.cells.lookup n=I f/\(n,kR)∈d:=by intro d ax j;have x:=mem_of_lookup j;rw[uO]at x;unfold kh at x;rw[ez]at x;obtain⟨s,b,i⟩:=x;rw[dP]at b;have g:=bF b.2;obtain⟨k,l⟩:=ax s b.1 g;rw[l]at i;simp only[G_,Prod.mk.injEq]at i;obtain⟨rfl,rfl⟩:=i;exact⟨l,by have:=b.1;rw[<-g];exact this⟩
def l'{s:Type}{l:List (au×s)}{n:au}{a:s}(j:(n,a)∈l):∃c,l.lookup n=I c:=by
 induction l with
 |nil=>cases j
 |cons d w g=>
  rw[ey];induction q:n==d.1 using bz with
  |true=>exact⟨_,rfl⟩
  |false=>
   rcases c9.mp j with i|j;rw[<-i]at q;simp at q;exact g j
def JE{n:au}(ax:∀s∈d,s.2=.free->∃f,c.cells.lookup s.1=I f)(x:(n,kR)∈d)(j:c.cells.lookup n=I f):(kh c d).reverse.lookup n=I f:=by
 have:(n,f)∈(kh c d).reverse:=by rw[uO];unfold kh;rw[ez];exact⟨(n,.free),dP.mpr ⟨x,rfl⟩,by simp[j]⟩
 obtain⟨e,q⟩:=l' this;rw[q];have:=(JC ax q).1;rw[j]at this;exact this.symm▸rfl
theorem rn:∀(d:List (au×pD))(a:Nat)(h:List (au×aF)),nv a d h=nv a d []++h
 |[]=>@λZ t=>rfl
 |(b,k)::w=>@λa h=>by
  unfold nv
  split
  rw[rn w (a+1)<|(b,a)::h,rn w (a+1) [(b,a)],lC];rfl
  exact rn w a h
theorem nM:∀{d:List (au×pD)}{e:Nat}{g:au}{f:aF},(g,f)∈nv e d []->(g,ip)∈d/\e<=f
 |[]=>λj=>by cases j
 |(b,k)::w=>λj=>by
  unfold nv at j
  split at j
  rename_i c
  rw[rn]at j
  rcases jD.mp j with j|j
  obtain⟨s,l⟩:=nM j
  exact⟨dt _ s,G0 l⟩
  simp at j
  obtain⟨rfl,rfl⟩:=j
  rw[bF c]
  exact⟨dA,cz _⟩
  obtain⟨s,l⟩:=nM j
  exact⟨dt _ s,l⟩
theorem lW:∀{d:List (au×pD)}{m:Nat}{c:au},(c,ip)∈d->∃f,(c,f)∈nv m d []
 |(b,k)::w,m,c,j=>by
  unfold nv
  rcases c9.mp j with i|j
  cases i
  rw[if_pos<|show(ip==ip)=ah from rfl,rn]
  exact⟨m,my _<|by simp⟩
  split
  rw[rn]
  obtain⟨f,n⟩:=lW (m:=m+1) j
  exact⟨f,mx _ n⟩
  exact lW j
def ZY(m:d {scope:=l,locals:=c.heap.objs.size,globals:=b,cells:=nv (c.heap.objs.size+1) l.names f,qual:=p,func:=ai,code:=a.code,frame:=a.frame,builtins:=a.builtins} {c with heap:=pushCells (c.heap.push {cls:=.type "dict",data:=.dict #[]}) l.names}):aL x k (agJ l b f [] p ai .none<|I a) d j c:=by simp only[agJ,Option.isSome_some,if_true];refine aA<|wpAny_alloc ?_;refine aA (wpAny_layCells _ (λg kind i=>by cases e:kind==ip<;>simp[e]) _ _ _ _ ?_);rw[show({c with heap:=c.heap.push {cls:=.type "dict",data:=.dict #[]}}:aB).heap.objs.size=c.heap.objs.size+1 from qN ..];rw[ae1];exact aA<|a'<|a' m
theorem Ni{c:kQ}{m:au}:∀{d:List (au×pD)},(d.map λ(n,k)=>if(k==kR&&c.scope.kind==.function&&c.kindOf n==I .cell)then(n,ip)else(n,k)).lookup m=(d.lookup m).map λk=>if(k==kR&&c.scope.kind==.function&&c.kindOf m==I .cell)then .cell else k
 |[]=>rfl
 |(n,k)::w=>by
  rw[c8]
  have g:=@Ni c m w
  have aC:(match(n,k)with|(n,k)=>if(k==kR&&c.scope.kind==.function&&c.kindOf n==I .cell)then(n,ip)else(n,k))=(n,if(k==kR&&c.scope.kind==.function&&c.kindOf n==I .cell)then ip else k):=by dsimp only;split<;>rfl
  rw[aC,ey,ey]
  induction q:m==n using bz with
  |true=>
   have:m=n:=bF q;subst this;rfl
  |false=>exact g
structure QH(S:a0)(scope:Scope)(vr:a0):Prop where
 kind:scope.kind=.function
 ag4:S.sc.kind=.function
 good:∀p∈scope.names,jo p.1=true
 look:∀p∈scope.names,scope.names.lookup p.1=some p.2
 free:∀p∈scope.names,p.2=.free->S.sc.names.lookup p.1=some .cell\/S.sc.names.lookup p.1=some .free
 apart:dM (scope.names.map (·.1))=true
 sc:vr.sc=Az scope S.sc
 own:vr.own=(scope.names.filter λp=>p.2==.local||p.2==.cell).map (·.1)
def UN(j:a.comp l=I y):QH a l y:=by unfold a0.comp at j;split at j;rename_i w;simp only[bY,beq_iff_eq,bG,mu,bne_iff_ne]at w;cases j;refine⟨w.1.1.2,w.1.1.1,λs ax=>(w.2 s ax).1.1,λs ax=>(w.2 s ax).1.2,λs ax c=>?_,w.1.2,rfl,rfl⟩;rcases(w.2 s ax).2 with(j|j)|j;exact absurd c j;exact .inl j;exact .inr j;cases j
def p6(j:jo m=ah):(m==("__debug__":au))=av/\(m==("__classdict__":au))=av:=by unfold jo at j;simpa using j
theorem Dy:∀{aK:cf},(eK l aK).lookup m=I d->aK.lookup m=I d/\l.names.lookup m=I .free
 |[]=>@λj=>by cases j
 |(b,i)::w=>@λj=>by
  unfold eK at j
  rw[iM]at j
  split at j
  rename_i c
  rw[ey]at j ⊢
  induction q:m==b using bz with
  |true=>
   rw[q]at j;exact⟨j,by rw[bF q];exact bF c⟩
  |false=>rw[q]at j;exact Dy j
  rename_i c
  have g:=Dy (aK:=w) j
  rw[ey]
  induction q:m==b using bz with
  |true=>
   rw[bF q]at g;exact absurd (by rw[g.2];rfl) c
  |false=>exact g
theorem IP:∀{d:List au},dM d=ah->d.Pairwise λf p=>f≠p
 |[]=>@λZ=>.nil
 |x::w=>@λj=>by
  unfold dM at j
  simp only[bY,ew,hA,decide_eq_false_iff_not]at j
  exact GS.mpr ⟨λc k i=>j.1<|i▸k,IP j.2⟩
def JD(ax:∀s∈names,s.2=.free->∃f,c.cells.lookup s.1=I f)(j:w∈kh c names):c.cells.lookup w.1=I w.2:=by unfold kh at j;rw[ez]at j;obtain⟨s,b,i⟩:=j;rw[dP]at b;obtain⟨k,l⟩:=ax s b.1<|bF b.2;rw[l]at i;rw[<-i];exact l
theorem JB(t:c.cells.Pairwise λm A=>m.2≠A.2):∀{names:List (au×pD)},(∀p∈names,p.2=.free->∃f,c.cells.lookup p.1=I f)->(names.map (·.1)).Pairwise (λf D=>f≠D)->(kh c names).Pairwise λm A=>m.2≠A.2
 |[]=>@λZ C=>.nil
 |p::w=>@λax j=>by
  rw[c8,GS]at j
  have g:=JB t (names:=w) (λq s=>ax q<|dt _ s) j.2
  unfold kh at g ⊢
  rw[iM]
  split
  rename_i B
  rw[c8,GS]
  refine⟨λA k i=>?_,g⟩
  obtain⟨f,n⟩:=ax p dA<|bF B
  have d:=JD (names:=w) (λq s=>ax q<|dt _ s) k
  rw[ez]at k
  obtain⟨ab,l,rfl⟩:=k
  rw[dP]at l
  rw[n]at i
  simp only[G_]at i
  have:=name_of_addr t (mem_of_lookup n)<|mem_of_lookup<|i▸d
  exact j.1 ab.1 (lD l.1) this
  exact g
def dd.ext(m:dd C g a l ae)(j:∀p,g.Y p->l.heap.get? p=ai)(h:∀p∈a,l.heap.get? p=ai):aw C l ae:=⟨m.same,λp d i k=>m.keep p d i k (λf=>by rw[j p f]at i;cases i) (λn=>by rw[h p n]at i;cases i),m.tabs,m.ok,m.toks⟩
set_option maxHeartbeats 1000000 in
def JM(b':dv C O N)(aG:hH C O N n)(a6:b1 C M cs bm ch)(bR:N<=M.fuel)(bT:cs.comp j=some bi)(bA:er O n cs bm ac an=some co)(b5:aw C ch a2)(aW:bf C M.X M.A M.fuel a2)(bJ:b_->aB->List ar->Prop)(bk:∀(G:b_)(D:aB)(a1:aF->Prop)(bn:aF)(bv:ar)(as:List aF)(St:Nat->cP->Prop),G.A=M.A->G.fuel=M.fuel->aw C a2 D->(∀f,a1 f->a2.heap.get? f=none)->(∀V∈as,a2.heap.get? V=none)->nI C G.A (λf=>M.X f\/a1 f) ac bv as co St->St 0 D.heap->G.X=(λf=>(M.X f\/a1 f)\/f∈as)->(∀f,C.T f->M.X f\/a1 f)->(∀f,G.Y f->M.X f\/a1 f)->(∀n f,G.env.cells.lookup n=some f->M.X f\/a1 f)->a1 bn->(∀V∈as,¬C.P V)->bf C G.X G.A G.fuel D->b1 C G bi (eK j bm) D->eX C G bn [] D->∀(dK:oq->aB->Prop),(∀ae aa am,dd C G (bn::as) D ae->b1 C G bi (eK j bm) ae->ae.heap.get? bn=some ⟨.type "list",none,.seq ⟨aa⟩ am,#[]⟩->bJ G ae aa->dK (.ok .next) ae)->fU (aQ C.prog C.w) G.A (.compLoop (.ListComp ca (⟨ac,an,cd,0⟩::cr) j ce) 0 bv (.ref bn) G.env) dK D)(K:∀(G:b_)(ae:aB)(f ci:aF)(am:au->Option ar)(aa:List ar)(eY:Nat),aw C a2 ae->a2.heap.get? ci=none->a2.heap.get? f=none->f≠ci->ae.heap.Ns ci am->(∀V,M.X V\/V=ci->G.X V)->ae.heap.get? f=some ⟨.type "list",none,.seq ⟨aa⟩ eY,#[]⟩->bJ G ae aa->Hv (aQ C.prog C.w) M.A cK be cV (.ref f) ci (.ok .next) ae):aL (aQ C.prog C.w) M.A (Hw (.ListComp ca (⟨ac,an,cd,0⟩::cr) j ce) j M.env db (HD []) av (cx an M.env) be) cV cK a2:=by
 have kk:=a6.ext b5;have aS:=UN bT;have W:∀bd∈j.names,bd.2=.free->∃f,M.env.cells.lookup bd.1=some f:=λbd ax bV=>kk.cells _<|aS.free bd ax bV;refine wpAny_comprehension_free (use:=be) rfl (aG.zv _ _ _ _ _ bA _) (Uu W) aS.kind (λbd ax aI=>by rw[aS.look bd ax,aI]) ?_;refine aG.zy cs bm ac an co M a2 kk bR bA a2 (aw.refl a2) aW _ _ λbv B as ah a0 b4=>?_;refine yg ?_ (by rw[hT];simp);refine ZY ?_;have b7:=aW.ext ah;have ab:=kk.ext ah;generalize aX:B.heap.push {cls:=.type "list",data:=.seq ([]:List ar).toArray}=H;have bP:H.get? B.heap.objs.size=some ⟨.type "list",none,.seq ⟨[]⟩ 0,#[]⟩:=by rw[<-aX];exact fs _ rfl
 have a5:H.objs.size=B.heap.objs.size+1:=by rw[<-aX,qN]
 have bE:∀V al,B.heap.get? V=some al->H.get? V=some al:=λV al i=>by rw[<-aX];exact fA _ i
 rw[rn];generalize aH:(kh M.env j.names).reverse=aK;generalize ak:nv (H.objs.size+1) j.names []=U;generalize aY:pushCells (H.push {cls:=.type "dict",data:=.dict #[]}) j.names=aJ;have a7:=cellsFrom_ok j.names (H.push {cls:=.type "dict",data:=.dict #[]}) (H.objs.size+1) [] ⟨λZ Z J=>(nomatch J),aeP⟩ (by rw[qN];exact cz _);rw[qN,ak,aY]at a7;have bb:∀V al,H.get? V=some al->aJ.get? V=some al:=λV al i=>by rw[<-aY];exact agM _ _ _ _<|fA _ i
 have aR:∀V al,B.heap.get? V=some al->aJ.get? V=some al:=λV al i=>bb V al<|bE V al i;have a9:aJ.Ns H.objs.size (λZ=>none):=by rw[<-aY];exact(Heap.Ns.new H<|.type "dict").keeps<|agM _ _
 have aj:∀n f,(n,f)∈U->B.heap.objs.size+2<=f:=λn f J=>by have:=(nM<|ak▸J).2;rw[a5]at this;exact this
 have bl:∀n f,(n,f)∈U->(n,ip)∈j.names:=λn f J=>(nM<|ak▸J).1;have bq:∀n f,aK.lookup n=some f->M.env.cells.lookup n=some f/\(n,kR)∈j.names:=λn f i=>JC W<|aH▸i;let a1:aF->Prop:=λf=>f=B.heap.objs.size\/f=H.objs.size\/∃n,(n,f)∈U;have aq:∀f,a1 f->B.heap.get? f=none:=by exactλf I=>lb<|I.elim (λq=>bQ q.symm) λaG=>aG.elim (λq=>(q.trans a5)▸pB _) λaG=>aG.elim λam J=>ao (cv _ 2)<|aj am f J
 have bx:∀f,a1 f->¬∃al,B.heap.get? f=some al:=λf I ⟨al,i⟩=>by rw[aq f I]at i;cases i
 obtain⟨St,bK,bc⟩:=b4;have bH:=bK.to a1 bx;have bG:∀V∈as,∃al,B.heap.get? V=some al:=bH.here _ _ bc;let bs:kQ:={scope:=BU j M.env,locals:=H.objs.size,globals:=M.env.globals,cells:=U++aK,qual:=M.env.qual,func:=none,code:=M.env.code,frame:=M.env.frame,builtins:=M.env.builtins};let G:b_:={env:=bs,X:=λf=>(M.X f\/a1 f)\/f∈as,Y:=λf=>f=H.objs.size\/∃n,(n,f)∈U,A:=M.A,fuel:=M.fuel};let D:aB:={B with heap:=aJ};have a4:aw C B D:=by have:=aw.of_keep (C:=C) (s:=B) (h:=aJ) (eV:=B.toks) aR;exact this
 have jU:bf C M.X M.A M.fuel D:=b7.ext a4;have aN:∀f,B.heap.get? f=none->¬C.T f/\¬C.P f/\¬M.X f:=λf I=>b7.gg I;have a8:aJ.get? B.heap.objs.size=some ⟨.type "list",none,.seq ⟨[]⟩ 0,#[]⟩:=bb _ _ bP;have bI:∀f,a1 f->∃al,aJ.get? f=some al:=by exactλf I=>I.elim (λq=>⟨_,q▸a8⟩) λaG=>aG.elim (λq=>q▸a9.imp λal aG=>aG.elim λZ aG=>aG.elim λZ aG=>aG.1) λaG=>aG.elim λam J=>(a7.empty am f J).1.imp λal=>jA
 have bO:bf C G.X G.A G.fuel D:=⟨jU.handled,jU.depth,jU.units,jU.guards,λf I=>by
  rcases I with(I|I)|I;exact jU.cI f I;obtain⟨al,i⟩:=bI f I;exact⟨al,i,λaU=>absurd aU (aN f<|aq f I).1⟩;obtain⟨al,i⟩:=bG f I;have bX:a2.heap.get? f=none:=a0 f I;exact⟨al,aR f al i,λaU=>absurd aU (aW.gg bX).1⟩,λf aU=>.inl<|.inl<|jU.a_ f aU,jU.ok,jU.tok⟩
 have ai:∀n f,(U++aK).lookup n=some f->(∃am,(am,f)∈U)\/M.env.cells.lookup n=some f:=by intro n f i;rw[uN]at i;induction aA:U.lookup n using b6 with|some V=>rw[aA]at i;simp at i;subst i;exact .inl ⟨n,mem_of_lookup aA⟩|none=>rw[aA]at i;simp at i;exact .inr (bq n f i).1
 have ap:∀n,G.env.kindOf n=(j.names.lookup n).map λk=>if(k==kR&&M.env.scope.kind==.function&&M.env.kindOf n==some .cell)then .cell else k:=λn=>Ni;have bj:h2 C G D:=by refine⟨aS.kind,⟨_,a9⟩,λam f i=>?_,?_,.inl rfl,λf I=>.inl<|.inr<|.inr I,λf I=>(aN f<|aq f<|.inr I).1,λf I=>(aN f<|aq f<|.inr I).2.1,λam f i=>?_,λaf cc i=>(by cases i)⟩;rcases ai am f i with⟨aE,J⟩|i;exact⟨_,(a7.empty aE f J).1⟩;obtain⟨bp,aD⟩:=ab.loc.cell am f i;exact⟨bp,aD.keeps aR⟩;show(U++aK).Pairwise λb5 af=>b5.2≠af.2;rw[List.pairwise_append];refine⟨a7.apart,?_,λbd ax b8 bD=>?_⟩;rw[<-aH,List.pairwise_reverse];exact(JB ab.loc.apart W<|IP aS.apart).imp λaG=>aG.symm;intro i;rw[<-aH,uO]at bD;have aA:=JD W bD;obtain⟨bp,aD⟩:=ab.loc.cell _ _ aA;have aT:=aj bd.1 bd.2 ax;rw[i]at aT;exact absurd aD.lt<|qK.mpr<|ao (cv _ 2) aT;rcases ai am f i with⟨aE,J⟩|i;refine⟨(aN f<|aq f<|.inr<|.inr ⟨aE,J⟩).1,λq=>?_,.inl<|.inr<|.inr<|.inr ⟨aE,J⟩⟩;have aT:=aj aE f J;have bo:f=H.objs.size:=q;rw[bo,a5]at aT;exact absurd aT<|PC.mpr<|fS _;obtain⟨aA,aT,bw⟩:=ab.loc.dC am f i;refine⟨aA,λq=>?_,.inl<|.inl bw⟩;have bo:f=H.objs.size:=q;exact(aN f (by rw[bo];exact aq _<|.inr<|.inl rfl)).2.2 bw
 have az:∀af,j.names.lookup af=some .free->U.lookup af=none:=by
  intro af ag;induction aA:U.lookup af using b6 with
  |none=>rfl
  |some V=>
   have:=aS.look _<|bl af V<|mem_of_lookup aA;rw[ag]at this;cases this
 have bF:b1 C G bi (eK j bm) D:=by
  refine⟨?_,ab.glob,ab.blt,λf aU=>.inl<|.inl<|b7.a_ f aU,λaf ag bW=>?_,λaf ag=>?_,λaf d i=>?_,bj⟩;show BU j M.env=bi.sc;rw[aS.sc];unfold BU Az PQ;rw[ab.sc];rw[aS.own,hA]at ag;have ag:=of_decide_eq_true ag;rw[ez]at ag;obtain⟨bd,ax,rfl⟩:=ag;rw[dP]at ax;obtain⟨ax,aO⟩:=ax;have bu:=p6 bW;refine⟨rfl,bu.1,bu.2,?_⟩;rw[ap,aS.look bd ax];simp only[mu,beq_iff_eq]at aO;rcases aO with aO|aO;left;rw[aO];rfl;right;rw[aO];refine⟨rfl,?_⟩;have bC:(bd.1,ip)∈j.names:=by rw[<-aO];exact ax
  obtain⟨f,I⟩:=lW (m:=H.objs.size+1) bC;rw[ak]at I;obtain⟨V,ay⟩:=l' I;refine⟨V,?_,.inr ⟨bd.1,mem_of_lookup ay⟩⟩;show(U++aK).lookup bd.1=some V;rw[uN,ay];rfl;have aC:bi.sc.names.lookup af=G.env.kindOf af:=by rw[aS.sc];show _=(BU j M.env).names.lookup af;unfold BU Az PQ;rw[ab.sc]
  rw[aC,ap]at ag;induction aI:j.names.lookup af using b6 with
  |none=>rw[aI]at ag;simp at ag
  |some k=>
   rw[aI]at ag;show∃f,(U++aK).lookup af=some f;by_cases a':k=.cell;subst a';obtain⟨f,I⟩:=lW (m:=H.objs.size+1)<|mem_of_lookup aI;rw[ak]at I;obtain⟨V,ay⟩:=l' I;exact⟨V,by rw[uN,ay];rfl⟩;by_cases ba:k=.free;subst ba;obtain⟨f,I⟩:=W _ (mem_of_lookup aI) rfl;refine⟨f,?_⟩;rw[uN,az af aI,<-aH,JE W (mem_of_lookup aI) I];rfl;exfalso;cases k<;>simp at ag a' ba
  obtain⟨aC,aM⟩:=Dy i;obtain⟨bp,aD,b8⟩:=kk.names af d aC;refine⟨bp,?_,?_⟩;obtain⟨f,bL,bM,aD⟩:=aD.ext<|ah.trans a4;refine⟨aS.kind,bL,bM,.inr ?_⟩;have aZ:=aS.free _ (mem_of_lookup aM) rfl;rcases aD with⟨k,_⟩|⟨k,ad,cb,aU,bU⟩;have bY:cs.sc.names.lookup af=some .local:=by rw[<-ab.sc];exact k
  rw[bY]at aZ;simp at aZ;refine⟨?_,ad,?_,aU,bU⟩;rw[ap,aM];rcases k with k|k;left;have bB:M.env.scope.kind=.function:=ab.loc.kind;simp[k,bB];right;simp[k];show(U++aK).lookup af=some ad;rw[uN,az af aM,<-aH,JE W (mem_of_lookup aM) cb];rfl;have bz:∀f,a1 f->a2.heap.get? f=none:=λf I=>ah.old aW<|aq f I;have b0:Rz (λf=>(M.X f\/a1 f)\/f∈as) a2.heap bp d:=b8.more λV al i af=>by rcases af with(af|af)|af;exact af;rw[bz V af]at i;cases i;rw[a0 V af]at i;cases i
  exact b0.mono λV al ay i=>(ah.trans a4).keep V al i λaU=>ay<|.inl<|.inl<|aW.a_ V aU
 have aV:B.heap.objs.size≠H.objs.size:=by rw[a5];exact f'<|fS _
 have aP:∀am,(am,B.heap.objs.size)∉U:=λam J=>absurd (aj am _ J)<|PC.mpr<|xR z;have bh:eX C G B.heap.objs.size [] D:=by refine⟨(aN _<|g7 _).1,(aN _<|g7 _).2.1,⟨?_,λam f i=>?_,λf I=>?_⟩,?_,[],0,a8,.nil⟩;show H.objs.size∉[B.heap.objs.size];simp[aV.symm];intro I;simp at I;subst I;rcases ai am _ i with⟨aE,J⟩|i;exact aP aE J;obtain⟨bp,aD⟩:=ab.loc.cell am _ i;exact absurd aD.lt<|qG _;simp at I;subst I;exact .inl<|.inr<|.inl rfl;rintro(q|⟨am,J⟩);exact aV q;exact aP am J
 have br:∀ae aa eY,dd C G (B.heap.objs.size::as) D ae->b1 C G bi (eK j bm) ae->ae.heap.get? B.heap.objs.size=some ⟨.type "list",none,.seq ⟨aa⟩ eY,#[]⟩->bJ G ae aa->Hv (aQ C.prog C.w) M.A cK be cV (.ref B.heap.objs.size) H.objs.size (.ok .next) ae:=by intro ae aa eY b3 bZ i bS;obtain⟨am,J⟩:=bZ.loc.ns;have bN:aw C a2 ae:=((ah.bt.trans a4.bt).trans b3).ext (λV af=>ah.old aW<|aq V<|.inr af) λV dL=>(c9.mp dL).elim (λq=>q▸ah.old aW (g7 _))<|a0 V;exact K G ae _ _ am aa eY bN (ah.old aW<|aq _<|.inr<|.inl rfl) (ah.old aW<|g7 _) aV J (λV ay=>ay.elim (λq=>.inl<|.inl q) λq=>.inl<|.inr<|.inr<|.inl q) i bS
 have bg:St 0 D.heap:=bH.frame _ _ _ bc λV al i Z=>aR V al i;have a3:fU (aQ C.prog C.w) M.A (.compLoop (.ListComp ca (⟨ac,an,cd,0⟩::cr) j ce) 0 bv (.ref B.heap.objs.size) bs) (Hv (aQ C.prog C.w) M.A cK be cV (.ref B.heap.objs.size) H.objs.size) D:=
  bk G D a1 B.heap.objs.size bv as St rfl rfl (ah.trans a4) (λf I=>ah.old aW<|aq f I) a0 bH bg rfl (λf aU=>.inl<|b7.a_ f aU) (λf I=>.inr<|.inr I) (λam f i=>by
    rcases ai am f i with⟨aE,J⟩|i;exact .inr<|.inr<|.inr ⟨aE,J⟩;exact .inl (ab.loc.dC am f i).2.2) (.inl rfl) (λV ay=>(aW.gg<|a0 V ay).2.1) bO bF bh _ br
 exact JJ rfl a3 λb9=>bH.self 0 _ _ _ bg a3
def JL(af:dv C O N)(aR:hH C O N n)(M:b1 C c bd G k)(ac:N<=c.fuel)(ax:bd.comp l=I y)(aA:er O n bd G i j=I D)(aD:pK O n y (eK l G) p i B H D=I t)(V:t.length<=1000000)(aW:aw C k an)(aP:bf C c.X c.A c.fuel an)(K:∀(ae:aB)(f d:aF)(a1:au->Option ar),aw C an ae->an.heap.get? d=ai->f≠d->ae.heap.Ns d a1->Rz (λaO=>c.X aO\/aO=d) ae.heap (.ref f) (.list t)->Hv (aQ C.prog C.w) c.A be am bi (.ref f) d (.ok .next) ae):aL (aQ C.prog C.w) c.A (Hw (.ListComp p (⟨i,j,B,0⟩::H) l al) l c.env a2 (HD []) av (cx j c.env) am) bi be an:=by refine JM af aR M ac ax aA aW aP (λJ ae aa=>RzL J.X ae.heap aa t) (λJ W aS ad aE aM St aU az Z Z Z aT st U aJ aN ah ap as ao aH Y aX q=>?_) λJ ae f d a1 aa eY ak aq ay P aC U aj aV=>?_;refine aR.Dz y (eK l G) p i B H D t J W (λf=>c.X f\/aS f) ad [] 0 _ j l al aE aM D St 0 aD (by rw[az];exact ac) Bo Bo (cO _) aT st U aJ aN ah (.inr ap) as ao aH Y (by simpa using V) _ λae aK aG ag=>?_;obtain⟨aa,eY,aj,aI⟩:=ag.at';exact q ae aa eY aK aG aj (by simpa using aI);exact K ae f d a1 ak aq P aC<|.list (λq=>q.elim (λab=>(aP.gg ay).2.2 ab) P) aj<|aV.less U
def aw.only(m:aw C l ae)(M:bf C c f k l)(F:l.heap.get? a=ai)(j:∀D,ae.heap.get? a=I D->¬fO D)(n:x3 a ae.heap d):aw C l {ae with heap:=d}:=by have E:=M.gg F;have B:dB C [a] ae {ae with heap:=d}:=dB.of (dE E.1) (dE E.2.1) (dE j) λp D q i=>(n.2 p<|by simpa using q).trans i;refine⟨?_,λp D i H=>B.keep p D (m.keep p D i H) H λK=>?_,λp H r i=>?_,λJ=>B.ok<|m.ok J,ao m.toks B.toks⟩;obtain⟨O,N,rfl⟩:=m.same;exact⟨_,_,rfl⟩;replace K:=c_.mp K;subst K;rw[F]at i;cases i;obtain⟨y,i⟩:=m.tabs p H r i;obtain⟨G,i⟩:=B.tabs p H _ i;exact⟨y++G,by rw[i,uE]⟩
def VJ(P:dv C O N)(ac:hH C O N n)(G:b1 C F D f k)(U:N<=F.fuel)(V:D.comp l=I y)(W:er O n D f d t=I A)(X:pK O n y (eK l f) p d w B A=I j)(J:j.length<=1000000):bu C F (.ListComp p (⟨d,t,w,0⟩::B) l i) k (.list j):=by intro ao ai Z al aj q;rw[eval_ListComp];refine JL P ac G U V W X J ai Z λae am ak ag R T af K ah=>⟨ag,K,λad M=>?_⟩;refine q _ _ (R.only Z T (Ag K) M) ?_;exact(ah.mono λY an H aa=>(M.2 Y λab=>H<|.inr ab).trans aa).less λY H=>.inl H
section
variable{c:b_}{a5:aB}
def T5(N:eO C f)(bs:mL C c Y a5 d)(V:ud d=I H)(aj:H.length<=1000000)
   (be:aw C a5 an) (a1:bf C c.X c.A c.fuel an) 
  (q:∀aa ae,aw C an ae->RzL c.X ae.heap aa H->aL (aQ C.prog C.w) c.A (fu f aa []) as ac ae):aL (aQ C.prog C.w) c.A (hc am f [] [(ah,Y)] []) as ac an:=by
 have P:∀{Y:cA ar}{p:aB},aL (aQ C.prog C.w) c.A Y as ac p->aL (aQ C.prog C.w) c.A (Y>>=λM=>gr [M] u7>>=λZ=>bq M) as ac p:=
  λaf=>aA<|fh af (λM ag ad=>aA<|du<|sQ<|a' ad) λZ Z be=>be
 have n:∀aa ae,aw C an ae->RzL c.X ae.heap aa H->aL (aQ C.prog C.w) c.A (do
   gs am
   let M<-match<-qS f,ah with|.frame,ah=>BO starredCall f ([]++aa) []|.frame,av=>if[(ah,Y)].length+2*([]:List (Option au×cA ar)).length>30 then fu f ([]++aa) []else BO plainCall f ([]++aa) []|.boundFrame,av=>if[(ah,Y)].length+2*([]:List (Option au×cA ar)).length>30 then fu f ([]++aa) []else BO callOfAMethodObject f ([]++aa) []|.machine,av=>fu f ([]++aa) []|Z,bm=>x' (f::(if ah then([]++aa).reverse else[]++aa)++([]:List (au×ar)).map (·.2))<|fu f ([]++aa) []
   gr [M] u7
   bq M) as ac ae:=by
  intro aa ae ap M
  have i:=q aa ae ap M
  refine aA<|dT ?_
  obtain⟨k,O,K⟩:=N ae.heap (a1.ext ap).ok
  refine aA<|K.here ?_
  rcases O with rfl|rfl
  exact P (by unfold BO;exact wpAny_keep i)
  exact P<|qs i
 refine aA<|du ?_
 refine aA<|bs an be a1 _ _ λv p ap M=>aA<|a'<|du ?_
 refine aA<|a' ?_
 have W:∀{G:String}{D:aF}{aa:List ar}{R:Nat},(G="list"\/G="tuple")->v=.ref D->p.heap.get? D=I ⟨.type G,ai,.seq ⟨aa⟩ R,#[]⟩->RzL c.X p.heap aa H->
   ∀(id:String),qU (.type G) "__iter__"=bq (I<|.builtin id)->aL (aQ C.prog C.w) c.A (do
    let bn<-notIterableAtAll v
    if bn=ah then do
     HG "call.star.not-iterable"
     raiseError "TypeError"s!"{← functionStr f} argument after * must be an iterable, not {← typeNameOf v}"
    gr [] (collect v)) (λbi ae=>bi=aa/\aw C p ae) ac p:=by
  rintro G D aa R U rfl S B id L
  have al:p.TypeIs (.ref D) G:=⟨_,S,rfl⟩
  refine aA<|aA<|ag1 al L<|a' ?_
  refine yf ?_
  rw[if_neg<|by simp]
  refine du<|wpAny_collect_seq D U S rfl rfl (λbv k=>⟨rfl,?_⟩) ?_
  exact aw.of_keep k
  have:=B.length
  show aa.length<=_
  rw[hT];exact ao (bQ o)<|ao o z
 obtain⟨G,D,aa,R,id,U,bd,j,B,L⟩:∃(G:String)(D:aF)(aa:List ar)(R:Nat)(id:String),(G="list"\/G="tuple")/\v=.ref D/\p.heap.get? D=I ⟨.type G,ai,.seq ⟨aa⟩ R,#[]⟩/\RzL c.X p.heap aa H/\qU (.type G) "__iter__"=bq (I<|.builtin id):=by
  cases d<;>try exact nS V
  exact M.tK λD aa R a2 j B S=>⟨_,D,aa,R,_,.inr rfl,S,j,aZ V▸B,PySem.F.slot_tuple_iter.lookup⟩;exact M.lK λD aa R a2 j B S=>⟨_,D,aa,R,_,.inl rfl,S,j,aZ V▸B,slot_list_iter.lookup⟩
 refine aA<|fh (W U bd j B id L) (λbi ae ab=>a' ?_) λZ Z S=>S
 obtain⟨rfl,J⟩:=ab
 exact n _ ae (ap.trans J)<|(a1.ext ap).gn J B
set_option tactic.hygienic true in
def Nd(M:ny C c cL (.type "range"))(n:fv C c e a5 d)(T:eo d=I f)(F:cx (.Call cL e [] i) c.env=(cx cL c.env>>=λP=>hc i P [] (jd i<|hg e c.env)<|ou i<|ox [] c.env))(W:aw C a5 l)(S:bf C c.X c.A c.fuel l)(q:∀J K p k U V P ae,aw C l ae->IsRange ae.heap J K p k U V P->lh K p k=ah->f=kH K k (kd K p k).toNat->m (.ref J) ae):aL (aQ C.prog C.w) c.A (cx (.Call cL e [] i) c.env) m j l:=by
 rw[F];refine aA<|M l S _ _<|vN (.typ _) (n i).2 (n i).1 W S λaa O R J=>?_;cases Na T with
 |one B=>
  cases J;rename_i G D;cases D;cases G;exact call_range_1<|q _ _ _ _ _ _ _ _ (R.trans aw.push) (x4 ..) B rfl
 |two B=>
  cases J;rename_i G D;cases D;rename_i D H;cases H;cases G;cases D;exact call_range_2<|q _ _ _ _ _ _ _ _ (R.trans aw.push) (x4 ..) B rfl
 |three B L=>
  cases J;rename_i G D;cases D;rename_i D H;cases H;rename_i H N;cases N;cases G;cases D;cases H;exact call_range_3 (AF B).2.1 (q _ _ _ _ _ _ _ _ (R.trans aw.push) (x4 ..) B rfl)<|.inl L
def Yk{C:aF->Prop}{D:cP}{f k:Int}:∀{aa:List ar}{n:Nat},aa.length=n->(∀c q,aa[c]?=I q->∃s,q=bN (f+(c:Nat)*k) s)->RzL C D aa (kH f k n):=by
 intro aa n B m;have y:∀(d:List ar)(w:Nat),(∀c q,d[c]?=I q->∃s,q=bN (f+(c+w:Nat)*k) s)->RzL C D d ((aH d.length).map λc=>af.int<|f+(c+w:Nat)*k):=by
  intro d;induction d with
  |nil=>intro w _;exact .nil
  |cons E F g=>
   intro w p;rw[gG,ae_,c8,dG];obtain⟨s,rfl⟩:=p 0 E rfl;refine .cons (.int _ _) ?_;have:=g (w+1) λc q b=>by obtain⟨s,A⟩:=p (c+1) q (by simpa using b);exact⟨s,by rw[A,show c+1+w=c+(w+1)by exact e7 _ _ _]⟩
   have A:(λc=>af.int<|f+(c+w:Nat)*k)∘Nat.succ=λc=>af.int (f+(c+(w+1):Nat)*k):=by funext c;show af.int _=af.int _;rw[show c.succ+w=c+(w+1)by omega]
   rw[A];exact this
 have:=y aa 0 m;rw[B]at this;exact this
end
set_option tactic.hygienic true in
def CF(j:qh x=ah):attributeBase x r c a=a:=by
 cases x<;>first|rfl|skip
 rename_i cL k b s;cases cL<;>first|rfl|skip
 induction k using bb with
 |cons=>rfl
 |nil=>
  induction b using bb with|cons=>rfl|nil=>exact fT j
set_option tactic.hygienic true in
def N2:∃d,subscripted slice av a4 i=x' d (qR a4 i):=by
 cases slice;case Slice f e g s=>cases g<;>exact⟨_,rfl⟩
 all_goals exact⟨_,rfl⟩
def Sb{m D ab:au}(B:i≠0)(C:a≠0)(f:i≠a)(q:m.length+(m.length+1)*ab.length<=16777216)(n:uY l.heap)(r:∀g k,l.toks<=k->h (.str (agq m D ab) g) {l with toks:=k}):aL (aQ d e) b (fu (.builtin "str.replace") [.str m c,.str D i,.str ab a]) h j l:=lG (cz l.toks)<|SC.replaceA B C f q (λg k p=>r g k p) n
def NJ(j:rX f=ah){l:aB}(g:Rz c l.heap x f):∃k id,l.TypeIs x k/\qU (.type k) "__getitem__"=bq (I<|.builtin id):=by
 cases f<;>try exact fT j
 exact g.sK λq i=>i▸⟨"str",_,rfl,PySem.F.slot_str_getitem.lookup⟩;exact g.tK λf aa n w b d i=>i▸⟨"tuple",_,⟨_,b,rfl⟩,PySem.F.slot_tuple_getitem.lookup⟩;exact g.lK λf aa n w b d i=>i▸⟨"list",_,⟨_,b,rfl⟩,PySem.F.slot_list_getitem.lookup⟩;exact g.dK λf m n w p b d i=>i▸⟨"dict",_,⟨_,b,rfl⟩,Qu.lookup⟩
section
variable{c:b_}{a5:aB}
def bu.item(m:bu C c t a5 f)(M:bu C c e a5 p)(O:rX f=ah)(n:dJ C qR f p d):bu C c (.Subscript t e h) a5 d:=by intro V S K aa Z q;refine Subscript_<|m V S K _ _ λF I B G=>M I (S.trans B) (K.ext B) _ _ λD J k H=>?_;have j:=(K.ext B).ext k;have l:=(K.ext B).mono k G;obtain⟨ab,id,L,N⟩:=NJ O l;obtain⟨R,P⟩:=N2 (slice:=e) (a4:=F) (i:=D);exact tail_any L N (n c.X c.A c.fuel J F D j l H _ _ λW ae Y U=>q W ae ((B.trans k).trans Y) U) P
theorem bu.slice{lo M st:Option aq}(aa:bu C c a2 a5 am)(U:mL C c (BX<|BS lo c.env) a5 ap)(Z:mL C c (BX<|BS M c.env) a5 a1)(Y:mL C c (BX<|BS st c.env) a5 as) (W:rX am=ah) (V:Ci C am ap a1 as d):bu C c (.Subscript a2 (.Slice lo M st al) an) a5 d:=by
 intro aj m af au ar q;refine Subscript_<|aa aj m af _ _ λK O F N=>?_;have B:=af.ext F;rw[arm_eval_Slice];refine aA (U O (m.trans F) B _ _ λb P k ab=>aA (du (Z P ((m.trans F).trans k) (B.ext k) _ _ λh eH n ad=>
  aA (du<|Y eH (((m.trans F).trans k).trans n) ((B.ext k).ext n) _ _ λp f G ac=>?_))))
 have j:=B.ext k;have H:=j.ext n;have D:=H.ext G;unfold newFields;refine QC ?_ (by size_fits);have J:aw C f {f with heap:=f.heap.push {cls:=.type "slice",data:=.fields [b,h,p].toArray}}:=aw.push;have L:=D.ext J;have I:=D.mono J<|H.mono G<|j.mono n<|B.mono k N;obtain⟨av,id,S,R⟩:=NJ W I;obtain⟨ag,e⟩:=N2 (slice:=.Slice lo M st al) (a4:=K) (i:=.ref f.heap.objs.size);refine tail_any S R (V c.X c.A c.fuel _ K b h p _ L I (fs _ rfl) (D.mono J<|H.mono G<|j.mono n ab) (D.mono J<|H.mono G ad) (D.mono J ac) _ _ λak ae ao ai=>q ak ae (((((F.trans k).trans n).trans G).trans J).trans ao) ai) e
def bu.attr(G:qh t=ah)(H:bu C c t a5 f)(n:pN C (λt=>x9 t m ah) f d):bu C c (.Attribute t m i) a5 d:=by
 intro l b e h j q;refine afK (H l b e _ _ λD p k B=>?_) ?_;exact n c.X c.A c.fuel p D (e.ext k) B _ _ λJ ae ab F=>q J ae (k.trans ab) F;show(do
  let I<-attributeBase t m c.env (cx t c.env)
  gs i.atName
  let F<-gr [I] (x9 I m ah)
  letTemporaryGo t I F
  bq F)=_
 rw[CF G]
def Sx{pos:a8}{d:List (Bool×cA ar)}(j:d.any (·.1)=av):d.all (!·.1)=ah:=by rw[List.any_eq_false]at j;rw[bG];intro m ag;have:=j m ag;simpa using this
def bu.e'(I:qh x=ah)(U:b.length<=20)(ax:(t.endLine==i.line)=ah)(M:bu C c x a5 a)(n:fv C c b a5 ds)(L:mE C a e ds N d)(H:N<=c.fuel):bu C c (.Call (.Attribute x e t) b [] i) a5 d:=by
 intro l S R Y j q;rw[arm_eval_Call,CF I];refine aA<|M l S R _ _ λh p B G=>aA<|dT ?_;have F:Qo (b.length+([]:List Hh).length) (jd i<|hg b c.env) (ou i<|ox [] c.env)=ah:=by unfold Qo;rw[Sx (pos:=i) (n i).2];show(ah&&ah&&decide (b.length+0+0<30))=ah;simp;exact b4 o z
 unfold methodCall;rw[F];obtain⟨T,K⟩:=L;have D:=R.ext B;refine aA<|du ?_;unfold calleeOf;simp only[if_true];refine K c.X c.A c.fuel p h _ D G _ _ λZ first P k J O w=>?_
 dsimp only;refine aA ?_;unfold methodCallPos;rw[if_pos<|by simp[ax]];refine a' ?_;exact Jw J (n i).2 (n i).1 w H ((S.trans B).trans k) (D.ext k) O λW ae ab V=>q W ae ((B.trans k).trans ab) V
set_option tactic.hygienic true in
def bu.replace{b ab:au}{h d5:Nat}(O:qh D=ah)(ax:(m.endLine==i.line)=ah)(S:bu C c D a5 f)(J:Fm f b ab=I d):bu C c (.Call (.Attribute D ("replace":au) m) [.Constant (.str b) h l,.Constant (.str ab) d5 j] [] i) a5 d:=by
 intro ac N X W V q;cases f<;>try exact nS J
 rename_i Y;obtain⟨ag,rfl⟩:=cw J;rw[arm_eval_Call,CF O];refine aA<|S ac N X _ _ λaa p G K=>aA<|dT ?_;cases K;rename_i B;have H:Qo ([PySem.Expr.Constant (.str b) h l,.Constant (.str ab) d5 j].length+([]:List Hh).length) (jd i<|hg [.Constant (.str b) h l,.Constant (.str ab) d5 j] c.env) (ou i<|ox [] c.env)=ah:=rfl;unfold methodCall;rw[H];refine aA<|du ?_;unfold calleeOf;simp only[if_true];refine agF (HK _ _ _) Hd PySem.F.slot_str_replace PySem.F.type_str_replace (λf N=>by cases N) ?_;dsimp only;refine aA ?_;unfold methodCallPos;rw[if_pos<|by simp[ax]];refine a' ?_;have L:∀{B:cA ar}{p:aB},aL (aQ C.prog C.w) c.A B W V p->aL (aQ C.prog C.w) c.A (B>>=λT=>gr [T] u7>>=λZ=>bq T) W V p:=
  λR=>aA<|fh R (λT U J=>aA<|du<|sQ<|a' J) λZ Z Y=>Y
 have n:=X.ext G;unfold hc;refine aA<|du<|BI (x:=cx (.Constant (.str b) h l) c.env) (rest:=[(av,cx (.Constant (.str ab) d5 j) c.env)])<|xX ?_;show aL _ _ (sM b) _ _ _;refine u'<|xX ?_;show aL _ _ (sM ab) _ _ _;refine u'<|a' ?_;refine aA<|dT<|aA<|a'<|L ?_;have M:aw C p {p with toks:=p.toks+1+1}:=aw.tok;exact Sb n.tok (afF _) (f'<|fS _) (of_decide_eq_true ag) (C.booked _ n.ok) λad k P=>q _ _ (G.trans<|M.trans<|aw.tok P)<|.str _ _
end
def eS{f p:Nat}(j:bI f p=ah):f<=p:=afk j
def abt(j:o_ y k=I m):y=("list":au)/\m.1=("range":au)/\∃s w,k=[.Call (.Name m.1 s) m.2 [] w]:=bK j λi a j=>bK j λab l j=>by have q:=cw j;rw[<-q.2];exact⟨bF (aY q.1).1,bF (aY q.1).2,_,_,(m2 a).trans<|congrArg (λm=>[m])<|A' l⟩
def abr(j:o_ y k=I (e,x)):y=("list":au)/\e=("range":au)/\∃s w,k=[.Call (.Name e s) x [] w]:=abt j
def Xc(j:DF a b t=I y):∃s,t=.Name y s/\a.global y=ah:=bK j λab l j=>⟨ab.2,(cw j).2▸jy l,(cw j).2▸(aY (cw j).1).1⟩
def ZL(j:mW k=I m):m.1=("list":au)/\m.2.1=("range":au)/\∃a s w q,k=.Call (.Name m.1 a) [.Call (.Name m.2.1 s) m.2.2.1 [] w] [] q::m.2.2.2:=bK j λi f j=>bK j λab l j=>bK j λt d j=>bK j λb n j=>by have q:=cw j;have g:=aY (aY q.1).1;rw[<-q.2];refine⟨bF g.1,bF g.2,ab.2.1,b.2.1,b.2.2.2,ab.2.2.2,(Lk f).trans (congrArg (·::k.tail)<|(A' l).trans ?_)⟩;rw[m2 d,A' n]
def ZK(j:mW k=I (y,e,x,a)):y=("list":au)/\e=("range":au)/\∃m s w q,k=.Call (.Name y m) [.Call (.Name e s) x [] w] [] q::a:=ZL j
def YZ(j:tI r k=I c):r=("replace":au)/\∃d l d5 s,k=[.Constant (.str c.1) d l,.Constant (.str c.2) d5 s]:=bK j λq t j=>bK j λf n j=>bK j λp g j=>by have i:=cw j;obtain⟨d,l,aC⟩:=AV n;obtain⟨d5,s,aM⟩:=AV g;rw[<-i.2];exact⟨bF i.1,d,l,d5,s,by rw[ES t,aC,aM]⟩
def YY(j:tI r k=I (a,b)):r=("replace":au)/\∃c l d5 s,k=[.Constant (.str a) c l,.Constant (.str b) d5 s]:=YZ j
def acN(j:n' k=I m):∃s,k=[.Starred m s]:=bK j λi f j=>fm j λab l q=>⟨ab.2,by rw[m2 f,aef l,q]⟩
def ach{q}(j:xc c=I q):∃s,c=.Slice q.1 q.2.1 q.2.2 s:=fm j λab l a=>⟨ab.2.2.2,a▸aee l⟩
set_option maxHeartbeats 1000000 in
def Mc(R:dv C O N)(aB:hH C O N n)(P:b1 C g G a1 B)(af:N<=g.fuel)(ak:G.global "list"=ah)(am:G.global "range"=ah)(aj:fj O n G a1 f=I D)(ao:eo D=I ac)(aF:aw C B F)(J:bf C g.X g.A g.fuel F)(q:∀W ae aa aE,aw C F ae->F.heap.get? W=ai->ae.heap.get? W=I ⟨.type "list",ai,.seq ⟨aa⟩ aE,#[]⟩->¬g.X W->RzL g.X ae.heap aa ac->bd (.ref W) ae):aL (aQ C.prog C.w) g.A (cx (.Call (.Name ("list":au) j) [.Call (.Name ("range":au) a2) f [] y] [] e) g.env) bd be F:=by rw[show cx (.Call (.Name ("list":au) j) [.Call (.Name ("range":au) a2) f [] y] [] e) g.env=(cx (.Name "list" j) g.env>>=λY=>hc e Y [] (jd e [(av,cx (.Call (.Name ("range":au) a2) f [] y) g.env)]) [])from rfl];refine aA<|kx (p:=j) P ak R.list F J _ _ ?_;unfold hc;refine aA<|du ?_;refine BI<|xX<|Nd (kx P am R.range) (aB.jS _ _ _ _ _ _ P af aj) ao rfl aF J λy ar ax k aG aH Y d H ag V T=>?_;refine a' ?_;refine aA<|dT<|aA<|a' ?_;obtain⟨ab,aC,ad⟩:=AF V;have U:=Nc ar ax k;show aL _ _ (fu (.type "list") [.ref y] []>>=λy=>gr [y] u7>>=λZ=>bq y) _ _ _;refine aA<|lG (cz d.toks)<|call_list_range J.handled ag ab (n:=(kd ar ax k).toNat) (og U).symm (O6.mpr<|j9 ad z) λal ap L az kp M K ay=>?_;refine aA<|du<|sQ<|a' ?_;have aq:aw C d {d with heap:=al,toks:=ap}:=aw.of_keep kp;obtain⟨aa⟩:=L;refine q _ _ aa _ (H.trans aq) (H.old J<|g7 _) M (J.ext H).fresh ?_;rw[T];exact Yk (by simpa using K.1) λaD Y an=>K.2 aD Y (by simpa using an)
def VO(B:dv C O N)(R:hH C O N n)(L:b1 C e a f k)(F:N<=e.fuel)(J:a.global "list"=ah)(K:a.global "range"=ah)(H:fj O n a f d=I b)(M:eo b=I g):bu C e (.Call (.Name "list" j) [.Call (.Name "range" t) d [] w] [] i) k (.list g):=by intro ab T D W V q;exact Mc B R L F J K H M T D λX ae aa Y U Z A G P=>q _ _ U<|.list G A P
def T4(H:eO C p)(I:d.any (·.1)=av)(N:jL C a d k m)(O:aw C k b)(K:bf C a.X a.A a.fuel b)(G:aL (aQ C.prog C.w) a.A B (λL D=>aw C b D/\∀aa q,aw C D q->RzL a.X q.heap aa m->aL (aQ C.prog C.w) a.A (fu p (L::aa) []) r j q) j b):aL (aQ C.prog C.w) a.A (hc i p [] ((av,B)::d) []) r j b:=by refine vK (first:=[]) (by rw[O9,I];rfl)<|BI<|xX<|fh G (λL D F=>?_) λZ Z M=>M;obtain⟨J,F⟩:=F;exact N D (O.trans J) (K.ext J) _ _ λaa q ab n=>⟨rfl,H q.heap ((K.ext J).ext ab).ok,F aa q ab n⟩
def aw.aal(m:aw C l ae)(A:l.heap.get? d=ai)(c:dB C [d] ae dj):aw C l dj:=by refine⟨?_,λp B i k=>c.keep p B (m.keep p B i k) k λn=>?_,λp k r i=>?_,λg=>c.ok<|m.ok g,ao m.toks c.toks⟩;obtain⟨j,f,rfl⟩:=m.same;obtain⟨D,q,rfl⟩:=c.same;exact⟨_,_,rfl⟩;replace n:=c_.mp n;subst n;rw[A]at i;cases i;obtain⟨y,i⟩:=m.tabs p k r i;obtain⟨a,i⟩:=c.tabs p k _ i;exact⟨y++a,by rw[i,uE]⟩
noncomputable def vp:List (ar×ar)->List (au×af)->Prop|[],[]=>True|(k,a)::r,(m,d)::p=>(∃b,k=.str m b)/\(∀c j,Rz c j a d)/\vp r p|_,_=>False
inductive sR:List (Option aq)->List aq->List (Str×af)->Prop
 |nil:sR [] [] []
 |int {x wo bX i d5 E3 wq aa r}:sR wq aa r->sR (some (.Constant (.str x) wo bX)::wq) (.Constant (.int i) d5 E3::aa) ((x,.int i)::r)
 |str {x wo bX y d5 E3 wq aa r}:sR wq aa r->sR (some (.Constant (.str x) wo bX)::wq) (.Constant (.str y) d5 E3::aa) ((x,.str y)::r)
def Ka:∀{aa:List aq}{p:List (au×af)},vU a aa=some p->sR a aa p:=by
 induction a with
 |nil=>
  intro aa p j;induction aa using bb with|nil=>exact aZ j▸.nil|cons=>exact nS j
 |cons k a g=>
  intro aa p j;induction aa using bb with
  |nil=>exact nS j
  |cons t aa=>
   refine bK j λm ag j=>bK j λd f j=>fm j λw c A=>bK ag λB q ag=>?_;obtain⟨C,l,aC⟩:=AV ag;rw[q,aC,<-A];induction n:ph t using b6 with
   |some E=>
    obtain⟨d5,s,aM⟩:=AV n;replace f:(ph t).elim ((wk t).map af.int) (λm=>some<|.str m)=some d:=f;rw[n]at f;rw[aM,<-aZ f];exact .str<|g c
   |none=>
    replace f:(ph t).elim ((wk t).map af.int) (λm=>some<|.str m)=some d:=f;rw[n]at f;refine fm f λD b bU=>?_;obtain⟨d5,s,aM⟩:=XQ b;rw[aM,<-bU];exact .int<|g c
def Mf(s:∃e,k=.str m e)(l:∀c j,Rz c j a d)(b:vp r p):vp ((k,a)::r) ((m,d)::p):=⟨s,l,b⟩
def Y0:∀{a:List (Option aq)}{aa:List aq}{p:List (au×af)}{l:aB}{b:List (ar×ar)->aB->Prop},vU a aa=I p->(∀r f,l.toks<=f->vp r p->b r {l with toks:=f})->aL (aQ C.prog C.w) k (evalPairs<|pairTrees a aa c i) b j l:=by
 intro a aa p l b m;replace m:=Ka m;induction m generalizing l b with
 |nil=>exactλq=>pairTrees_nil_walk<|q [] l.toks (cz _) trivial
 |int Z g=>
  refineλq=>agK ?_;show aL _ _ (sM _) _ _ _;refine u' ?_;show aL _ _ (HC _) _ _ _;refine wpAny_mkInt ?_;exact g λr f e d=>q _ _ (ao (cv _ 2) e)<|Mf ⟨_,rfl⟩ (λn m=>.int _ _) d
 |str Z g=>
  refineλq=>agK ?_;show aL _ _ (sM _) _ _ _;refine u' ?_;show aL _ _ (sM _) _ _ _;refine u' ?_;exact g λr f e d=>q _ _ (ao (cv _ 2) e)<|Mf ⟨_,rfl⟩ (λn m=>.str _ _) d
theorem Me:∀{r:List (ar×ar)}{g:List (au×af)},vp r g->∃q:List (au×ar),Carries (strKind C.prog C.w) r q/\q.map (·.1)=g.map (·.1)/\∀D A B,Pairs (strKind C.prog C.w) B q->dh D A B g
 |[],[]=>@λZ=>⟨[],trivial,rfl,λD A B H=>by cases H;exact .nil⟩
 |[],Z::j=>@λA=>A.elim
 |Z::j,[]=>@λA=>A.elim
 |(k,y)::r,(m,d)::g=>@λA=>by
  obtain⟨⟨M,rfl⟩,G,F⟩:=A
  obtain⟨q,K,E,ax⟩:=Me F
  refine⟨(m,y)::q,⟨strKind_is _ _ m M,rfl,K⟩,by simp[E],λD A B H=>?_⟩
  cases H with
  |@cons i Z l j f s n=>
   obtain⟨L,I,J⟩:=i;obtain⟨N,rfl⟩:=Value.isStrOf_shape f;dsimp only at s;subst s;exact .cons (G D A)<|ax D A l n
theorem L5:∀{d:List au},o1 d=ah->d.Nodup
 |[]=>@λZ=>Bv
 |x::d=>@λj=>by
  unfold o1 at j
  simp only[bY,ew,hA,decide_eq_false_iff_not]at j
  exact uP.mpr ⟨j.1,L5 j.2⟩
def Vh{aa:List aq}(j:vU a aa=I p):a.all (·.isSome)=ah/\a.length=aa.length/\a.length=p.length:=by replace j:=Ka j;induction j with|nil=>exact⟨rfl,rfl,rfl⟩|int Z g=>exact⟨g.1,congrArg (·+1) g.2.1,congrArg (·+1) g.2.2⟩|str Z g=>exact⟨g.1,congrArg (·+1) g.2.1,congrArg (·+1) g.2.2⟩
def VL{aa:List aq}(R:J_ ac aa=I d):bu C a1 (.Dict ac aa am) al d:=by intro ag au P as ar q;refine bK R λO J R=>?_;obtain⟨k,rfl⟩:=cw R;simp only[bY,ew]at k;obtain⟨U,l,G⟩:=Vh J;have W:=eS k.2;refine wpAny_Dict_walk (knd:=strKind C.prog C.w) U l (λi=>?_) (ao (bQ o) o) ?_;rw[i]at G;have:O=[]:=Pl.mp G.symm;rw[this]at k;simp at k;refine Y0 J λab ap Y r=>?_;obtain⟨a,A,y,ax⟩:=Me (C:=C) r;have M:ab.length=a.length:=A.length.symm;refine⟨a,A,⟨_,_,_,fs _ rfl,⟨rfl,rfl,rfl⟩,rfl,λi V=>by simp at V,Pairs.nil,Bv⟩,λS K X=>?_⟩;rw[merged_nil_of_nodup _ (by rw[y];exact L5 k.1.1)]at K;obtain⟨⟨ad,af,ae,ak⟩,ai,ah,n,⟨B,f,D⟩,H,L,j,Z⟩:=K;dsimp only at B f D H;subst B f D H;have F:=P.fresh;have aj:¬C.T ag.heap.objs.size:=λan=>F<|P.a_ _ an;have m:∀p N,ag.heap.get? p=I N->S.get? p=I N:=λp N i=>(X.2 p<|f'<|il i).trans<|fA _ i;refine q _ _ (aw.of_keep m<|ao Y<|cv _ _) (.dict F (by obtain⟨N,i⟩:=C.N_ _ P.ok;exact beq_eq_false_iff_ne.mpr λq=>absurd (il i) (by rw[<-q];exact qG _)) n<|ax _ _ _ j)
section
variable(es:dv C O N)(h:hH C O N n){S:a0}{aK:cf}{d:af}{c:b_}{a5:aB}(d4:b1 C c S aK a5)(gi:N<=c.fuel)
include es h d4 gi
theorem VK(f:bh O (n+1) S aK (.Constant t m s)=I d):bu C c (.Constant t m s) a5 d:=by
 cases t<;>try exact nS f
 exact aZ f▸bu.none;exact aZ f▸bu.bool;exact aZ f▸bu.int;exact aZ f▸bu.float;exact aZ f▸bu.str
theorem VQ(f:bh O (n+1) S aK (.Name m a)=some d):bu C c (.Name m a) a5 d:=by
 replace f:(match aK.lookup m with
   |some d=>some d
   |none=>if S.global m=ah then O.const m else none)=some d:=f
 induction r:aK.lookup m using b6 with
 |some t=>
  rw[r]at f;exact aZ f▸bu.name (d4.names m _ r) d4.a_
 |none=>
  rw[r]at f;have i:=g8 f;obtain⟨B,k,w⟩:=es.const m d i.2;exactλl b A h j q=>kx d4 i.1 k l A _ _<|q B l (aw.refl l)<|w _ _
theorem VI(f:bh O (n+1) S aK (.Compare x i j s)=I d):bu C c (.Compare x i j s) a5 d:=by
 match i,j,f with
 |[g],[w],f=>
  replace f:(if nu g w=ah then ai else(bh O n S aK x).bind λE=>(bh O n S aK w).bind λF=>(O.cmp g E F).map af.bool)=I d:=f
  split at f
  exact nS f
  rename_i D
  exact bK f λE A f=>bK f λF q f=>fm f λk B G=>G▸bu.cmp (h.dN _ _ _ _ _ _ d4 gi A) (h.dN _ _ _ _ _ _ d4 gi q) (es.cmp _ _ _ _ B) ((r' _).mp D)
 |[],Z,f=>exact nS f
 |[Z],[],f=>exact nS f
 |[Z],t::y::m,f=>exact nS f
 |Z::t::y,m,f=>exact nS f
theorem VS(g:bh O (n+1) S aK (.Subscript f e s)=some d):bu C c (.Subscript f e s) a5 d:=by
 induction A:xc e using b6 with
 |none=>
  have g:=(congrArg (BG · _ _) A).symm.trans g;exact bK g λE y g=>bK g λF B g=>(es.item _ _ _ g).elim λm x=>bu.item (h.dN _ _ _ _ _ _ d4 gi y) (h.dN _ _ _ _ _ _ d4 gi B) m x
 |some q=>
  have g:=(congrArg (BG · _ _) A).symm.trans g;obtain⟨j,rfl⟩:=ach A;exact bK g λE y g=>bK g λG r g=>bK g λH D g=>bK g λk w g=>(es.slice _ _ _ _ _ g).elim λm x=>bu.slice (h.dN _ _ _ _ _ _ d4 gi y) (h.Dt _ _ _ _ _ _ d4 gi r) (h.Dt _ _ _ _ _ _ d4 gi D) (h.Dt _ _ _ _ _ _ d4 gi w) m x
theorem VG(B:bh O (n+1) S aK (.Attribute t m b)=some d):bu C c (.Attribute t m b) a5 d:=by
 induction k:DF S aK t using b6 with
 |some K=>
  have B:=(congrArg (BG · _ _) k).symm.trans B;obtain⟨H,rfl,r⟩:=Xc k;obtain⟨i,w,e⟩:=es.h9 _ _ _ B;exactλl L G I j q=>afK (kx d4 r w l G _ _<|e c.X c.A c.fuel l G _ _ q) rfl
 |none=>
  have B:=(congrArg (BG · _ _) k).symm.trans B;exact iK B λF B=>bK B λJ D B=>bu.attr F (h.dN _ _ _ _ _ _ d4 gi D)<|es.attr _ _ _ B
def VP(f:bh O (n+1) S aK (.Call (.Attribute x r t) k [] s)=some d):bu C c (.Call (.Attribute x r t) k [] s) a5 d:=by
 refine iK f λw f=>bK f λD j f=>?_;induction i:tI r k using b6 with
 |some e=>
  obtain⟨b,ab⟩:=e;rw[i]at f;obtain⟨rfl,A,l,d5,B,rfl⟩:=YY i;exact bu.replace (aY (aY w).1).1 (aY w).2 (h.dN _ _ _ _ _ _ d4 gi j) f
 |none=>
  rw[i]at f;exact bK f λg q f=>bu.e' (aY (aY w).1).1 (eS (aY (aY w).1).2) (aY w).2 (h.dN _ _ _ _ _ _ d4 gi j) (h.jS _ _ _ _ _ _ d4 gi q) (es.e' _ _ _ _ f) gi
def VM(w:bh O (n+1) S aK (.Call (.Name b a) k [] ac)=some d):bu C c (.Call (.Name b a) k [] ac) a5 d:=by
 have aj:=g8 w;clear w;have Y:=(aY aj.1).1;have w:=aj.2;clear aj;induction U:n' k using b6 with
 |some aV=>
  rw[U]at w;obtain⟨aT,rfl⟩:=acN U;refine bK w λcG ag w=>bK w λB F w=>iK w λaL w=>?_;obtain⟨t,P,V,M⟩:=es.call _ _ _ w;intro aR aG aw aX aW q;rw[show cx (.Call (.Name b a) [.Starred aV aT] [] ac) c.env=(cx (.Name b a) c.env>>=λt=>hc ac t [] [(ah,cx aV c.env>>=λt=>gs ac>>=λZ=>bq t)] [])from rfl];refine aA<|kx (p:=a) d4 Y P aR aw _ _ ?_;refine T5 V (d:=cG) ?_ F (eS aL) aG aw λaa ae ab a3=>M c.X c.A ae aa ((aw.ext ab).fuel gi) a3 _ _ λt dj aU aM=>q t dj (ab.trans aU) aM;intro an ao i aI aH al;exact aA<|h.dN _ _ _ _ _ _ d4 gi ag an ao i _ _ λt H ap am=>aA<|dT<|a'<|al t H ap am
 |none=>
 rw[U]at w;replace w:(o_ b k).elim ((mW k).elim ((fj O n S aK k).bind λB=>O.call b B) λG=>
     if(S.global G.1&&(aK.lookup G.1).isNone&&S.global G.2.1&&(aK.lookup G.2.1).isNone)=ah then(fj O n S aK G.2.2.1).bind λaN=>(eo aN).bind λaz=>(fj O n S aK G.2.2.2).bind λB=>O.move b az B else none) (λj=>if(S.global j.1&&(aK.lookup j.1).isNone)=ah then(fj O n S aK j.2).bind λB=>(eo B).map .list else none)=some d:=w
 induction T:o_ b k using b6 with
 |some j=>
  obtain⟨aw,ad⟩:=j;rw[T]at w;obtain⟨rfl,rfl,a2,a4,rfl⟩:=abr T;exact iK w λK w=>bK w λaq af w=>fm w λB ak aZ=>aZ▸VO es h d4 gi Y (aY K).1 af ak
 |none=>
 rw[T]at w;induction R:mW k using b6 with
 |some G=>
  obtain⟨vj,aw,ad,W⟩:=G;rw[R]at w;obtain⟨rfl,rfl,aC,aD,aE,aF,rfl⟩:=ZK R;refine iK w λK w=>bK w λaq af w=>bK w λaz ak w=>bK w λB F w=>?_;have ax:=(aY (aY (aY K).1).1).1;have ay:=(aY (aY K).1).2;obtain⟨t,P,V,M⟩:=es.move _ _ _ _ w;intro aR aG N aX aW q;rw[show cx (.Call (.Name b a) (.Call (.Name ("list":au) aC) [.Call (.Name ("range":au) aD) ad [] aE] [] aF::W) [] ac) c.env=(cx (.Name b a) c.env>>=λt=>hc ac t [] ((av,cx (.Call (.Name ("list":au) aC) [.Call (.Name ("range":au) aD) ad [] aE] [] aF) c.env)::jd ac (hg W c.env)) [])from rfl];refine aA<|kx (p:=a) d4 Y P aR N _ _ ?_;have J:=h.jS _ _ _ _ _ _ d4 gi F;refine T4 V (J ac).2 (J ac).1 aG N ?_;refine Mc es h d4 gi ax ay af ak aG N λa0 ae aa a1 I L ai aJ aO=>⟨I,λaS H D aP=>?_⟩;have i:=N.ext I;have ar:=N.gg L;refine M c.X c.A H a0 aa aS a1 ((i.ext D).fuel gi) (D.keep _ _ ai ar.1) aJ ar.2.1 (i.gn D aO) aP _ _ λt eH aB aQ=>q t eH ((I.trans D).aal L aB) aQ
 |none=>
  rw[R]at w;refine bK w λB F w=>?_;obtain⟨t,P,V,M⟩:=es.call _ _ _ w;exact bu.call (kx d4 Y P) (h.jS _ _ _ _ _ _ d4 gi F) M gi V rfl
theorem VH(f:bh O (n+1) S aK (.Call cL k b s)=I d):bu C c (.Call cL k b s) a5 d:=by
 cases cL<;>try exact nS f
 induction b using bb with|cons Z t=>exact nS f|nil=>exact VP es h d4 gi f
 induction b using bb with|cons Z t=>exact nS f|nil=>exact VM es h d4 gi f
theorem VN(f:bh O (n+1) S aK (.ListComp b a l s)=I d):bu C c (.ListComp b a l s) a5 d:=by
 induction a using bb with
 |nil=>exact nS f
 |cons D E=>
  obtain⟨m,A,q,k⟩:=D;refine iK f λj f=>bK f λy r f=>bK f λB t f=>bK f λx w f=>?_;have i:=cw f;have j:k=0:=bF j;subst j;exact i.2▸VJ es h d4 gi r t w (eS i.1)
end
set_option tactic.hygienic true in
set_option maxHeartbeats 1000000 in
theorem acm(j:dv C O N)(i:hH C O N n):∀J G D d H A,b1 C H J G A->N<=H.fuel->bh O (n+1) J G D=I d->bu C H D A d:=by
 intro J G D d H A y g f;cases D<;>first|exact nS f|exact VK j i y g f|exact VQ j i y g f|exact VI j i y g f|exact VS j i y g f|exact VG j i y g f|exact VH j i y g f|exact VN j i y g f|skip
 case Tuple w m s=>exact bK f λK B f=>(λD=>D.2▸bu.tuple (i.jS _ _ _ _ _ _ y g B) (eS D.1))<|cw f
 case List w s=>exact bK f λK B f=>(λD=>D.2▸bu.list (i.jS _ _ _ _ _ _ y g B) (eS D.1))<|cw f
 case BinOp T M U s=>exact bK f λP F f=>bK f λQ L f=>bu.binop (i.dN _ _ _ _ _ _ y g F) (i.dN _ _ _ _ _ _ y g L)<|j.bin _ _ _ _ f
 case UnaryOp M W s=>exact bK f λP F f=>bu.unop (i.dN _ _ _ _ _ _ y g F)<|j.un _ _ _ f
 case IfExp V P Q s=>
  refine bK f λk E f=>?_;induction k using bz with|true=>exact bu.DT (i.lZ _ _ _ _ _ _ y g E) (λZ=>i.dN _ _ _ _ _ _ y g f) (λq=>nomatch q)|false=>exact bu.DT (i.lZ _ _ _ _ _ _ y g E) (λq=>nomatch q) λZ=>i.dN _ _ _ _ _ _ y g f
 case Dict R aa s=>exact VL f
theorem eN(j:dv C O N):∀n,hH C O N n
 |0=>acu O N
 |n+1=>
  have a:=eN j n
  ⟨acm j a,acn a,aco j a,acj j a,ack a,acr a,acq j a,λZ Z Z Z Z b=>acp _ _ _ _ _ b,acs j a⟩
end
mutual
noncomputable def eD:af->Bool|.tuple d=>gC d|.list _=>av|.obj _ _=>av|.dict _=>av|_=>ah
noncomputable def gC:List af->Bool|[]=>ah|d::a=>eD d&&gC a
end
inductive kV where
 |val (d:af)
 |own (l:List af)
abbrev aG:=List<|au×kV
noncomputable def kV.data:kV->af|.val d=>d|.own a=>.list a
noncomputable def kV.isVal:kV->Bool|.val _=>ah|.own _=>av
def aG.plus(σ:aG):cf:=σ.map λs=>(s.1,s.2.data)
def aG.strict(σ:aG):cf:=(σ.filter λs=>s.2.isVal).map λs=>(s.1,s.2.data)
def aG.pure(σ:aG):Bool:=σ.all λs=>s.2.isVal
noncomputable def aG.set(σ:aG)(m:au)(t:kV):aG:=(m,t)::σ.filter λs=>!(s.1==m)
def aG.vals(σ:aG)(f:cf):aG:=f.foldr (λs σ=>aG.set σ s.1<|.val s.2) σ
inductive h3 where
 |next (σ:aG)
 |brk (σ:aG)
 |cont (σ:aG)
 |ret (d:af)
noncomputable def FU(y:au->Bool)(b:Nat):aq->Option au|.Name id i=>if y id&&i.line==b then I id else ai|_=>ai
def FV(a:a0)(b:Nat):aq->Option au:=FU (λid=>a.sc.names.lookup id==I .local) b
def AW(a:a0)(a9 aa:List aq):Option Bool:=if !(a9.length==2||a9.length==3)||aa.length !=a9.length then I av else if aa.any eM then I av else
  let d:=a9.filterMap (FV a ((a9.head?.map (·.pos.line)).getD 0))
  if d.length !=a9.length||d.eraseDups.length !=d.length then I av
  else if aa.all (Qi 8)then I av
  else if aa.all (Qf 8)then ai
  else I ah
def xr(i:aq):Option (List aq):=(j7 i).map (·.1)
def rh(a:a0)(m i:aq)(d:af):Option cf:=(j7 m).elim ((fo m).bind λ_=>eR a m d []) λab=>(uk d).bind λg=>(xr i).elim (hF a ab.1 g []) λaa=>
 (AW a ab.1 aa).bind λn=>if n then hF a ab.1.reverse g.reverse []else hF a ab.1 g []
noncomputable def s'(a:a0):List aq->af->cf->Option cf|[],_,f=>I f|t::a9,d,f=>(pR a t d f).bind λc=>s' a a9 d c
def ru(i:aq):Bool:=(ux i).isSome||(qu i).elim av λab=>(fo ab.1).isSome&&ab.2.1==.Add
noncomputable def oY:af->Nat->Option Nat|.int c,y=>if 0<=c/\c.toNat<y/\y<=1000000 then I c.toNat else ai|_,_=>ai
def i3(a:a0)(m:au):Bool:=a.own.contains m&&jo m
noncomputable def lL:Option kV->Option (List af)|some (.own d)=>some d|_=>ai
def ub(a:a0)(σ:aG)(i:aq):Option (List aq):=(uy i).bind λab=>if ab.1==("range":au)&&a.global ab.1&&(σ.plus.lookup ab.1).isNone then I ab.2.2.1 else ai
def rN(i:aq):Option (au×aq):=(pq i).bind λab=>(fo ab.1).bind λb=>(i2 ab.2.2.2.1).bind λf=>if ab.2.1==("pop":au)&&ab.2.2.1.endLine==ab.2.2.2.2.line&&!eM f then I (b.1,f)else ai
def IA(h:cY)(a:a0)(y:Nat)(σ:aG)(a9:List aq)(i:aq):Option h3:=(bh h y a σ.plus i).bind λd=>if σ.pure||eD d then(s' a a9 d []).map λf=>.next (σ.vals f)else ai
def IB(h:cY)(a:a0)(y:Nat)(σ:aG)(k i:aq):Option h3:=(bh h y a σ.plus i).bind λd=>if σ.pure||eD d then(rh a k i d).map λf=>.next (σ.vals f)else ai
mutual
noncomputable def a6(h:cY)(b:a0)(x:List au):Nat->aG->List aP->Option h3
 |0,_,_=>ai
 |n+1,σ,aU=>match aU with
  |[]=>I<|.next σ
  |st::a=>(ee h b x n σ st).bind λr=>match r with
   |.next aX=>a6 h b x n aX a
   |r=>I r
noncomputable def ee(B:cY)(A:a0)(E:List au):Nat->aG->aP->Option h3
 |0,_,_=>none
 |n+1,σ,st=>match st with
  |.Assign a9 i _=>(i2 a9).elim (if a9.isEmpty then none else IA B A n σ a9 i) λh=>(ps h).elim ((fo h).elim ((j7 h).elim none λ_=>IB B A n σ h i) λab=>
    if E.contains ab.1 then(if ru i&&i3 A ab.1 then(bh B n A σ.plus i).bind nB |>.bind λq=>if gC q then some (.next<|σ.set ab.1<|.own q)else none else none)else IB B A n σ h i)
   λab=>(fo ab.1).bind λC=>(lL<|σ.lookup C.1).bind λc=>(bh B n A σ.plus i).bind λd=>(bh B n A σ.plus ab.2.1).bind λk=>(oY k c.length).bind λF=>if eD d then some (.next<|σ.set C.1<|.own<|c.set F d)else none
  |.AugAssign h g i _=>(fo h).bind λab=>if !i3 A ab.1 then none else(bh B n A σ.plus i).bind λp=>match σ.lookup ab.1 with|some (.val f)=>(B.aug g f p).bind λd=>if σ.pure||eD d then some (.next<|σ.set ab.1<|.val d)else none|some (.own c)=>if g==.Add then(nB p).bind λq=>if gC q&&bI (c.length+q.length) 1000000 then some (.next<|σ.set ab.1<|.own<|c++q)else none else none|none=>none
  |.Expr w _=>(pq w).bind λab=>(fo ab.1).bind λC=>(i2 ab.2.2.2.1).elim (if ab.2.2.2.1.isEmpty&&(ab.2.1==("reverse":au)&&ab.2.2.1.endLine==ab.2.2.2.2.line)then(lL<|σ.lookup C.1).bind λc=>if bI c.length 1000000 then some (.next<|σ.set C.1<|.own c.reverse)else none else none)
   λi=>if ab.2.1==("append":au)&&ab.2.2.1.endLine==ab.2.2.2.2.line then
    (rN i).elim ((lL<|σ.lookup C.1).bind λc=>(bh B n A σ.plus i).bind λd=>if eD d&&bI c.length 1000000 then some (.next<|σ.set C.1<|.own<|c++[d])else none) λdR=>
     if C.1==dR.1 then none else(lL<|σ.lookup C.1).bind λc=>(lL<|σ.lookup dR.1).bind λG=>(bh B n A σ.plus dR.2).bind λk=>(oY k G.length).bind λF=>(G[F]?).bind λd=>
      if eD d&&bI c.length 1000000 then some (.next<|aG.set (σ.set dR.1<|.own<|G.eraseIdx F) C.1<|.own<|c++[d])else none
   else none
  |.If h p x _=>(fB B n A σ.plus h).bind λk=>if k then a6 B A E n σ p else a6 B A E n σ x
  |.Return (some i) _=>(bh B n A σ.plus i).map .ret
  |.Return none _=>some<|.ret .none
  |.Break _=>some<|.brk σ
  |.Continue _=>some<|.cont σ
  |.Pass _=>some<|.next σ
  |.While h p [] _=>xB B A E n σ h p
  |.For m s p [] _=>((ub A σ s).elim ((er B n A σ.strict m s).bind λq=>if σ.pure||gC q then some q else none) λD=>(fj B n A σ.plus D).bind eo).bind λq=>uA B A E n σ m p q
  |_=>none
noncomputable def xB(h:cY)(c:a0)(x:List au):Nat->aG->aq->List aP->Option h3
 |0,_,_,_=>ai
 |n+1,σ,a,p=>(fB h n c σ.plus a).bind λk=>if k then(a6 h c x n σ p).bind λw=>match w with
   |.next aX=>xB h c x n aX a p
   |.cont aX=>xB h c x n aX a p
   |.brk aX=>I<|.next aX
   |.ret d=>I<|.ret d
  else I (.next σ)
noncomputable def uA(h:cY)(a:a0)(x:List au):Nat->aG->aq->List aP->List af->Option h3
 |0,_,_,_,_=>ai
 |n+1,σ,m,p,g=>match g with
  |[]=>I<|.next σ
  |d::g=>(eR a m d []).bind λf=>(a6 h a x n (σ.vals f) p).bind λw=>match w with
   |.next aX=>uA h a x n aX m p g
   |.cont aX=>uA h a x n aX m p g
   |.brk aX=>I<|.next aX
   |.ret d=>I<|.ret d
end
section
variable{C:bS}
theorem wy{α:Type}{x y:Str}:∀{σ:List (Str×α)},(y==x)=false->(σ.filter λp=>!(p.1==x)).lookup y=σ.lookup y
 |[]=>@λZ=>rfl
 |(ab,v)::r=>@λh=>by
  rw[List.filter_cons]
  by_cases zM:(ab==x)=true
  have XB:ab=x:=eq_of_beq zM
  subst XB
  simp only[zM,Bool.not_true,Bool.false_eq_true,if_false]
  rw[wy h,List.lookup_cons,h]
  simp only[Bool.not_eq_true]at zM
  simp only[zM,Bool.not_false,if_true]
  rw[List.lookup_cons,List.lookup_cons,wy h]
def kI{σ:aG}:(σ.set m t).lookup b=if(b==m)=true then I t else σ.lookup b:=by unfold aG.set;rw[ey];induction j:b==m using bz with|true=>rfl|false=>simpa using wy j
theorem s6{s:Type}{y:au×s->Bool}:∀{σ:List (au×s)},dM (σ.map (·.1))=ah->dM ((σ.filter y).map (·.1))=ah
 |[]=>@λj=>j
 |p::w=>@λj=>by
  rw[c8]at j
  unfold dM at j
  simp only[bY,ew,hA,decide_eq_false_iff_not]at j
  rw[iM]
  split
  rw[c8]
  unfold dM
  simp only[bY,ew,hA,decide_eq_false_iff_not]
  refine⟨λq=>j.1 ?_,s6 j.2⟩
  rw[ez]at q ⊢
  obtain⟨ab,l,i⟩:=q
  exact⟨ab,(dP.mp l).1,i⟩
  exact s6 j.2
def rY{σ:aG}(j:dM (σ.map (·.1))=ah):dM ((σ.set m t).map (·.1))=ah:=by unfold aG.set;rw[c8];unfold dM;simp only[bY,ew,hA,decide_eq_false_iff_not];refine⟨λq=>?_,s6 j⟩;rw[ez]at q;obtain⟨ab,l,i⟩:=q;have:=(dP.mp l).2;rw[i]at this;simp at this
theorem Gk{σ:aG}:∀{aK:cf},dM (σ.map (·.1))=ah->dM ((σ.vals aK).map (·.1))=ah|[]=>@λj=>j|p::w=>@λj=>rY<|Gk (aK:=w) j
theorem A2{σ:aG}{y:Str}:∀{aK:cf},(σ.vals aK).lookup y=match aK.lookup y with|some d=>some (.val d)|none=>σ.lookup y
 |[]=>rfl
 |p::r=>by
  show(aG.set (σ.vals r) p.1<|.val p.2).lookup y=_
  rw[kI,List.lookup_cons]
  induction h:y==p.1 using bz with|true=>rfl|false=>simpa using A2 (aK:=r)
theorem M3{σ:aG}{b:au}{d:af}:∀{σ:aG},σ.plus.lookup b=I d->∃t,σ.lookup b=I t/\t.data=d
 |[]=>@λj=>by cases j
 |p::w=>@λj=>by
  unfold aG.plus at j
  rw[c8,ey]at j
  rw[ey]
  induction q:b==p.1 using bz with|true=>rw[q]at j;exact⟨_,rfl,by simpa using j⟩|false=>rw[q]at j;exact M3 (σ:=σ) j
theorem gq:∀{σ:aG},dM (σ.map (·.1))=true->(σ.strict.lookup y=some d↔σ.lookup y=some (.val d))
 |[]=>@λZ=>by simp[aG.strict]
 |(ab,a)::w=>@λj=>by
  have h0:=j
  rw[c8]at j
  unfold dM at j
  simp only[bY,ew,hA,decide_eq_false_iff_not]at j
  have g:=gq (y:=y) (d:=d) (σ:=w) j.2
  have k:(y==ab)=true->w.lookup y=none:=by intro i;have i:=bF i;subst i;induction n:w.lookup y using b6 with|none=>rfl|some p=>exact absurd (lD (f:=(·.1))<|mem_of_lookup n) j.1
  unfold aG.strict at g ⊢
  rw[iM,ey]
  cases a with
  |val t=>
   simp only[kV.isVal,if_true,c8,ey];induction m:y==ab using bz with|true=>simp[kV.data]|false=>exact g
  |own c=>
   simp only[kV.isVal,j8,if_false];induction m:y==ab using bz with
   |true=>
    have:=k m;rw[this]at g;exact g.trans ⟨λq=>(by cases q),λq=>(by cases q)⟩
   |false=>exact g
def Cd(Z:aF->Prop)(j:cP):Prop:=∀f,Z f->∀aa y,j.get? f≠I ⟨.type "tuple",ai,.seq ⟨aa⟩ y,#[]⟩
def KO(l:Cd Z j)(y:eD d=ah)(B:Rz g j e d):Rz (λm=>g m\/Z m) j e d:=Rz.rec (motive_1:=λe d _=>eD d=ah->Rz (λm=>g m\/Z m) j e d) (motive_2:=λe d _=>gC d=ah->RzL (λm=>g m\/Z m) j e d) (motive_3:=λ_ _ _=>True) (λ_=>.none) (λp _=>.bool p) (λs k _=>.int s k) (λs k A _=>.float s k A) (λs k _=>.str s k) (λm _=>.ref m) (λm p _ x y=>.tuple (λq=>q.elim m λC=>l _ C _ _ p) p<|x y) (λ_ _ _ _ y=>fT y) (λ_ _ _ _ _ _ y=>fT y) (λ_ _ _ _ _ y=>fT y) (λ_=>.nil) (λ_ _ m p y=>.cons (m (aY y).1)<|p (aY y).2) trivial (λ_ _ _ _=>trivial) B y
def Wq(l:Cd Z j)(y:gC d=ah)(B:RzL g j e d):RzL (λm=>g m\/Z m) j e d:=RzL.rec (motive_1:=λe d _=>eD d=ah->Rz (λm=>g m\/Z m) j e d) (motive_2:=λe d _=>gC d=ah->RzL (λm=>g m\/Z m) j e d) (motive_3:=λ_ _ _=>True) (λ_=>.none) (λp _=>.bool p) (λs k _=>.int s k) (λs k A _=>.float s k A) (λs k _=>.str s k) (λm _=>.ref m) (λm p _ x y=>.tuple (λq=>q.elim m λC=>l _ C _ _ p) p<|x y) (λ_ _ _ _ y=>fT y) (λ_ _ _ _ _ _ y=>fT y) (λ_ _ _ _ _ y=>fT y) (λ_=>.nil) (λ_ _ m p y=>.cons (m (aY y).1)<|p (aY y).2) trivial (λ_ _ _ _=>trivial) B y
def Md{y:List aF}(b:∀f∈y,∃aa c,j.get? f=I ⟨.type "list",ai,.seq ⟨aa⟩ c,#[]⟩):Cd (·∈y) j:=λf k aa c i=>by obtain⟨d,m,g⟩:=b f k;rw[g]at i;simp at i
def tq{y:List aF}(e:∀b∈y,∃aa i,j.get? b=I ⟨.type "list",ai,.seq ⟨aa⟩ i,#[]⟩)(g:eD d=ah)(w:Rz c j t d):Rz (λb=>c b\/b∈y) j t d:=KO (Md e) g w
def zB{W:List aF}(c:∀b∈W,∃aa e,j.get? b=I ⟨.type "list",ai,.seq ⟨aa⟩ e,#[]⟩)(y:gC d=ah)(w:RzL X j t d):RzL (λb=>X b\/b∈W) j t d:=Wq (Md c) y w
def bD.same(B:bD C j c f d)(D:bD C j c f i):d=i:=by obtain⟨Z,Z,Z,B⟩:=B;obtain⟨Z,Z,Z,D⟩:=D;rcases B with⟨k,M,N,F,I⟩|⟨k,ad,J,M,w⟩<;>rcases D with⟨s,G,K,A,g⟩|⟨s,H,q,G,r⟩;rw[MJ F A]at I;rw[I]at g;exact PH g;rcases s with s|s<;>(rw[k]at s;cases s);rcases k with k|k<;>(rw[s]at k;cases k);rw[J]at q;cases q;obtain⟨O,n,E⟩:=w;obtain⟨L,y,p⟩:=r;rw[n]at y;cases y;rw[E]at p;cases p;rfl
def RW(C:bS)(g:b_)(σ:aG)(y:List aF)(b:aB):Prop:=∀m d,σ.lookup m=I (.own d)->∃f∈y,bD C b.heap g.env m (.ref f)/\∃aa e,b.heap.get? f=I ⟨.type "list",ai,.seq ⟨aa⟩ e,#[]⟩/\RzL (g.grow y).X b.heap aa d
def RV(C:bS)(g:b_)(σ:aG)(e:aB):Prop:=∀m b d q f,σ.lookup m=I (.own d)->σ.lookup b=I (.own q)->bD C e.heap g.env m (.ref f)->bD C e.heap g.env b (.ref f)->m=b
structure bg(C:bS)(c:b_)(S:a0)(σ:aG)(W:List Addr)(s:Shared):Prop where
 good:bf C (c.grow W).X c.A c.fuel s
 ok:b1 C (c.grow W) S σ.strict s
 keys:dM (σ.map (·.1))=true
 lists:∀a∈W,¬c.X a/\¬C.P a/\∃aa n,s.heap.get? a=some ⟨.type "list",none,.seq ⟨aa⟩ n,#[]⟩
 own:RW C c σ W s
 apart:RV C c σ s
 a_:∀a,C.T a->c.X a
 cE:∀a,c.Y a->c.X a
 eE:∀n a,c.env.cells.lookup n=some a->c.X a
structure cj(C:bS)(c:b_)(W gZ:List Addr)(s ae:Shared):Prop where
 bt:dd C c gZ s ae
 new:∀a∈gZ,a∈W\/s.heap.get? a=none
 old:∀a∈W,a∈gZ
section
variable{c:b_}{S:a0}{σ:aG}{W:List aF}{s:aB}
def bg.dD(j:bg C c S σ W s):bf C c.X c.A c.fuel s:=⟨j.good.handled,j.good.depth,j.good.units,j.good.guards,λf n=>j.good.cI f<|.inl n,j.a_,j.good.ok,j.good.tok⟩
def bg.borrow(j:bg C c S σ W s):b1 C c S σ.plus s:=by
 have k:=j.ok.shrink j.a_ j.cE j.eE;refine⟨k.sc,k.glob,k.blt,k.a_,k.own,k.cells,λB d i=>?_,k.loc⟩;obtain⟨t,m,rfl⟩:=M3 (σ:=σ) i;cases t with
 |val d=>exact k.names B d<|(gq j.keys).mpr m
 |own D=>
  obtain⟨f,A,g,aa,y,i,w⟩:=j.own B D m;exact⟨.ref f,g,.list (j.lists f A).1 i<|w.less λp q=>.inl q⟩
theorem bg.ext(j:bg C c S σ W s)(m:aw C s ae):bg C c S σ W ae:=by have J:=j.good.ext m;have E:∀f∈W,¬C.T f:=λf B L=>(j.lists f B).1<|j.a_ f L;refine⟨J,j.ok.ext m,j.keys,λf B=>?_,λb d i=>?_,λb ab d q f i D M k=>?_,j.a_,j.cE,j.eE⟩;obtain⟨F,G,aa,I,i⟩:=j.lists f B;exact⟨F,G,aa,I,m.keep _ _ i<|E f B⟩;obtain⟨f,B,H,aa,I,aC,K⟩:=j.own b d i;exact⟨f,B,H.ext m,aa,I,m.keep _ _ aC<|E f B,j.good.gn m K⟩;obtain⟨aJ,N,A,Z⟩:=j.own b d i;obtain⟨dV,O,p,Z⟩:=j.own ab q D;have aC:=(A.ext m).same M;have aM:=(p.ext m).same k;rw[aC]at A;rw[aM]at p;exact j.apart b ab d q f i D A p
theorem cj.refl:cj C c W W s s:=⟨(aw.refl s).bt,λf j=>.inl j,λf j=>j⟩
def cj.ext(m:aw C s ae):cj C c W W s ae:=⟨m.bt,λf j=>.inl j,λf j=>j⟩
theorem cj.trans(A:cj C c W f s p)(j:bg C c S l f p)(D:cj C c f r p d):cj C c W r s d:=by
 refine⟨(A.bt.cut (λZ G=>G) λm n=>.inl<|D.old m n).trans D.bt,λm n=>?_,λm n=>D.old m<|A.old m n⟩;rcases D.new m n with q|q;exact A.new m q;by_cases B:m∈f;exact A.new m B;right;induction i:s.heap.get? m using b6 with
 |none=>rfl
 |some F=>
  by_cases k:C.T m;obtain⟨E,g,Z⟩:=j.good.cI m<|.inl<|j.a_ m k;rw[q]at g;cases g;obtain⟨E,g⟩:=A.bt.all m F i k B;rw[q]at g;cases g
end
def dd.lr{y c6:List aF}(j:dd C (g.grow y) c6 l ae):dd C g c6 l ae:=⟨j.same,j.keep,j.tabs,j.ok,j.all,j.toks⟩
def I8(j:hF a b g hz=I n):hF a b g (hz++f)=I (n++f):=by replace j:=rj j;induction j with|nil=>rfl|cons ag Z c=>exact b' (yX ag) c
def Ja(j:eR a k d []=I m):eR a k d f=I (m++f):=by replace j:=yY j;generalize c:([]:cf)=w at j;cases j with|name ag=>subst c;exact if_pos ag|tuple j=>subst c;exact I8 (hz:=[]) j
def I9(j:hF a b g i=I n)(q:l∈(b.filterMap wK)\/∃d,i.lookup l=I d):∃d,n.lookup l=I d:=by
 replace j:=rj j;induction j with
 |nil=>exact q.resolve_left lE
 |@cons r s b d g f c ag Z k=>
  refine k ?_;by_cases w:l=r;subst w;exact .inr ⟨d,ae6⟩;exact q.imp (λA=>(c9.mp A).resolve_left w) λ⟨t,j⟩=>⟨t,(D6 w).trans j⟩
def Jb(j:eR a k d []=I m)(c:b∈xq k):∃d,m.lookup b=I d:=by
 replace j:=yY j;generalize([]:cf)=w at j;cases j with
 |name ag=>
  obtain rfl:=c_.mp c;exact⟨d,ae6⟩
 |tuple j=>exact I9 j<|.inl c
def adH{σ:aG}(a:dM (σ.map (·.1))=ah)(i:(σ.vals m).strict.lookup b=some d):(m++σ.strict).lookup b=some d:=by rw[gq<|Gk a,A2]at i;rw[uN];induction j:m.lookup b using b6 with|some t=>rw[j]at i;simp at i;subst i;rfl|none=>rw[j]at i;exact(gq a).mpr i
section
variable{c:b_}{S:a0}{σ:aG}{W:List aF}{s:aB}
def bg.e4(j:bg C c S σ W s)(n:f∈W):¬C.T f:=λk=>(j.lists f n).1<|j.a_ f k
def bg.tV(j:bg C c S σ W s)(n:f∈W):¬c.Y f:=λk=>(j.lists f n).1<|j.cE f k
def bg.stored(j:bg C c S σ W s){names:List au}(st:dU C (c.grow W) s ae)(k:b1 C (c.grow W) S (m++σ.strict) ae)(I:∀b Q,b∉names->bD C s.heap c.env b Q->bD C ae.heap c.env b Q) (L:∀b,b∈names->∃d,m.lookup b=some d):bg C c S (σ.vals m) W ae/\cj C c W W s ae:=by
 have kp:∀f∈W,∀x,s.heap.get? f=some x->ae.heap.get? f=some x:=λf A x i=>st.keep f x i (j.e4 A)<|j.tV A;have H:∀b E,(σ.vals m).lookup b=some (.own E)->σ.lookup b=some (.own E)/\b∉names:=by
  intro b E i;rw[A2]at i;induction B:m.lookup b using b6 with
  |some d=>rw[B]at i;simp at i
  |none=>
   rw[B]at i;refine⟨i,λq=>?_⟩;obtain⟨d,J⟩:=L b q;rw[B]at J;cases J
 refine⟨⟨j.good.step st,k.sub λb d i=>adH j.keys i,Gk j.keys,λf A=>?_,λb E i=>?_,λb ab E G f i g t P=>?_,j.a_,j.cE,j.eE⟩,⟨st.bt.lr,λf A=>.inl A,λf A=>A⟩⟩;obtain⟨B,K,aa,O,i⟩:=j.lists f A;exact⟨B,K,aa,O,kp f A _ i⟩;obtain⟨aC,F⟩:=H b E i;obtain⟨f,A,M,aa,O,aM,R⟩:=j.own b E aC;exact⟨f,A,I b _ F M,aa,O,kp f A _ aM,dU.rS j.good j.ok.loc st R⟩;obtain⟨aC,F⟩:=H b E i;obtain⟨aM,N⟩:=H ab G g;obtain⟨aJ,T,D,Z⟩:=j.own b E aC;obtain⟨dV,U,p,Z⟩:=j.own ab G aM;have dO:=(I b _ F D).same t;have ej:=(I ab _ N p).same P;rw[dO]at D;rw[ej]at p;exact j.apart b ab E G f aC aM D p
theorem bg.eR(j:bg C c S σ W s){target:aq}{d:af}{t:ar}{m:cf}(l:Rz (c.grow W).X s.heap t d)(e:eR S target d []=I m){Q:Unit->aB->Prop}{E:ar->aB->Prop} (q:∀ae,bg C c S (σ.vals m) W ae->cj C c W W s ae->Q () ae):aL (aQ C.prog C.w) c.A (hE target c.env t) Q E s:=yZ (c:=c.grow W) j.ok j.good (Ja e) l λae st k i=>
  let⟨f,p⟩:=j.stored st k i λn g=>Jb e g
  q ae f p
def bD.g_(j:bD C s.heap c.env d b)(E:iu C c W)(st:dB C W s ae):bD C ae.heap c.env d b:=by obtain⟨f,q,g,B⟩:=j;refine⟨f,q,g,?_⟩;rcases B with⟨k,p,r,A,i⟩|⟨k,ad,D,p,w⟩;exact .inl ⟨k,p,r,mc A λn i=>st.keep _ n i p E.loc,i⟩;exact .inr ⟨k,ad,D,p,pV w λn y=>st.keep _ n y p<|E.cell _ _ D⟩
def bg.off(j:bg C c S σ W s)(k:f∈W):iu C (c.grow W) [f]:=by obtain⟨g,l,aa,y,i⟩:=j.lists f k;refine⟨λq=>?_,λr p d q=>?_,λp d=>by replace d:=c_.mp d;subst d;exact .inr k⟩;simp at q;exact g<|q▸j.cE _ j.ok.loc.e_;simp at q;subst q;exact g<|j.eE r _ d
def bg.update(j:bg C c S σ W s)(ag:σ.lookup x=I (.own l))(m:bD C s.heap c.env x (.ref f))(aj:f∈W)(st:dB C [f] s ae) (N:ae.heap.get? f=I ⟨.type "list",ai,.seq ⟨g⟩ al,#[]⟩) (as:RzL (c.grow W).X ae.heap g i):bg C c S (σ.set x<|.own i) W ae/\cj C c W W s ae:=by
 have J:=j.off aj;have kp:∀p∈W,p≠f->∀R,s.heap.get? p=I R->ae.heap.get? p=I R:=λp E B R N=>st.keep p R N (j.e4 E) (by simpa using B);have M:∀D ap,bD C s.heap c.env D ap->bD C ae.heap c.env D ap:=λD ap am=>bD.g_ (c:=c.grow W) am J st;have ah:∀D A,(D==x)=false->(σ.set x<|.own i).lookup D=I (.own A)->σ.lookup D=I (.own A):=by intro D A k N;rw[kI,if_neg<|by simpa using k]at N;exact N
 refine⟨⟨j.good.only st λp B=>by replace B:=c_.mp B;subst B;exact⟨j.e4 aj,_,N⟩,(j.ok.g_ J st).sub λD d k=>?_,rY j.keys,λp E=>?_,λD A k=>?_,λD ab A Q p k L aq ar=>?_,j.a_,j.cE,j.eE⟩,⟨st.bt λp B=>by replace B:=c_.mp B;exact B▸aj,λp E=>.inl E,λp E=>E⟩⟩;rw[gq<|rY j.keys,kI]at k;split at k;cases k;exact(gq j.keys).mpr k;obtain⟨F,V,aa,an,cD⟩:=j.lists p E;by_cases B:p=f;subst B;exact⟨F,V,g,al,N⟩;exact⟨F,V,aa,an,kp p E B _ cD⟩;induction B:D==x using bz with
 |true=>
  have ac:=bF B;subst ac;rw[kI,if_pos B]at k;cases k;exact⟨f,aj,M _ _ m,g,al,N,as⟩
 |false=>
  have F:=ah D A B k;obtain⟨p,E,O,aa,an,cD,ao⟩:=j.own D A F;have Y:p≠f:=λq=>by subst q;have:=j.apart D x A l p F ag O m;simp[this]at B
  exact⟨p,E,M _ _ O,aa,an,kp p E Y _ cD,ao.mono λab R L ak=>st.keep ab R ak (λau=>L<|.inl<|j.a_ ab au) λq=>L<|J.cI ab q⟩
 have K:∀D A,(σ.set x<|.own i).lookup D=I (.own A)->∃P,σ.lookup D=I (.own P):=by intro D A k;induction B:D==x using bz with|true=>rw[bF B];exact⟨l,ag⟩|false=>exact⟨A,ah D A B k⟩
 obtain⟨ad,T⟩:=K D A k;obtain⟨af,U⟩:=K ab Q L;obtain⟨aJ,av,G,Z⟩:=j.own D ad T;obtain⟨dV,aw,H,Z⟩:=j.own ab af U;have dO:=(M _ _ G).same aq;have ej:=(M _ _ H).same ar;rw[dO]at G;rw[ej]at H;exact j.apart D ab ad af p T U G H
def Ld:(c.grow W).grow i=c.grow (W++i):=by unfold b_.grow;congr 1;funext f;simp[or_assoc]
def bg.anew(O:bg C c S σ W s){aa:List ar}(K:aw C s i)(ao:s.heap.get? f=ai)(U:i.heap.get? f=I ⟨.type "list",ai,.seq ⟨aa⟩ bd,#[]⟩) (a5:RzL (c.grow W).X i.heap aa am) (aX:gC am=true) (ag:i3 S l=true) (q:∀ae,bg C c S (σ.set l<|.own am) (W++[f]) ae->cj C c W (W++[f]) s ae->be () ae):aL (aQ C.prog C.w) c.A (ov c.env l<|.ref f) be bi i:=by
 have J:=O.ext K;have V:=O.good.gg ao;have aK:∀D∈[f],s.heap.get? D=ai:=dE ao;have k:b1 C (c.grow<|W++[f]) S σ.strict i:=Ld▸O.ok.grow aK K λaR aY=>by obtain⟨al,U,Z⟩:=O.good.cI aR<|.inl<|O.a_ aR aY;exact⟨al,U⟩
 have aF:bf C (c.grow<|W++[f]).X c.A c.fuel i:=by have:=J.good.grow (c:=c.grow W) (W:=[f]) (dE (P:=λD=>∃al,i.heap.get? D=I al) ⟨_,U⟩)<|dE V.1;rw[Ld]at this;exact this
 simp only[i3,bY]at ag;refine CJ (c:=c.grow<|W++[f]) aF k.loc (k.own l ag.1 ag.2) λae st az ay ak=>?_;have aS:f∉W:=λav=>by obtain⟨Z,Z,aa,a3,U⟩:=O.lists f av;rw[ao]at U;cases U
 have aP:¬c.Y f:=λj=>V.2.2<|.inl<|O.cE f j;have kp:∀D∈W++[f],∀al,i.heap.get? D=I al->ae.heap.get? D=I al:=λD H al aU=>st.keep D al aU (tP (P:=λD=>¬C.T D) (λD=>O.e4) V.1 D H)<|tP (P:=λD=>¬c.Y D) (λD=>O.tV) aP D H;have M:∀D∈W++[f],∃aa a3,i.heap.get? D=I ⟨.type "list",ai,.seq ⟨aa⟩ a3,#[]⟩:=tP (λD av=>(J.lists D av).2.2) ⟨aa,bd,U⟩;have aD:∀{as an},RzL (c.grow W).X s.heap as an->RzL (c.grow<|W++[f]).X ae.heap as an:=λ{as an} aA=>by have aB:=(aA.wide aK).mono (hr:=i.heap) λD al F aT=>K.keep D al aT λaR=>F<|.inl<|.inl<|O.a_ D aR;have:RzL (c.grow<|W++[f]).X i.heap as an:=aB.less λD F=>F.elim (λF=>.inl<|.inl F) λF=>(jD.mp F).elim (λav=>.inl<|.inr av) .inr;exact dU.rS aF k.loc st this
 have aj:∀j B,(j==l)=false->(σ.set l<|.own am).lookup j=I (.own B)->σ.lookup j=I (.own B):=by intro j B G U;rw[kI,if_neg<|by simpa using G]at U;exact U
 have a0:b1 C (c.grow<|W++[f]) S (aG.strict<|σ.filter λa1=>!(a1.1==l)) ae:=by
  refine⟨k.sc,k.glob,k.blt,k.a_,k.own,k.cells,λj d G=>?_,az⟩;have ah:(σ.filter λa1=>!(a1.1==l)).lookup j=I (.val d):=(gq<|s6 O.keys).mp G;have R:(j==l)=false:=by
   induction F:j==l using bz with
   |false=>rfl
   |true=>
    exact absurd (F▸(dP.mp<|mem_of_lookup ah).2:(!true)=true) xE
  rw[wy R]at ah;obtain⟨a4,aZ,a2⟩:=k.names j d<|(gq O.keys).mpr ah;exact⟨a4,ak j a4 (by simpa using R) aZ,st.n8 aF k.loc a2⟩
 have aE:∀j B,(j==l)=false->σ.lookup j=I (.own B)->¬bD C ae.heap c.env j (.ref f):=by intro j B G aC aI;obtain⟨D,H,af,Z⟩:=J.own j B aC;have:=(ak j _ (by simpa using G) af).same aI;simp at this;exact aS<|this▸H
 refine q ae ⟨aF.step st,?_,rY O.keys,λD H=>?_,λj B G=>?_,λj ab B N D G aN aq au=>?_,O.a_,O.cE,O.eE⟩ ⟨K.bt.trans st.bt.lr,λD H=>?_,λD H=>mx _ H⟩;exact a0.sub λj d G=>by rw[gq<|rY O.keys,kI]at G;split at G;cases G;rename_i aH;refine(gq<|s6 O.keys).mpr ?_;rw[wy<|by simpa using aH];exact G
 exact⟨tP (P:=λD=>¬c.X D) (λD av=>(O.lists D av).1) (λq=>V.2.2<|.inl q) D H,tP (P:=λD=>¬C.P D) (λD av=>(O.lists D av).2.1) V.2.1 D H,(M D H).imp λax=>aeC λaO=>kp D H _⟩;induction F:j==l using bz with
 |true=>
  have R:=bF F;subst R;rw[kI,if_pos F]at G;cases G;refine⟨f,my _ (by simp),ay,aa,bd,kp f (my _<|by simp) _ U,?_⟩;have aB:RzL (c.grow<|W++[f]).X i.heap aa am:=by have:=zB (X:=c.X) (W:=W++[f]) M aX<|a5.less λD q=>.inl q;exact this
  exact dU.rS aF k.loc st aB
 |false=>
  have aV:=aj j B F G;obtain⟨D,H,af,ax,aO,cD,aA⟩:=O.own j B aV;exact⟨D,mx _ H,ak j _ (by simpa using F)<|af.ext K,ax,aO,kp D (mx _ H) _<|K.keep _ _ cD<|O.e4 H,aD aA⟩
 induction F:j==l using bz with
 |true=>
  induction L:ab==l using bz with
  |true=>rw[bF F,bF L]
  |false=>
   have dO:=ay.same (by rw[bF F]at aq;exact aq);simp at dO;subst dO;exact absurd au<|aE ab N L<|aj ab N L aN
 |false=>
  induction L:ab==l using bz with
  |true=>
   have dO:=ay.same (by rw[bF L]at au;exact au);simp at dO;subst dO;exact absurd aq<|aE j B F<|aj j B F G
  |false=>
   have aC:=aj j B F G;have aM:=aj ab N L aN;obtain⟨aJ,a6,ac,Z⟩:=J.own j B aC;obtain⟨dV,a7,ad,Z⟩:=J.own ab N aM;have dO:=(ak j _ (by simpa using F) ac).same aq;have ej:=(ak ab _ (by simpa using L) ad).same au;rw[dO]at ac;rw[ej]at ad;exact J.apart j ab B N D aC aM ac ad
 exact tP (P:=λD=>D∈W\/s.heap.get? D=ai) (λD=>.inl) (.inr ao) D H
end
end
section
variable{C:bS}{O:cY}{N n:Nat}
def q8(C:bS)(g:b_)(b:a0)(y:List aF)(l:aB)(h:nt->aB->Prop):h3->Prop
 |.next aX=>∀i ae,bg C g b aX i ae->cj C g y i l ae->h .next ae
 |.brk aX=>∀i ae,bg C g b aX i ae->cj C g y i l ae->h .brk ae
 |.cont aX=>∀i ae,bg C g b aX i ae->cj C g y i l ae->h .cont ae
 |.ret d=>∀t i ae,cj C g y i l ae->(∀f∈i,¬g.X f/\∃x,ae.heap.get? f=I x)->Rz g.X ae.heap t d->h (.ret t) ae
def cc(C:bS)(g:b_)(a:a0)(k:cA nt)(σ:aG)(b:h3):Prop:=∀(y:List aF)(l:aB),bg C g a σ y l->∀(h:nt->aB->Prop)(j:ar->aB->Prop),q8 C g a y l h b->aL (aQ C.prog C.w) g.A k h j l
def q8.from(B:q8 C e a y j i w)(A:bg C e a l f b)(x:cj C e y f j b):q8 C e a f b i w:=by
 cases w with
 |next aX=>exactλm ae q n=>B m ae q<|x.trans A n
 |brk aX=>exactλm ae q n=>B m ae q<|x.trans A n
 |cont aX=>exactλm ae q n=>B m ae q<|x.trans A n
 |ret d=>exactλt m ae n k w=>B t m ae (x.trans A n) k w
def UH{d:aq}{i:List aP}{c:kQ}{g:ef}{e:oq->aB->Prop}{n:aB}
  (B:∀j,aL (aQ C.prog C.w) g (isTrue d c<|cx d c) (λk p=>if k=true then aL (aQ C.prog C.w) g (ep i c) (λy q=>match y with
    |.next=>fU (aQ C.prog C.w) g (.whileLoop d i [] c) e q
    |.cont=>fU (aQ C.prog C.w) g (.whileLoop d i [] c) e q
    |.brk=>e (.ok .next) q
    |.ret a=>e (.ok<|.ret a) q) j p else e (.ok .next) p) j n):
  fU (aQ C.prog C.w) g (.whileLoop d i [] c) e n:=by
 refine Hu ?_
 show aL _ _ ((whileTurn d i [] c).onRaise (λm=>do HE m c;Qx m)) _ _ n
 refine QD ?_
 refine aA<|fh (B _) (λk p l=>?_) λZ Z m=>m
 induction k using bz with
 |true=>
  simp only[if_true]at l ⊢;refine aA<|fh l (λy q r=>?_) λZ Z m=>m;cases y with
  |next=>exact a' ⟨rfl,r⟩
  |cont=>exact a' ⟨rfl,r⟩
  |brk=>exact a' r
  |ret a=>exact a' r
 |false=>
  simp only[j8,if_false]at l ⊢;exact aA<|pF<|a' l
def CU{m:aq}{n:ar}{F:List aP}{c:kQ}{k:ef}{e:oq->aB->Prop}{H:aB}
  (h:∀j,aL (aQ C.prog C.w) k (sO n) (λG p=>match G with
   |none=>e (.ok .next) p
   |some t=>aL (aQ C.prog C.w) k (u6 m n t) (λZ q=>aL (aQ C.prog C.w) k (hE m c t) (λZ eH=>aL (aQ C.prog C.w) k (ep F c) (λy g=>match y with
    |.next=>fU (aQ C.prog C.w) k (.forLoop m n F [] c) e g
    |.cont=>fU (aQ C.prog C.w) k (.forLoop m n F [] c) e g
    |.brk=>e (.ok .next) g
    |.ret t=>e (.ok<|.ret t) g) j eH) j q) j p) j H):
  fU (aQ C.prog C.w) k (.forLoop m n F [] c) e H:=by
 refine Hu ?_
 show aL _ _ ((forTurn m n F [] c).onRaise (λi=>do HE i c;Qx i)) _ _ H
 refine QD ?_
 refine aA<|dT<|aA<|wpAny_onRaise<|fh (h _) (λG p l=>?_) λZ Z d=>dT d
 induction G using b6 with
 |none=>exact a' ⟨rfl,codeAny_block<|pF l⟩
 |some t=>
  refine aA<|fh l (λZ q B=>aA<|fh B (λZ eH D=>aA<|fh D (λy g a=>?_) λZ Z i=>i) λZ Z i=>i) λZ Z i=>i;cases y with
  |next=>exact a' ⟨rfl,a⟩
  |cont=>exact a' ⟨rfl,a⟩
  |brk=>exact a' a
  |ret t=>exact a' a
structure yJ(C:bS)(O:cY)(N:Nat)(M:List Str)(n:Nat):Prop where
 p4:∀S σ aU r c,N<=c.fuel->a6 O S M n σ aU=some r->cc C c S (execs aU c.env) σ r
 WN:∀S σ st r c,N<=c.fuel->ee O S M n σ st=some r->cc C c S (exec st c.env) σ r
 DA:∀S σ t b r c,N<=c.fuel->xB O S M n σ t b=some r->∀(W:List Addr)(s:Shared),bg C c S σ W s->∀(R:Result->Shared->Prop),q8 C c S W s (λf ae=>R (.ok f) ae) r->codeAny (model C.prog C.w) c.A (.whileLoop t b [] c.env) R s
variable{M:List au}
def ac_(j:yJ C O N M n):∀e σ aU w g,N<=g.fuel->a6 O e M (n+1) σ aU=I w->cc C g e (ep aU g.env) σ w:=by
 intro e σ aU w g t ag y q ak B A k;induction aU using bb with
 |nil=>
  obtain rfl:=aZ ag;exact pF<|k y q ak cj.refl
 |cons st a=>
  refine bK ag λx m l=>?_;refine gX<|j.WN e σ st x g t m y q ak _ _ ?_;cases x with
  |next aX=>exactλi ae f b=>j.p4 e aX a w g t l i ae f B A<|k.from f b
  |brk aX=>obtain rfl:=aZ l;exact k
  |cont aX=>obtain rfl:=aZ l;exact k
  |ret d=>obtain rfl:=aZ l;exact k
def ac'(j:dv C O N)(T:yJ C O N M n):∀a σ P L K g,N<=g.fuel->xB O a M (n+1) σ P L=I K->∀(y:List aF)(l:aB),bg C g a σ y l->∀(e:oq->aB->Prop),q8 C g a y l (λX ae=>e (.ok X) ae) K->fU (aQ C.prog C.w) g.A (.whileLoop P L [] g.env) e l:=by
 intro a σ P L K g J ag y l ak e Q;refine bK ag λk V ag=>?_;refine UH λZ=>?_;refine(eN j n).lZ a σ.plus P k g l ak.borrow J V l (aw.refl l) ak.dD _ _ λF G=>?_;have m:=ak.ext G;have i:cj C g y y l F:=cj.ext G;induction k using bz with
 |false=>
  obtain rfl:=aZ (ag:I (h3.next σ)=I K);exact Q y F m i
 |true=>
  refine bK (ag:(Option.bind _ _)=I K) λx U H=>?_;refine T.p4 a σ L x g J U y F m _ _ ?_;cases x with
  |next aX=>exactλq ae D B=>T.DA a aX P L K g J H q ae D e<|Q.from D<|i.trans m B
  |cont aX=>exactλq ae D B=>T.DA a aX P L K g J H q ae D e<|Q.from D<|i.trans m B
  |brk aX=>obtain rfl:=aZ H;exactλq ae D B=>Q q ae D<|i.trans m B
  |ret d=>obtain rfl:=aZ H;exactλY q ae B k K=>Q Y q ae (i.trans m B) k K
end
section
variable{C:bS}{O:cY}{N n:Nat}{M:List au}
structure nG(C:bS)(c:b_)(S:a0)(σ:aG)(W:List Addr)(s:Shared):Prop where
 ok:b1 C (c.grow W) S σ.strict s
 keys:dM (σ.map (·.1))=true
 lists:∀a∈W,¬c.X a/\¬C.P a/\∃aa n,s.heap.get? a=some ⟨.type "list",none,.seq ⟨aa⟩ n,#[]⟩
 own:∀x l,σ.lookup x=some (.own l)->∃a∈W,bD C s.heap c.env x (.ref a)/\∃aa n,s.heap.get? a=some ⟨.type "list",none,.seq ⟨aa⟩ n,#[]⟩/\RzL (c.grow W).X s.heap aa l
 apart:∀x y l YC a,σ.lookup x=some (.own l)->σ.lookup y=some (.own YC)->bD C s.heap c.env x (.ref a)->bD C s.heap c.env y (.ref a)->x=y
 a_:∀a,C.T a->c.X a
 cE:∀a,c.Y a->c.X a
 eE:∀n a,c.env.cells.lookup n=some a->c.X a
section
variable{c:b_}{S:a0}{σ:aG}{W:List aF}{s:aB}{wr:List aF}
def bg.pd(j:bg C c S σ W s):nG C c S σ W s:=⟨j.ok,j.keys,j.lists,j.own,j.apart,j.a_,j.cE,j.eE⟩
def nG.sim(j:nG C c S σ W s)(e:bf C (c.grow W).X c.A c.fuel s):bg C c S σ W s:=⟨e,j.ok,j.keys,j.lists,j.own,j.apart,j.a_,j.cE,j.eE⟩
def nG.only(j:nG C (c.grow wr) S σ W s)(x:iu C (c.grow wr) wr)(N:∀f∈wr,f∉W)(st:dB C wr s ae):nG C (c.grow wr) S σ W ae:=by have P:∀f∈W,¬C.T f:=λf n R=>(j.lists f n).1<|j.a_ f R;have kp:∀B∈W,∀x,s.heap.get? B=I x->ae.heap.get? B=I x:=λB n E i=>st.keep B E i (P B n) λq=>N B q n;have Q:iu C ((c.grow wr).grow W) wr:=⟨x.loc,x.cell,λf n=>.inl<|x.cI f n⟩;have g:∀D U,bD C s.heap c.env D U->bD C ae.heap c.env D U:=λD U L=>bD.g_ (c:=c.grow wr) L x st;refine⟨j.ok.g_ Q st,j.keys,λf n=>?_,λD d i=>?_,λD ab d H f i F Y V=>?_,j.a_,j.cE,j.eE⟩;obtain⟨J,K,aa,O,i⟩:=j.lists f n;exact⟨J,K,aa,O,kp f n _ i⟩;obtain⟨f,n,M,aa,O,aC,X⟩:=j.own D d i;exact⟨f,n,g _ _ M,aa,O,kp f n _ aC,X.mono λB E G k=>st.keep B E k (λR=>G<|.inl<|j.a_ B R) λq=>G<|.inl<|.inr q⟩;obtain⟨aJ,ac,A,Z⟩:=j.own D d i;obtain⟨dV,ad,p,Z⟩:=j.own ab H F;have dO:=(g _ _ A).same Y;have ej:=(g _ _ p).same V;rw[dO]at A;rw[ej]at p;exact j.apart D ab d H f i F A p
def nG.drop(j:nG C (c.grow wr) S σ W s)(B:∀f,C.T f->c.X f)(E:∀f,c.Y f->c.X f)(x:∀n f,c.env.cells.lookup n=I f->c.X f):nG C c S σ W s:=by have gJ:∀p,(c.grow W).X p->((c.grow wr).grow W).X p:=λp q=>q.elim (λab=>.inl<|.inl ab) .inr;refine⟨?_,j.keys,λf F=>⟨λq=>(j.lists f F).1<|.inl q,(j.lists f F).2⟩,λD g i=>?_,j.apart,B,E,x⟩;refine⟨j.ok.sc,j.ok.glob,j.ok.blt,λf k=>.inl<|B f k,j.ok.own,j.ok.cells,λD d i=>?_,?_⟩;obtain⟨J,f,H⟩:=j.ok.names D d i;exact⟨J,f,H.less gJ⟩;have g:=j.ok.loc;exact⟨g.kind,g.ns,g.cell,g.apart,g.e_,λf D=>.inl<|E f D,g.hV,g.jz,λA f i=>⟨(g.dC A f i).1,(g.dC A f i).2.1,.inl<|x A f i⟩,g.pin⟩;obtain⟨f,F,G,aa,A,aC,H⟩:=j.own D g i;exact⟨f,F,G,aa,A,aC,H.less gJ⟩
def bg.yN(j:bg C c S σ W s)(L:aw C s ae)(F:∀p∈wr,s.heap.get? p=ai)(R:∀p∈wr,∃H,ae.heap.get? p=I H):bg C (c.grow wr) S σ W ae:=by
 have B:=j.ext L;have V:∀A∈W,A∉wr:=λA J q=>by obtain⟨Z,Z,aa,G,i⟩:=j.lists A J;rw[F A q]at i;cases i
 have g:∀p,((c.grow wr).grow W).X p->((c.grow W).grow wr).X p:=λp q=>by rcases q with(q|q)|q;exact .inl<|.inl q;exact .inr q;exact .inl<|.inr q
 have k:b1 C ((c.grow W).grow wr) S σ.strict ae:=j.ok.grow F L λE T=>by obtain⟨H,i,Z⟩:=j.good.cI E<|.inl<|j.a_ E T;exact⟨H,i⟩
 have N:=λp(f:p∈wr)=>j.good.gg<|F p f;refine⟨⟨B.good.handled,B.good.depth,B.good.units,B.good.guards,λA n=>?_,λA E=>.inl<|.inl<|j.a_ A E,B.good.ok,B.good.tok⟩,?_,j.keys,λA J=>?_,λK D i=>?_,B.apart,λA E=>.inl<|j.a_ A E,λA K=>.inl<|j.cE A K,λG A i=>.inl<|j.eE G A i⟩;rcases n with(n|n)|n;exact B.good.cI A<|.inl n;obtain⟨H,i⟩:=R A n;exact⟨H,i,λE=>absurd E (N A n).1⟩;exact B.good.cI A<|.inr n;refine⟨k.sc,k.glob,k.blt,λA E=>.inl<|.inl<|j.a_ A E,k.own,k.cells,λK d i=>?_,?_⟩;obtain⟨ac,A,Y⟩:=k.names K d i;exact⟨ac,A,Y.less g⟩;have D:=k.loc;exact⟨D.kind,D.ns,D.cell,D.apart,D.e_,λA K=>.inl<|.inl<|j.cE A K,D.hV,D.jz,λG A i=>⟨(D.dC G A i).1,(D.dC G A i).2.1,.inl<|.inl<|j.eE G A i⟩,D.pin⟩;obtain⟨O,P,Q⟩:=B.lists A J;exact⟨λq=>q.elim O λab=>V A J ab,P,Q⟩;obtain⟨A,J,U,aa,G,aC,Y⟩:=j.own K D i;refine⟨A,J,U.ext L,aa,G,L.keep _ _ aC<|j.e4 J,?_⟩;exact((Y.wide F).mono λp H f M=>L.keep p H M λE=>f<|.inl<|.inl<|j.a_ p E).less g
end
def vd(C:bS)(O:cY)(N:Nat)(M:List au)(n:Nat):Prop:=∀G σ D E F H q,N<=q.fuel->uA O G M n σ D E F=I H->∀(h d:aF->Prop)(t:ar)(y:List aF)(g:List af)(St:Nat->cP->Prop)(c:Nat)(j p:List aF)(k l:aB),g.drop c=F->c<=g.length->e2 C q.A h d D t y g St->St c l.heap->(∀B,h B->q.X B\/B∈p)->(∀B,q.X B->h B)->(∀B∈p,h B\/¬d B)->(∀B,d B->∃x,l.heap.get? B=I x)->(∀E∈y,¬C.P E/\k.heap.get? E=ai)->(∀E∈y,E∉p)->bg C (q.grow y) G σ p l->(∀B,C.T B->q.X B)->(∀B,q.Y B->q.X B)->(∀K B,q.env.cells.lookup K=I B->q.X B)->dd C q (p++y) k l->(∀B∈p,B∈j\/k.heap.get? B=ai)->(∀B∈j,B∈p)->bf C (q.grow j).X q.A q.fuel k->∀(e:oq->aB->Prop),q8 C q G j k (λJ ae=>e (.ok J) ae) H->fU (aQ C.prog C.w) q.A (.forLoop D t E [] q.env) e l
def WJ(lc:∀fd σ aU aL hw,N<=hw.fuel->a6 O fd M n σ aU=some aL->cc C hw fd (ep aU hw.env) σ aL)(aH:vd C O N M n):vd C O N M (n+1):=by
 intro fd σ K as aP aL l f4 ag ac gl aI H ao St ga I be U eq aC aD fn st gt a1 cl aA a2 bm ak ap ca aj aM cs av ar aT aK;have aS:∀j∈H,¬ac j:=fn.off;have em:∀j∈H,¬l.X j:=λj B q=>aS j B<|a1 j q;have ex:∀j∈H,¬C.T j:=λj B bv=>em j B<|ap j bv;have cV:iu C (l.grow H) H:=⟨λB=>em _ B<|ca _ ak.ok.loc.e_,λhm j al B=>em j B<|aj hm j al,λj B=>.inr B⟩;refine CU λaW=>?_;induction aP using bb with
 |nil=>
  obtain rfl:=aZ ag;have f8:=Kh aC;have aE:ga=ao.length:=nh aD f8;have vf:=fn.to (λZ=>False) λZ aO=>aO.elim;refine vf.end_ (aE▸st) λf2 ge iS ev=>?_;have P:dB C H eq {eq with heap:=f2,toks:=ge}:=dB.of ex (λj B=>(a2 j B).1) (λj B=>vf.kA _ _ st j B) ev;have he:=(ak.pd.only cV bm P).drop ap ca aj;have aN:dd C l (be++H) U {eq with heap:=f2,toks:=ge}:=aM.trans<|P.bt λj B=>my _ B;have aQ:bf C (l.grow be).X l.A l.fuel {eq with heap:=f2,toks:=ge}:=by have df:bf C (l.grow be).X l.A l.fuel eq:=⟨ak.good.handled,ak.good.depth,ak.good.units,ak.good.guards,λj V=>ak.good.cI j<|V.elim (λab=>.inl<|.inl ab) .inr,λj bv=>.inl<|ap j bv,ak.good.ok,ak.good.tok⟩;exact df.bt (c:=l) (P.bt (gZ:=H) λZ B=>B) λj B ag=>(ag.elim (em j B)<|bm j B).elim
  refine aK be _ (he.sim aQ) ⟨aN.cut (λZ aw=>aw) λj B=>?_,cs,av⟩;rcases jD.mp B with B|B;exact .inl B;exact .inr (a2 j B).2
 |cons d db=>
  obtain⟨au,ax⟩:=yr aC;refine bK ag λjp im ag=>bK ag λg2 ii af=>?_;let aV:aF->Prop:=λj=>j∈be/\¬ac j;have yK:=fn.to aV λj aO=>(cl j aO.1).resolve_left aO.2;refine yK.use au st (λj V=>?_) λis bd am iS ev jv g3=>?_;have:((l.grow H).grow be).X j:=by rcases V with V|V;exact(gt j V).elim (λab=>.inl<|.inl ab) .inr;exact .inr V.1
  obtain⟨x,al,Z⟩:=ak.good.cI j this;exact⟨x,al⟩;have P:dB C H eq {eq with heap:=bd,toks:=am}:=dB.of ex (λj B=>(a2 j B).1) (λj B=>yK.kA _ _ st j B) ev;have fK:Rz ((l.grow H).grow be).X ({eq with heap:=bd,toks:=am}:aB).heap is d:=Rz.less (λj V=>by
   rcases V with(V|V)|V;exact .inl<|.inl<|a1 j V;exact .inr V;by_cases q:ac j;exact .inl<|.inl q;exact .inl<|.inr ⟨V,q⟩) g3
  have bs:St (ga+1) ({eq with heap:=bd,toks:=am}:aB).heap:=jv;clear g3 jv ev iS;generalize({eq with heap:=bd,toks:=am}:aB)=dL at P fK bs ⊢;have cr:=fn.here _ _ bs;have dK:bg C (l.grow H) fd σ be dL:=(ak.pd.only cV bm P).sim<|ak.good.bt (c:=l) (P.bt (gZ:=H) λZ B=>B) λj B Z=>⟨ex j B,cr j B⟩;refine dK.eR fK im λY an b7=>?_;have J:∀(ae dj:aB)(D:List aF),(∀j∈D,j∈be\/ae.heap.get? j=none)->dd C (l.grow H) D ae dj->St (ga+1) ae.heap->St (ga+1) dj.heap:=by intro ae dj D io bv aG;refine fn.frame _ _ _ aG λas x al co=>bv.keep as x al (λq=>?_) (λq=>?_) λq=>?_;rcases co with B|B;exact ex as B q;exact B.1<|a1 as<|ap as q;rcases co with B|B;exact em as B<|ca as q;exact B.1<|a1 as<|ca as q;rcases io as q with q|q;rcases co with B|B;exact bm as B q;exact(cl as q).elim B.1 λab=>ab B.2;rw[al]at q;cases q
  have kJ:=J _ _ be (λj B=>.inl B) b7.bt bs;have f0:dd C l (be++H) U Y:=(aM.trans<|P.bt λj B=>my _ B).trans<|b7.bt.lr.cut (λZ aw=>aw) λj B=>.inl<|mx _ B;have f1:∀j∈H,∃x,Y.heap.get? j=some x:=fn.here _ _ kJ;have ai:∀j x,U.heap.get? j=some x->∃x,Y.heap.get? j=some x:=by intro j x al;by_cases bv:C.T j;obtain⟨cd,bi,Z⟩:=an.good.cI j<|.inl<|.inl<|ap j bv;exact⟨cd,bi⟩;by_cases B:j∈be++H;rcases jD.mp B with B|B;obtain⟨Z,Z,aa,hm,al⟩:=an.lists j B;exact⟨_,al⟩;exact f1 j B;exact f0.all j x al bv B
  have cK:∀(ae dj:aB)(D:List aF),dd C (l.grow H) D ae dj->bf C ((l.grow H).grow D).X l.A l.fuel dj->(∀j∈D,∃x,dj.heap.get? j=some x)->∀j x,ae.heap.get? j=some x->∃x,dj.heap.get? j=some x:=by intro ae dj D bv kw f8 j x al;by_cases hf:C.T j;obtain⟨cd,bi,Z⟩:=kw.cI j<|.inl<|.inl<|ap j hf;exact⟨cd,bi⟩;by_cases B:j∈D;exact f8 j B;exact bv.all j x al hf B
  have g1:∀j,gl j->∃x,dL.heap.get? j=some x:=λj bn=>by obtain⟨x,al⟩:=aA j bn;by_cases B:j∈H;exact cr j B;by_cases bv:C.T j;obtain⟨cd,bi,Z⟩:=dK.good.cI j<|.inl<|.inl<|ap j bv;exact⟨cd,bi⟩;exact⟨x,P.keep j x al bv B⟩
  have fr:∀j,gl j->∃x,Y.heap.get? j=some x:=λj bn=>by obtain⟨x,al⟩:=g1 j bn;exact cK _ _ be b7.bt an.good (λj B=>by obtain⟨Z,Z,aa,hm,al⟩:=an.lists j B;exact⟨_,al⟩) j x al
  have aq:∀D ae,cj C (l.grow H) be D Y ae->(dd C l (D++H) U ae/\(∀j∈D,j∈I\/U.heap.get? j=none)/\∀j∈I,j∈D):=by
   intro D ae Q;refine⟨(f0.cut (λZ aw=>aw) λj B=>.inl ?_).trans<|Q.bt.lr.cut (λZ aw=>aw) λj B=>.inl<|mx _ B,λj B=>?_,λj B=>Q.old j<|av j B⟩;rcases jD.mp B with B|B;exact mx _<|Q.old j B;exact my _ B;rcases Q.new j B with q|q;exact cs j q;right;induction al:U.heap.get? j using b6 with
   |none=>rfl
   |some x=>
    obtain⟨cd,bi⟩:=ai j x al;rw[q]at bi;cases bi
  have ad:∀D ae,cj C (l.grow H) be D Y ae->cj C l I D U ae:=λD ae Q=>
   let⟨ce,ch,ci⟩:=aq D ae Q
   ⟨ce.cut (λZ aw=>aw) λj B=>by
    rcases jD.mp B with B|B;exact .inl B;exact .inr (a2 j B).2,ch,ci⟩
  have az:∀aX D ae,bg C (l.grow H) fd aX D ae->cj C (l.grow H) be D Y ae->
    (St (ga+1) ae.heap/\(∀j,ac j->l.X j\/j∈D)/\(∀j∈D,ac j\/¬gl j)/\(∀j,gl j->∃x,ae.heap.get? j=some x)/\(∀as∈H,as∉D)):=by
   intro aX D ae G Q
   refine⟨J _ _ D Q.new Q.bt kJ,λj q=>(gt j q).imp id<|Q.old j,λj B=>?_,λj bn=>?_,λas B q=>?_⟩
   rcases Q.new j B with q|q
   exact cl j q
   right
   intro bn
   obtain⟨x,al⟩:=fr j bn
   rw[q]at al;cases al
   obtain⟨x,al⟩:=fr j bn
   exact cK _ _ D Q.bt G.good (λj B=>by obtain⟨Z,Z,aa,hm,al⟩:=G.lists j B;exact⟨_,al⟩) j x al
   rcases Q.new as q with ab|ab
   exact bm as B ab
   obtain⟨x,al⟩:=f1 as B
   rw[ab]at al;cases al
  refine lc fd (σ.vals jp) as g2 (l.grow H) f4 ii be Y an _ _ ?_;cases g2 with
  |next aX=>
   intro D ae G Q;obtain⟨aJ,dV,fi,ay,ah⟩:=az aX D ae G Q;obtain⟨ce,ch,ci⟩:=aq D ae Q;exact aH fd aX K as db aL l f4 af ac gl aI H ao St (ga+1) I D U ae ax (by have:=(qC.mp au).1;exact G7 o) fn aJ dV a1 fi ay a2 ah G ap ca aj ce ch ci ar aT aK
  |cont aX=>
   intro D ae G Q;obtain⟨aJ,dV,fi,ay,ah⟩:=az aX D ae G Q;obtain⟨ce,ch,ci⟩:=aq D ae Q;exact aH fd aX K as db aL l f4 af ac gl aI H ao St (ga+1) I D U ae ax (by have:=(qC.mp au).1;exact G7 o) fn aJ dV a1 fi ay a2 ah G ap ca aj ce ch ci ar aT aK
  |brk aX=>
   simp at af;subst af;intro D ae G Q;refine aK D ae ((G.pd.drop ap ca aj).sim ?_)<|ad D ae Q;exact⟨G.good.handled,G.good.depth,G.good.units,G.good.guards,λj V=>G.good.cI j<|V.elim (λab=>.inl<|.inl ab) .inr,λj bv=>.inl<|ap j bv,G.good.ok,G.good.tok⟩
  |ret kt=>
   simp at af;subst af;intro is D ae Q k aR;exact aK is D ae (ad D ae Q) (λj B=>⟨λq=>(k j B).1<|.inl q,(k j B).2⟩)<|aR.less λj q=>.inl q
def ug(j:dv C O N)(A:N<=g.fuel)(y:fB O n a σ.plus d=I k)(q:k=true->cc C g a (ep e g.env) σ w)(B:k=false->cc C g a (ep x g.env) σ w):cc C g a (dY (.If d e x i) g.env) σ w:=by intro G l ak F D H;refine HN<|(eN j n).lZ a σ.plus d k g l ak.borrow A y l (aw.refl l) ak.dD _ _ λm f=>?_;have h:=ak.ext f;induction k using bz with|true=>exact q rfl G m h F D (H.from h<|cj.ext f)|false=>exact B rfl G m h F D<|H.from h<|cj.ext f
def FP(j:dv C O N)(t:N<=g.fuel)(x:bh O n b σ.plus i=I d):cc C g b (dY (.Return (I i) f) g.env) σ (.ret d):=by intro y l ak h H D;refine BZ<|(eN j n).dN b σ.plus i d g l ak.borrow t x l (aw.refl l) ak.dD _ _ λG q k F=>?_;exact D G y q (cj.ext k) (λA B=>⟨(ak.lists A B).1,by obtain⟨Z,Z,aa,J,i⟩:=(ak.ext k).lists A B;exact⟨_,i⟩⟩) F
def acL:cc C g b (dY (.Return ai i) g.env) σ (.ret .none):=by intro y l ak h j k;exact agQ (k .none y l cj.refl (λf n=>⟨(ak.lists f n).1,by obtain⟨Z,Z,aa,r,d⟩:=ak.lists f n;exact⟨_,d⟩⟩) .none)
def abv(j:ub a σ s=I k):∃b q,s=.Call (.Name "range" b) k [] q/\a.global "range"=ah:=bK j λab l j=>by have q:=cw j;have d:=aY (aY q.1).1;rw[bF d.1]at d;exact⟨ab.2.1,ab.2.2.2,by rw[A' l,bF (aY (aY q.1).1).1,q.2],d.2⟩
def acH(L:dv C O N)(U:N<=j.fuel)(ao:vd C O N M n)(B:((ub l σ h).elim ((er O n l σ.strict d h).bind λg=>if σ.pure||gC g then some g else none) λi=>(fj O n l σ.plus i).bind eo)=some g)(ag:uA O l M n σ d y g=some al):cc C j l (dY (.For d h y [] a1) j.env) σ al:=by
 intro R P ak az ay aA;have ac:∀H ae D,aw C P ae->(∀y∈D,P.heap.get? y=none)->vx C (j.grow R) d H D g ae->
   fU (aQ C.prog C.w) j.A (.forLoop d H y [] j.env) (λal ae=>match al with|.ok a2=>az a2 ae|.error am=>cameBackBy (aQ C.prog C.w) j.A j.env ay am ae) ae:=by
  intro H ae D af G Y
  obtain⟨St,av,st⟩:=Y
  have aq:=av.here _ _ st
  have ar:∀y∈D,y∉R:=λI K q=>by obtain⟨Z,Z,aa,aC,am⟩:=ak.lists I q;rw[G I K]at am;cases am
  refine ao l σ d y g al j U ag (j.grow R).X _ H D g St 0 R R P ae Bo (cO _) av st (λI q=>q) (λI q=>.inl q) (λI K=>.inl<|.inr K) (λI q=>q) (λI K=>⟨(ak.good.gg<|G I K).2.1,G I K⟩) ar (ak.yN af G aq) ak.a_ ak.cE ak.eE af.bt (λI K=>.inl K) (λI K=>K) ak.good _ aA
 induction V:ub l σ h using b6 with
 |some i=>
  rw[V]at B;dsimp only[BG]at B;rw[mz]at B;obtain⟨ah,aj,an⟩:=B;obtain⟨aB,dO,rfl,ap⟩:=abv V;refine QA (Nd (c:=j) (kx ak.borrow ap L.range) ((eN L n).jS l σ.plus i ah j P ak.borrow U aj) an rfl (aw.refl P) ak.dD λal I y k aD aE aF au ab ai ad F=>?_) λZ=>rfl;exact e1.ofRange (C:=C) (c:=j.grow R) (target:=d) ak.good ab ai ad λH ae D af G Y=>ac H ae D af G<|F▸Y
 |none=>
  rw[V]at B;replace B:((er O n l σ.strict d h).bind λg=>if σ.pure||gC g then some g else none)=some g:=B;rw[mz]at B;obtain⟨ax,F,J⟩:=B;split at J;cases J;refine QA ?_<|(eN L n).zv _ _ _ _ _ F _;exact(eN L n).zy l σ.strict d h g (j.grow R) P ak.ok U F P (aw.refl P) ak.good _ _ ac;cases J
theorem Ax:∀{σ:aG},σ.pure=ah->σ.strict=σ.plus
 |[]=>@λZ=>rfl
 |p::w=>@λj=>by
  unfold aG.pure at j
  rw[O8,bY]at j
  have g:=Ax (σ:=w) j.2
  unfold aG.strict aG.plus at g ⊢
  rw[iM,if_pos j.1,c8,c8,g]
def bg.value{g:b_}{k:a0}{σ:aG}{y:List aF}{l:aB}{i:aq}{d:af}(j:dv C O N)(ak:bg C g k σ y l)(p:N<=g.fuel)(f:bh O n k σ.plus i=I d)(B:(σ.pure||eD d)=ah){h F:ar->aB->Prop} (q:∀t ae,bg C g k σ y ae->aw C l ae->Rz (g.grow y).X ae.heap t d->h t ae):aL (aQ C.prog C.w) g.A (cx i g.env) h F l:=by
 by_cases ax:σ.pure=ah;rw[<-Ax ax]at f;exact(eN j n).dN k σ.strict i d (g.grow y) l ak.ok p f l (aw.refl l) ak.good _ _ λt ae m D=>q t ae (ak.ext m) m D;have b:eD d=ah:=by simpa[ax]using B
 exact(eN j n).dN k σ.plus i d g l ak.borrow p f l (aw.refl l) ak.dD _ _ λt ae m D=>
  q t ae (ak.ext m) m (tq (λG H=>((ak.ext m).lists G H).2.2) b D)
inductive Ip(e t:aq)(line:Nat)(env:Env):Prop
 |no (h:swapsWith e (some t) line env=pure false)
 |yes (elt gens scope p x q) (he:e=.ListComp elt gens scope p) (ag3:t=.Name x q) (h:swapsWith e (some t) line env=pure true)
set_option tactic.hygienic true in
def ac6:Ip (.ListComp d a l s) e b c:=by
 cases e<;>try exact .no rfl
 rename_i m q;cases f:(c.blockKind==.function&&c.kindOf m==I .local&&q.line==(PySem.Expr.ListComp d a l s).pos.line&&!(l.names.any λ(n,k)=>n==m&&(k==.local||k==.cell)));exact .no (by show bq _=_;rw[f]);exact .yes _ _ _ _ _ _ rfl rfl (by show bq _=_;rw[f])
def ac7(j:bh O n a f i=I d):Ip i k b c:=by cases i<;>first|exact .no rfl|exact ac6|(cases n<;>exact nS j)
def N9(j:bh O n A w i=I d):mC i (I t) line env=bq av\/(∃D C B E F q,i=.ListComp D C B E/\t=.Name F q/\mC i (I t) line env=bq ah):=match ac7 j with|.no j=>.inl j|.yes Z l y k m r f s g=>.inr ⟨_,_,_,_,_,_,f,s,g⟩
def r0(aq:dv C O N)(aC:N<=h.fuel)(F:bh O n be σ.plus i=I d)(aD:(σ.pure||eD d)=ah)(D:eR be (.Name a2 a1) d []=I an):
  cc C h be (dY (.Assign [.Name a2 a1] i bd) h.env) σ (.next<|σ.vals an):=by
 intro ap aK ak a6 a5 ad
 rcases N9 (t:=.Name a2 a1) (line:=bd.line) (env:=h.env) F with ay|⟨aB,ar,R,aW,bj,bc,rfl,ba,ay⟩
 rw[HB _ _ _ _ _ ay]
 refine aA<|dT<|aA<|ak.value aq aC F aD λa4 M G P aX=>?_
 have:=G.eR aX D (Q:=λZ ae=>a6 .next ae) (E:=a5) λf B H=>ad ap f B<|(cj.ext P).trans G H
 rw[Qc]at this
 rw[show(do gs a1;ov h.env a2 a4;bq gU:cA nt)=((do gs a1;ov h.env a2 a4)>>=λZ=>bq .next)by simp[uK]]
 exact aA<|fh this (λZ ae q=>a' q) λZ Z ab=>ab
 rw[agC _ _ _ _ ay]
 refine aA<|dT<|aA ?_
 induction ar using bb with
 |nil=>cases n<;>exact nS F
 |cons a9 aO=>
 obtain⟨aj,V,aG,k⟩:=a9
 induction n using cN with
 |zero=>exact nS F
 |succ n=>
 have aQ:∃j,d=.list j:=iK F λZ F=>bK F λZ Z F=>bK F λZ Z F=>bK F λj Z F=>⟨j,(cw F).2.symm⟩
 obtain⟨j,rfl⟩:=aQ
 have ax:σ.pure=ah:=(OS.mp aD).elim id λq=>fT q
 rw[<-Ax ax]at F
 have U:=g8 F
 clear F
 have aE:k=0:=bF U.1
 subst aE
 refine bK U.2 λa7 aP F=>bK F λa8 aR F=>bK F λaV aF F=>?_
 have aS:=(cw F).1
 have aM:=(af.list.inj (cw F).2).symm;subst aM
 clear F U
 ··show aL _ _ (do let _<-Hw (.ListComp aB (⟨aj,V,aG,0⟩::aO) R aW) R h.env _ (HD []) av (cx V h.env) (I<|hE (.Name a2 a1) h.env)) _ _ aK
   refine aA<|JL (c:=h.grow ap) aq (eN aq n) ak.ok aC aP aR aF (eS aS) (aw.refl aK) ak.good λM bi l a3 P am a0 au aX=>?_
   show aL _ _ (hE (.Name a2 a1) h.env<|.ref bi) _ _ M
   have aT:∀J∈[l],aK.heap.get? J=ai:=λJ D=>by replace D:=c_.mp D;exact D▸am
   have U:∀J∈[l],∃ao,M.heap.get? J=I ao:=λJ D=>by replace D:=c_.mp D;subst D;obtain⟨ao,Z,Z,i,Z⟩:=au;exact⟨ao,i⟩
   have G:=ak.yN P aT U
   have aY:Rz ((h.grow [l]).grow ap).X M.heap (.ref bi) (.list j):=aX.less λJ D=>by rcases D with(D|D)|D;exact .inl<|.inl D;simp at D;exact .inr D;exact .inl<|.inr D
   have T:=ak.good.gg am
   have al:l∉ap:=λK=>by obtain⟨Z,Z,aa,a3,i⟩:=ak.lists l K;rw[am]at i;cases i
   have Y:¬h.X l:=λq=>T.2.2<|.inl q
   refine G.eR aY D λf B H=>?_
   refine⟨a3,mc au λao i=>H.bt.keep _ ao i T.1 (λaz=>Y<|ak.cE _ az) al,λas aZ=>?_⟩
   have ac:dB C [l] f {f with heap:=as}:=dB.of (dE T.1) (dE T.2.1) (dE<|Ag<|mc au λao i=>H.bt.keep _ ao i T.1 (λaz=>Y<|ak.cE _ az) al) λJ ao D i=>(aZ.2 J<|by simpa using D).trans i
   have aH:iu C (h.grow [l]) [l]:=⟨λq=>by simp at q;exact Y<|q▸ak.cE _ ak.ok.loc.e_,λaU J D q=>by simp at q;exact Y<|q▸ak.eE aU J D,λJ D=>.inr D⟩
   have aI:=(B.pd.only aH (λJ D K=>by simp at D;exact al<|D▸K) ac).drop ak.a_ ak.cE ak.eE
   have aJ:dd C h (l::ap) aK {f with heap:=as}:=(P.bt.trans<|H.bt.lr.cut (λZ az=>az) λJ K=>.inl<|dt _ K).trans (ac.bt λJ K=>by simp at K;simp[K])
   have b7:bf C (h.grow ap).X h.A h.fuel f:=⟨B.good.handled,B.good.depth,B.good.units,B.good.guards,λJ D=>B.good.cI J<|D.elim (λab=>.inl<|.inl ab) .inr,λJ bg=>.inl<|ak.a_ J bg,B.good.ok,B.good.tok⟩
   have aN:bf C (h.grow ap).X h.A h.fuel {f with heap:=as}:=b7.bt (c:=h) (ac.bt (gZ:=[l]) λZ K=>K) λJ K ag=>by replace K:=c_.mp K;subst K;exact(ag.elim Y al).elim
   exact a' (a' (ad ap _ (aI.sim aN) ⟨aJ.cut (λZ az=>az) λJ K=>by
    rcases c9.mp K with rfl|K;exact .inr am;exact .inl K,λJ K=>.inl K,λJ K=>K⟩))
noncomputable def lS:List aq->Option (List au)|[]=>I []|e::w=>(fo e).bind λab=>(lS w).map (ab.1::·)
inductive yh:List aq->List Str->Prop
 |nil:yh [] []
 |cons {x p bA a6}:yh bA a6->yh (.Name x p::bA) (x::a6)
def yP:∀{a6:List au},lS b=I a6->yh b a6:=by induction b with|nil=>exactλj=>aZ j▸.nil|cons i b g=>exactλj=>bK j λab l j=>fm j λm j i=>i▸jy l▸.cons (g j)
def Tz(j:hF a b g f=I c):∃a6,lS b=I a6/\a6.length=b.length:=by replace j:=rj j;induction j with|nil=>exact⟨[],rfl,rfl⟩|cons Z t d=>exact d.elim λa6 i=>⟨_::a6,n0 i.1 rfl,congrArg (·+1) i.2⟩
set_option tactic.hygienic true in
def TB:∀{b:List aq}{a6:List au}{j:List af}{aa:List ar}{f i:cf}{l:aB},lS b=I a6->b1 C c a f l->bf C c.X c.A c.fuel l->hF a b j f=I i->RzL c.X l.heap aa j->(∀ae,dU C c l ae->b1 C c a i ae->(∀B G,B∉a6->bD C l.heap c.env B G->bD C ae.heap c.env B G)->am () ae)->aL (aQ C.prog C.w) c.A (u2 (a6.map λm=>ov c.env m) aa) am as l:=by
 intro b a6 j aa f i l ag k O P aj q;replace P:=rj P;replace ag:=yP ag;induction P generalizing a6 aa l with
 |nil=>
  cases ag;cases aj;exact a'<|q l (dU.refl l) k λZ Z Z P=>P
 |@cons m av b d j f i R ap ad=>
  cases ag with
  |@cons Z an ao V ac=>
  cases aj;rename_i ak T ah ai;show aL _ _ (u2 (ov c.env m::V.map λm=>ov c.env m)<|ak::T) _ _ _;rw[IC];refine aA<|du<|CJ O k.loc (k.own m (aY R).1 (aY R).2) λL st K ab U=>?_;have H:b1 C c a ((m,d)::f) L:=⟨k.sc,k.glob,k.blt,k.a_,k.own,k.cells,λB W N=>by
   rw[ey]at N;induction t:B==m using bz with
   |true=>
    rw[t]at N;exact bF t▸⟨ak,ab,aZ N▸st.n8 O k.loc ah⟩
   |false=>
    rw[t]at N;exact(k.names B W N).elim λG al=>⟨G,U B G (by simpa using t) al.1,st.n8 O k.loc al.2⟩,K⟩
  exact ad (a6:=V) H (O.step st) (dU.rS O k.loc st ai) (λM D J n=>q M (st.trans D) J λB G F Y=>n B G (Ej F)<|U B G (Ah<|Ei F) Y) ac
def So{a6 m:List au}(j:lS b=I a6)(d:lS p=I m):lS (b++p)=I (a6++m):=by replace j:=yP j;induction j with|nil=>exact d|cons Z g=>exact n0 g rfl
def Sq{a6:List au}(j:lS b=I a6):lS b.reverse=I a6.reverse:=by
 replace j:=yP j;induction j with
 |nil=>rfl
 |cons Z g=>
  rw[Bx,Bx];exact So g rfl
theorem RzL.reverse:∀{g aa},RzL c j aa g->RzL c j aa.reverse g.reverse|[]=>λw=>w.nK λi=>i▸.nil|Z::t=>λw=>w.cK λZ Z f p i=>by rw[i,Bx,Bx];exact p.reverse.append<|.cons f .nil
theorem KJ(c:∀e m,y e=some m->∃s,e=.Name m s):∀{a9:List aq},(a9.filterMap y).length=a9.length->lS a9=some (a9.filterMap y)
 |[]=>@λZ=>rfl
 |e::a9=>@λj=>by
  induction b:y e using b6 with
  |none=>
   rw[List.filterMap_cons_none b]at j;have:=Pm y a9;simp at j;omega
  |some m=>
   obtain⟨s,rfl⟩:=c e m b;rw[List.filterMap_cons_some b]at j ⊢;simp only[gG,Nat.add_right_cancel_iff]at j;exact b' (a:=(m,s)) rfl<|n0 (KJ c j) rfl
def Wv{a b:aq->Option au}{a9:List aq}(j:∀i,a i=b i):a9.filterMap a=a9.filterMap b:=by rw[show a=b from funext j]
def qr(c:kQ)(b:Nat):aq->Option au:=FU (λid=>c.kindOf id==I .local) b
def ac1(j:qr c b i=I m):∃s,i=.Name m s:=by cases i<;>first|exact nS j|exact⟨_,congrArg (PR · _) (cw j).2⟩
def ac8{a9 aa:List aq}:sP [.Tuple a9 k a] (.Tuple aa s h) c=(if(!(a9.length==2||a9.length==3)||aa.length !=a9.length||c.blockKind !=.function)=ah then bq ai else if aa.any eM=ah then bq ai else if((a9.filterMap (qr c ((a9.head?.map (·.pos.line)).getD 0))).length !=a9.length||(a9.filterMap (qr c ((a9.head?.map (·.pos.line)).getD 0))).eraseDups.length !=(a9.filterMap (qr c ((a9.head?.map (·.pos.line)).getD 0))).length)=ah then bq ai else if aa.all (Qi 8)=ah then bq ai else if aa.all (Qf 8)=ah then BW "assign.tuple-of-constant-expressions:order-of-the-stores">>=λZ:PUnit=>bq (I (a9.filterMap (qr c ((a9.head?.map (·.pos.line)).getD 0))))else bq (I (a9.filterMap (qr c ((a9.head?.map (·.pos.line)).getD 0))))):=z
set_option tactic.hygienic true in
def ac5{a9 aa:List aq}(n:env.scope=a.sc)(y:a.sc.kind=.function)(j:AW a a9 aa=I c):(c=av/\sP [.Tuple a9 k p] (.Tuple aa l7 MS) env=bq ai)\/(c=ah/\∃d,lS a9=I d/\sP [.Tuple a9 k p] (.Tuple aa l7 MS) env=bq (I d)):=by
 have g:env.blockKind=.function:=by unfold Env.blockKind;rw[n,y];rfl
 rw[ac8,g,bne_self_eq_false,Gx];unfold AW at j;by_cases s:(!(a9.length==2||a9.length==3)||aa.length !=a9.length)=ah;rw[if_pos s]at j;cases j;left;rw[if_pos s];exact⟨rfl,rfl⟩;rw[if_neg s]at j ⊢;by_cases l:aa.any eM=ah;rw[if_pos l]at j ⊢;cases j;exact .inl ⟨rfl,rfl⟩;rw[if_neg l]at j ⊢;have t:∀i,qr env ((a9.head?.map (·.pos.line)).getD 0) i=FV a ((a9.head?.map (·.pos.line)).getD 0) i:=λi=>congrArg (λD=>FU D _ i) (funext λid=>by show(env.scope.names.lookup id==_)=_;rw[n]);rw[Wv t];dsimp only at j;generalize C:a9.filterMap (FV a ((a9.head?.map (·.pos.line)).getD 0))=d at j ⊢;by_cases q:(d.length !=a9.length||d.eraseDups.length !=d.length)=ah;rw[if_pos q]at j ⊢;cases j;exact .inl ⟨rfl,rfl⟩;rw[if_neg q]at j ⊢;by_cases w:aa.all (Qi 8)=ah;rw[if_pos w]at j ⊢;cases j;exact .inl ⟨rfl,rfl⟩;rw[if_neg w]at j ⊢;by_cases A:aa.all (Qf 8)=ah;rw[if_pos A]at j;cases j;rw[if_neg A]at j ⊢;cases j;refine .inr ⟨rfl,d,?_,rfl⟩;have r:d.length=a9.length:=by simp only[mu,bne_iff_ne,not_or,ne_eq,Decidable.not_not]at q;exact q.1
 rw[<-C]at r ⊢;refine KJ (λi m B=>?_) r;exact ac1 (t i▸B:qr env _ i=I m)
def Sp{a6:List au}(j:lS b=I a6)(k:a∈a6):∃s,PR a s∈b:=by replace j:=yP j;induction j with|nil=>cases k|@cons d s Z t c g=>exact(c9.mp k).elim (λi=>⟨s,i▸dA⟩) λj=>(g j).elim λq r=>⟨q,dt _ r⟩
def abe(j:xr i=ai):sP [.Tuple a9 k s] i c=bq ai:=by cases i<;>first|rfl|exact sN j
def adw{aa}(j:xr i=I aa):∃k s,i=.Tuple aa k s:=by obtain⟨ab,l,rfl⟩:=tL j;exact⟨_,_,uz l⟩
def SX(j:rh a (.Tuple a9 k s) i d=I m):∃g,d=.tuple g/\((xr i).elim (hF a a9 g []) λaa=>(AW a a9 aa).bind λn=>if n then hF a a9.reverse g.reverse []else hF a a9 g [])=I m:=by cases d<;>first|exact nS j|exact⟨_,rfl,j⟩
set_option tactic.hygienic true in
def acE(au:dv C O N)(ay:N<=g.fuel)(am:bh O n a1 σ.plus j=some d)(aB:(σ.pure||eD d)=ah)(D:rh a1 (.Tuple a9 k l) j d=some h):
  cc C g a1 (dY (.Assign [.Tuple a9 k l] j i) g.env) σ (.next<|σ.vals h):=by
 intro as aS ak aK aJ x
 have af:mC j (some<|.Tuple a9 k l) i.line g.env=bq av:=by rcases N9 (t:=.Tuple a9 k l) (line:=i.line) (env:=g.env) am with af|⟨_,_,_,_,_,_,_,aC,_⟩;exact af;cases aC
 rw[agD]
 refine aA<|dT<|aA ?_
 show aL _ _ (mC j (some<|.Tuple a9 k l) i.line g.env) _ _ _
 rw[af]
 refine a' ?_
 simp only[j8,if_false]
 refine aA<|ak.value au ay am aB λbd f F P aH=>?_
 replace D:=SX D
 obtain⟨U,rfl,D⟩:=D
 have plain:hF a1 a9 U []=some h->sP [.Tuple a9 k l] j g.env=bq none->aL (aQ C.prog C.w) g.A (do
   let a2<-sP [.Tuple a9 k l] j g.env
   assignStores g.env bd a2 ((Ht [.Tuple a9 k l] g.env).map (·.2))) aK aJ f:=by
  intro D H
  rw[H]
  refine aA<|a' ?_
  show aL _ _ (hE (.Tuple a9 k l) g.env bd>>=λZ=>bq gU) _ _ _
  exact aA<|F.eR (target:=.Tuple a9 k l) aH D λaj B V=>a'<|x as aj B<|(cj.ext P).trans F V
 induction K:xr j using b6 with
 |none=>
  rw[K]at D;exact plain D<|abe K
 |some aa=>
  rw[K]at D;obtain⟨al,ae,D⟩:=oD D;obtain⟨aE,aF,rfl⟩:=adw K;rcases ac5 (k:=k) (l7:=aE) (p:=l) (MS:=aF) (env:=g.env) (ak.ok.sc) (by rw[<-ak.ok.sc];exact ak.ok.loc.kind) ae with⟨rfl,H⟩|⟨rfl,G,an,H⟩;exact plain (by simpa using D) H;simp only[if_true]at D;rw[H];refine aA<|a' ?_;show aL _ _ (HG "assign.swapped-stores">>=λZ=>unpackItems bd G.length none>>=λer=>u2 (G.reverse.map λn=>ov g.env n) er.reverse>>=λZ=>bq gU) _ _ _;refine aA<|va<|aA ?_;cases aH;rename_i aM M aP aO ab ap;obtain⟨aI,T,R⟩:=Tz D;have I:=Sq an;have ad:G.length=M.length:=by rw[I]at T;cases T;have aN:=ap.length;have ax:a9.reverse.length=U.reverse.length:=(IU (env:=g.env) D).1;simp at R ax;omega
  have az:f.heap.IsTuple aM M.toArray:=⟨_,ab,rfl,aP,rfl⟩;rw[ad];have ao:M.length=M.toArray.size:=by simp
  rw[ao];refine wpAny_unpackItems_tuple F.good.handled az λac ag=>?_;have kp:∀al ar,f.heap.get? al=some ar->ac.get? al=some ar:=λal ar j=>ag al ar (f'<|il j) j;have J:aw C f {f with heap:=ac}:=aw.of_keep kp;have B:=F.ext J;have aq:RzL (g.grow as).X ac M.reverse U.reverse:=(F.good.gn J ap).reverse;refine aA ?_;exact TB (c:=g.grow as) I B.ok B.good (I8 (hz:=[]) D) aq λeH st ai aG=>by obtain⟨L,Y⟩:=B.stored st ai aG λaR aD=>I9 D (.inl (by obtain⟨q,ae⟩:=Sp I aD;exact ae8.mpr ⟨.Name aR q,ae,rfl⟩));exact a'<|x as eH L<|(cj.ext<|P.trans J).trans B Y
inductive yj(S:a0)(d:af):List aq->cf->cf->Prop
 |nil (aK):yj S d [] aK aK
 |cons {x p a9 aK qx} (ag:(S.own.contains x&&jo x)=true):yj S d a9 ((x,d)::aK) qx->yj S d (.Name x p::a9) aK qx
theorem CI:∀{a9:List aq}{f c:cf},s' a a9 d f=I c->yj a d a9 f c
 |[]=>λj=>aZ j▸.nil _
 |t::a9=>λj=>by
  refine bK j λn s l=>?_
  obtain⟨m,b,rfl,ag,rfl⟩:=yW s
  exact .cons ag<|CI l
def Zq{σ:aG}:∀{a9:List aq}{aK e:cf}{l:aB},bg C g B (σ.vals aK) f l->Rz (g.grow f).X l.heap j d->s' B a9 d aK=I e->(∀ae,bg C g B (σ.vals e) f ae->cj C g f f l ae->al () ae)->aL (aQ C.prog C.w) g.A (Qb j<|a9.map λU=>hE U g.env) al ac l:=by
 intro a9 aK e l ak aa M q;replace M:=CI M;induction M generalizing l with
 |nil=>exact a'<|q l ak cj.refl
 |@cons m D a9 aK e ag F O=>
  have G:∀{i:Unit->aB->Prop},(∀ae,bg C g B (σ.vals<|(m,d)::aK) f ae->cj C g f f l ae->Rz (g.grow f).X ae.heap j d->i () ae)->aL (aQ C.prog C.w) g.A (hE (.Name m D) g.env j) i ac l:=by intro i P;have F:eR B (.Name m D) d []=I [(m,d)]:=if_pos ag;refine yZ (c:=g.grow f) ak.ok ak.good (Ja F) aa λae st k Y=>?_;have lR:=ak.stored st k Y λab N=>Jb F N;exact P ae lR.1 lR.2<|dU.n8 ak.good ak.ok.loc st aa
  induction a9 using bb with
  |nil=>
   cases F;exact G λae H K Z=>q ae H K
  |cons V n=>
   show aL _ _ (gr [j] (hE (.Name m D) g.env j)>>=λZ=>Qb j<|(V::n).map λU=>hE U g.env) _ _ _;exact aA<|du<|G λT H K R=>O H R λae J L=>q ae J<|K.trans H L
def SY(j:s' a a9 d f=I b):(Ht a9 c).map (·.2)=a9.map λk=>hE k c:=by replace j:=CI j;induction j with|nil=>rfl|cons Z e g=>exact congrArg (_::·) g
def ac4:sP (b::m::a9) i c=bq ai:=by cases b<;>first|rfl|(cases i<;>rfl)
def acJ(D:dv C O N)(F:N<=g.fuel)(G:bh O n j σ.plus k=I d)(H:(σ.pure||eD d)=ah)(q:s' j (f::m::a9) d []=I h):cc C g j (dY (.Assign (f::m::a9) k i) g.env) σ (.next<|σ.vals h):=by intro y l ak R P x;rw[agD];refine aA<|dT<|aA<|a' ?_;simp only[j8,if_false];refine aA<|ak.value D F G H λM p A B w=>?_;rw[SY q];rw[ac4];refine aA<|a' ?_;show aL _ _ (Qb M ((f::m::a9).map λL=>hE L g.env)>>=λZ=>bq gU) _ _ _;exact aA<|Zq (σ:=σ) (aK:=[]) A w q λae J K=>a'<|x y ae J<|(cj.ext B).trans A K
def acF(j:dv C O N)(af:N<=g.fuel)(ag:i3 h m=true)(ai:σ.lookup m=I (.val f))(aa:bh O n h σ.plus i=I am)(aj:O.aug ac f am=I d)(ar:(σ.pure||eD d)=true):cc C g h (dY (.AugAssign (.Name m a1) ac i a2) g.env) σ (.next<|σ.set m<|.val d):=by
 intro al V ak aA az ab;have aB:eR h (.Name m a1) d []=I [(m,d)]:=by show pR h (.Name m a1) d []=_;exact yX ag
 have l:∀t F,aw C V F->Rz (g.grow al).X F.heap t d->aL (aQ C.prog C.w) g.A (yc g.env m t) (λZ ae=>aA .next ae) az F:=by
  intro t F D an;have B:=ak.ext D;simp only[i3,bY]at ag;refine AU (c:=g.grow al) B.good B.ok.loc (B.ok.own m ag.1 ag.2) λae st av au ao=>?_;have k:b1 C (g.grow al) h ([(m,d)]++σ.strict) ae:=⟨B.ok.sc,B.ok.glob,B.ok.blt,B.ok.a_,B.ok.own,B.ok.cells,λad aq i=>by
   rw[GK,GR,ey]at i;induction H:ad==m using bz with
   |true=>
    rw[H]at i;cases i;rw[bF H];exact⟨t,au,st.n8 B.good B.ok.loc an⟩
   |false=>
    rw[H]at i;obtain⟨ap,as,ay⟩:=B.ok.names ad aq i;exact⟨ap,ao ad ap (by simpa using H) as,st.n8 B.good B.ok.loc ay⟩,av⟩
  obtain⟨T,Y⟩:=B.stored (names:=[m]) st k (λad ap H=>ao ad ap<|by simpa using H) λad H=>by simp at H;subst H;exact⟨d,by simp[ey]⟩
  exact ab al ae T<|(cj.ext D).trans B Y
 by_cases ax:σ.pure=true;rw[<-Ax ax]at aa;obtain⟨J,G,L⟩:=ak.ok.names m f<|(gq ak.keys).mpr ai;refine Qz<|bD.load G ?_;refine(eN j n).dN h σ.strict i am (g.grow al) V ak.ok af aa V (aw.refl V) ak.good _ _ λR F D M=>?_;exact j.aug ac f am d aj (g.grow al).X g.A g.fuel F J R (ak.good.ext D) (ak.good.mono D L) M _ _ λt P K an=>l t P (D.trans K) an;have ah:eD d=true:=by simpa[ax]using ar
 obtain⟨J,G,L⟩:=ak.ok.names m f<|(gq ak.keys).mpr ai;have U:Rz g.X V.heap J f:=L.less λam q=>.inl q;refine Qz<|bD.load G ?_;refine(eN j n).dN h σ.plus i am g V ak.borrow af aa V (aw.refl V) ak.dD _ _ λR F D M=>?_;exact j.aug ac f am d aj g.X g.A g.fuel F J R (ak.dD.ext D) (ak.dD.mono D U) M _ _ λt P K an=>l t P (D.trans K)<|tq (λf aC=>((ak.ext<|D.trans K).lists f aC).2.2) ah an
inductive B4:aq->Prop
 |list {bA p}:B4 (.List bA p)
 |add {x q r p}:B4 (.BinOp (.Name x q) .Add r p)
def KZ(j:ru i=ah):B4 i:=by rcases OS.mp j with j|j;exact(mT j).elim λab a=>OK a▸.list;obtain⟨ab,l,j⟩:=eU j;obtain⟨n,s⟩:=mT (aY j).1;rw[OH l,jy s,bF (aY j).2];exact .add
def WL(P:dv C O N)(k:b1 C d am ac f)(G:bf C d.X d.A d.fuel f)(t:N<=d.fuel)(K:ru i=ah)(D:bh O n am ac i=I (.list h))(q:∀R ae aa Z,aw C f ae->f.heap.get? R=ai->ae.heap.get? R=I ⟨.type "list",ai,.seq ⟨aa⟩ Z,#[]⟩->RzL d.X ae.heap aa h->al (.ref R) ae):aL (aQ C.prog C.w) d.A (cx i d.env) al as f:=by
 induction n using cN with
 |zero=>exact nS D
 |succ n=>
 have H:=eN P n;replace K:=KZ K;cases K with
 |list=>
  refine bK D λad T D=>?_;obtain⟨J,i⟩:=cw D;obtain rfl:=af.list.inj i;have ak:=eS J;rw[Qa];refine aA<|dT<|aA<|(H.jS _ _ _ _ _ _ k t T _).1 f (aw.refl f) G _ _ λaa p ab ag=>?_;exact yg (q _ _ aa 0 (ab.trans aw.push) (ab.old G<|g7 _) (fs _ rfl)<|(G.ext ab).gn (aw.push (eV:=p.toks)) ag) (by rw[ag.length,hT];exact ao o z)
 |add=>
  refine bK D λR Y D=>bK D λaj J D=>?_;rw[P'];refine aA<|H.dN _ _ _ _ _ _ k t Y f (aw.refl f) G _ _ λaq p B L=>aA<|du<|H.dN _ _ _ _ _ _ k t J p B (G.ext B) _ _ λap M F j=>aA<|dT<|qs ?_;exact P.cat R aj h D d.X d.A d.fuel M aq ap ((G.ext B).ext F) ((G.ext B).mono F L) j _ _ λan ae aa Z ar U V W=>q an ae aa Z ((B.trans F).trans ar) ((B.trans F).old G U) V W
def acK(G:dv C O N)(t:N<=b.fuel)(F:ru d=ah)(ag:i3 h f=ah)(L:bh O n h σ.plus d=I (.list g))(D:gC g=ah):cc C b h (dY (.Assign [.Name f j] d i) b.env) σ (.next<|σ.set f<|.own g):=by
 intro y Z ak V U q;have M:mC d (I<|.Name f j) i.line b.env=bq av:=by cases KZ F<;>rfl
 rw[HB _ _ _ _ _ M];refine aA<|dT<|aA<|WL G ak.borrow ak.dD t F L λP B aa Y k J l K=>aA<|dT<|aA ?_;have R:RzL (b.grow y).X B.heap aa g:=zB (λP T=>((ak.ext k).lists P T).2.2) D K;exact ak.anew k J l R D ag λae A H=>a'<|q _ ae A H
def bg.at'(ak:bg C g f σ y b)(ag:σ.lookup e=I (.own d)):∃h∈y,bD C b.heap g.env e (.ref h)/\∃aa r,b.heap.get? h=I ⟨.type "list",ai,.seq ⟨aa⟩ r,#[]⟩/\RzL (g.grow y).X b.heap aa d:=ak.own e d ag
def tk{g:b_}(d:bD C l.heap g.env m (.ref f))(q:h (.ref f) l):aL (aQ C.prog C.w) g.A (cx (.Name m b) g.env) h j l:=BY (bD.load d q) d.2.1
def vL{id:String}(f:d.any (·.1)=av)(t:jL C a d k ds)(m:aw C k b)(n:bf C a.X a.A a.fuel b)(q:∀aa ae,aw C b ae->RzL a.X ae.heap aa ds->aL (aQ C.prog C.w) a.A (fu (.builtin id) (first++aa) []) e j ae):aL (aQ C.prog C.w) a.A (hc i (.builtin id) first d []) e j b:=by exact vK f<|zt f t m n λaa p D B=>⟨rfl,⟨_,.inr rfl,P6 rfl⟩,q aa p D B⟩
set_option tactic.hygienic true in
def acA(Z:dv C O N)(ad:N<=g.fuel)(ax:(ac.endLine==an.line)=ah)(ag:σ.lookup a1=I (.own b))(P:eM i=av)(ae:bh O n a2 σ.plus i=I d)(af:eD d=ah)(al:b.length<=1000000):cc C g a2 (dY (.Expr (.Call (.Attribute (.Name a1 be) "append" ac) [i] [] an) bd) g.env) σ (.next<|σ.set a1<|.own<|b++[d]):=by
 intro y au ak aE aD K;obtain⟨f,H,U,aa,aA,t,ar⟩:=ak.own a1 b ag;have ai:nx g.env=av:=by unfold nx;have aj:g.env.scope.kind=.function:=ak.ok.loc.kind;rw[aj];rfl
 refine HM ?_ ai rfl;have R:hg [i] g.env=[(av,cx i g.env)]:=by rw[r1 P];rfl
 refine ye (T:="list") (id:="list.append") rfl (by rw[R];rfl) ax xY He PV ?_;refine tk U ⟨⟨_,t,rfl⟩,λaz ab=>by cases ab;exact⟨_,t,rfl⟩,?_⟩;have M:fv C g [i] au [d]:=rg ((eN Z n).dN a2 σ.plus i d g au ak.borrow ad ae) P;refine vL (M an).2 (M an).1 (aw.refl au) ak.dD λaC G r as=>?_;have h:=ak.ext r;cases as;rename_i aB ay ao aq;cases aq;have L:eX C (g.grow y) f b G:=⟨ak.e4 H,(ak.lists f H).2.1,h.off H,ak.tV H,aa,aA,r.keep _ _ t<|ak.e4 H,ak.good.gn r ar⟩;have V:Rz (g.grow y).X G.heap aB d:=tq (λf H=>(h.lists f H).2.2) af ao;refine vE (c:=g.grow y) L V al λq A B=>?_;obtain⟨Y,am,J,k⟩:=B.at';obtain⟨D,j⟩:=h.update ag (U.ext r) H A J k;exact K y q D<|(cj.ext r).trans h j
def z_{c:b_}{W:List aF}{aa:List ar}(j:l.toks<=eV)(y:¬C.T d)(i:¬C.P d)(h:l.heap.get? d=I ⟨.type "list",ai,.seq ⟨aa⟩ r,#[]⟩):dB C [d] l {l with heap:=l.heap.update d<|ft f,toks:=eV}/\∃e,(l.heap.update d<|ft f).get? d=I ⟨.type "list",ai,.seq ⟨(f ⟨aa⟩).toList⟩ e,#[]⟩:=by have g:=PW (ft f) h rfl;have n:x3 d l.heap (l.heap.update d<|ft f):=Hg ..;refine⟨dB.of (λp q=>by replace q:=c_.mp q;exact q▸y) (λp q=>by replace q:=c_.mp q;exact q▸i) (λp q=>by replace q:=c_.mp q;subst q;exact Af h MD) λp x q k=>(n.2 p<|by simpa using q).trans k,?_⟩;rw[g];simp only[ft];exact⟨_,rfl⟩
def acM(ad:dv C O N)(ai:N<=g.fuel)(ax:(j.endLine==a1.line)=ah)(ag:σ.lookup h=I (.own d))(aj:d.length<=1000000):cc C g a2 (dY (.Expr (.Call (.Attribute (.Name h as) "reverse" j) [] [] a1) al) g.env) σ (.next<|σ.set h<|.own d.reverse):=by
 intro y au ak ae aA L;obtain⟨i,U,R,aa,am,D,n⟩:=ak.own h d ag;have V:nx g.env=av:=by unfold nx;have Y:g.env.scope.kind=.function:=ak.ok.loc.kind;rw[Y];rfl
 refine HM ?_ V rfl;refine ye (T:="list") (id:="list.reverse") rfl rfl ax xY af9 PySem.F.type_list_reverse ?_;refine tk R ⟨⟨_,D,rfl⟩,λaf J=>by cases J;exact⟨_,D,rfl⟩,?_⟩;refine vL (ds:=[]) rfl jL.nil (aw.refl au) ak.dD λaz e A ab=>?_;cases ab;have B:=ak.ext A;have r:=A.keep _ _ D<|ak.e4 U;have P:(⟨aa⟩:Array ar).size<=u9:=by have:=n.length;show aa.length<=_;rw[hT];exact ao (bQ o)<|ao o z
 refine u4 af9 ⟨_,r,rfl⟩ PySem.F.entry_list_reverse (PySem.F.args_list_reverse_1 _) (AutoListH.list_reverse_list_0 i ⟨aa⟩ am P) ⟨r,?_⟩;show ae .next _
 obtain⟨H,an,J⟩:=z_ (c:=g) (W:=y) (f:=λh=>h.reverse) (eV:=e.toks) (cz _) (ak.e4 U) (ak.lists i U).2.1 r;have Z:RzL (g.grow y).X (e.heap.update i<|ft λh=>h.reverse) ((λh:Array ar=>h.reverse) ⟨aa⟩).toList d.reverse:=by have:=((ak.good.gn A n).reverse).mono (hr:=e.heap.update i<|ft λh=>h.reverse) λac aq M k=>H.keep ac aq k (λay=>M<|.inl<|ak.a_ ac ay) λq=>M (by simp at q;exact .inr<|q▸U);simpa using this
 obtain⟨G,K⟩:=B.update ag (R.ext A) U H J Z;exact L y _ G<|(cj.ext A).trans B K
def abh(j:rN i=I m):∃k t r,i=.Call (.Attribute (.Name m.1 k) ("pop":au) t) [m.2] [] r/\(t.endLine==r.line)=ah/\eM m.2=av:=bK j λab l j=>bK j λn s j=>bK j λf b j=>by have q:=cw j;have g:=aY q.1;have d:=aY g.1;rw[<-q.2];exact⟨n.2,ab.2.2.1,ab.2.2.2.2,by rw[A_ l,jy s,m2 b,bF d.1],d.2,jt g.2⟩
def abg(j:rN i=I (b,g)):∃d t s,i=.Call (.Attribute (.Name b d) ("pop":au) t) [g] [] s/\(t.endLine==s.line)=ah/\eM g=av:=abh j
def XP(b:oY k n=I w):∃c:Int,k=.int c/\0<=c/\c.toNat=w/\w<n/\n<=1000000:=by
 cases k<;>try exact nS b
 have a:=cw b;exact⟨_,rfl,a.1.1,a.2,a.2▸a.1.2.1,a.1.2.2⟩
def RzL.erase:∀{aa:List ar}(w:Nat),RzL c f aa g->RzL c f (aa.eraseIdx w) (g.eraseIdx w):=by
 induction g with
 |nil=>exactλw l=>l.nK λi=>by subst i;exact .nil
 |cons d g k=>
  exactλw l=>l.cK λt aa m p i=>by subst i;induction w using Mine.cN with|zero=>exact p|succ w=>exact .cons m<|k w p
set_option tactic.hygienic true in
def acB(ba:dv C O N)(bj:N<=g.fuel)(ax:(ce.endLine==co.line)=ah)(a3:(bi.endLine==a2.line)=ah)(aJ:bd≠bn)(ag:σ.lookup bd=I (.own bm))(aV:σ.lookup bn=I (.own a1))(a5:eM ca=av)(bk:bh O n ch σ.plus ca=I (.int al))(h0:0<=al)(bl:al.toNat=B)(bo:a1[B]?=I d)(a4:a1.length<=1000000)(bJ:eD d=ah)(br:bm.length<=1000000):cc C g ch (dY (.Expr (.Call (.Attribute (.Name bd cl) "append" ce) [.Call (.Attribute (.Name bn cd) "pop" bi) [ca] [] a2] [] co) ci) g.env) σ (.next<|aG.set (σ.set bn<|.own<|a1.eraseIdx B) bd<|.own<|bm++[d]):=by
 intro be bE ak bN bF aX;obtain⟨bb,bR,aU,aa,bO,as,bL⟩:=ak.own bd bm ag;obtain⟨a8,am,ay,k,bu,M,aN⟩:=ak.own bn a1 aV;have bG:bb≠a8:=λq=>aJ<|ak.apart bd bn bm a1 bb ag aV aU<|q▸ay;have aS:nx g.env=av:=by unfold nx;have bp:g.env.scope.kind=.function:=ak.ok.loc.kind;rw[bp];rfl
 refine HM ?_ aS rfl;refine ye (T:="list") (id:="list.append") rfl rfl ax xY He PV ?_;refine tk aU ⟨⟨_,as,rfl⟩,λbc U=>by cases U;exact⟨_,as,rfl⟩,?_⟩;have aY:∀{bs:cA ar}{bv:ar->aB->Prop}{h:aB},aL (aQ C.prog C.w) g.A bs bv bF h->aL (aQ C.prog C.w) g.A (bs>>=λa1=>gr [a1] u7>>=λZ=>bq a1) bv bF h:=
  λbt=>aA<|fh bt (λa1 aC a4=>aA<|du<|sQ<|a' a4) λZ Z bd=>bd
 unfold hc;refine aA<|du<|BI (x:=cx (.Call (.Attribute (.Name bn cd) "pop" bi) [ca] [] a2) g.env) (rest:=[])<|xX ?_;refine ye (T:="list") (id:="list.pop") rfl (by rw[r1 a5];rfl) a3 xY af8 PySem.F.type_list_pop ?_;refine tk ay ⟨⟨_,M,rfl⟩,λbc U=>by cases U;exact⟨_,M,rfl⟩,?_⟩;have a0:fv C g [ca] bE [.int al]:=rg ((eN ba n).dN ch σ.plus ca _ g bE ak.borrow bj bk) a5;refine vL (a0 a2).2 (a0 a2).1 (aw.refl bE) ak.dD λbM h H bB=>?_;have J:=ak.ext H;cases bB;rename_i bP bH bx bz;cases bz;cases bx;rename_i bs;have D:=H.keep _ _ M<|ak.e4 am;have P:=ak.good.gn H aN;have aT:=aN.length;obtain⟨bI,aI,bC⟩:=P.get bo;have au:B<k.length:=(qC.mp aI).1;refine u4 af8 ⟨_,D,rfl⟩ PySem.F.entry_list_pop (PySem.F.args_list_pop_2 _ _) (ahm a8 ⟨k⟩ bu al bs B bI (by
  show(decide _&&decide _)=ah;rw[decide_eq_true<|j9 z ‹0<=al›,decide_eq_true<|Int.lt_of_lt_of_le ((xH ‹0<=al›).mp<|‹al.toNat=B›▸au)<|j9 (gR.mpr<|ao (bQ aT) ‹_<=1000000›) z];rfl) ?_ (by simpa using aI) (by show k.length<=_;rw[hT];exact ao (bQ o)<|ao o z)) ⟨D,?_⟩
 unfold qT;have:¬al<0:=ja.mpr o;simp only[this,if_false];have bg:al<((k.length:Nat):Int):=(xH o).mp<|‹al.toNat=B›▸au;show(if(decide (0<=al)&&decide (al<((k.length:Nat):Int)))=ah then I al.toNat else ai)=I B;rw[decide_eq_true h0,decide_eq_true bg,bl];rfl;obtain⟨ad,bK,U⟩:=z_ (c:=g) (W:=be) (f:=λa6=>a6.eraseIdxIfInBounds B) (eV:=h.toks) (cz _) (ak.e4 am) (ak.lists a8 am).2.1 D;generalize h.heap.update a8 (ft λa6=>a6.eraseIdxIfInBounds B)=V at ad U ⊢;have aK:∀L aM,¬(g.grow be).X L->h.heap.get? L=I aM->V.get? L=I aM:=λL aM ae aq=>ad.keep L aM aq (λbs=>ae<|.inl<|ak.a_ L bs) (λab=>ae<|.inr (by simp at ab;exact ab▸am));have bf:((⟨k⟩:Array ar).eraseIdxIfInBounds B).toList=k.eraseIdx B:=by unfold Array.eraseIdxIfInBounds;rw[dif_pos<|show B<(⟨k⟩:Array ar).size from au];simp
 rw[bf]at U;have bA:RzL (g.grow be).X V (k.eraseIdx B) (a1.eraseIdx B):=(P.erase B).mono λL aM ae aq=>aK L aM ae aq;obtain⟨G,aP⟩:=J.update aV (ay.ext H) am ad U bA;have a7:Rz (g.grow be).X V bI d:=bC.mono λL aM ae aq=>aK L aM ae aq;have ac:(σ.set bn<|.own<|a1.eraseIdx B).lookup bd=I (.own bm):=by rw[kI,if_neg<|by simpa using aJ];exact ag
 obtain⟨R,K,Y,aH,aW,af,aF⟩:=G.own bd bm ac;have aD:R=bb:=by have dO:=bD.g_ (c:=g.grow be) (aU.ext H) (J.off am) ad;have:=Y.same dO;injection this
 subst aD;refine a' ?_;refine aA<|dT<|aA<|a'<|aY ?_;have aZ:eX C (g.grow be) R bm _:=⟨ak.e4 K,(ak.lists R K).2.1,G.off K,ak.tV K,aH,aW,af,aF⟩;refine vE (c:=g.grow be) aZ a7 br λaC aj an=>?_;obtain⟨a9,bw,aO,aE⟩:=an.at';obtain⟨az,aR⟩:=G.update ac Y K aj aO aE;exact aX be aC az<|((cj.ext H).trans J aP).trans G aR
def ab9{aa:List ar}{k:Int}(n:b.heap.get? d=I ⟨.type "list",ai,.seq ⟨aa⟩ c,#[]⟩)(h0:0<=k)(q:k<2^63)(G:k<aa.length)(B:h () {b with heap:=b.heap.update d (ft (·.setIfInBounds k.toNat f))}):aL (aQ e x) i (setItem (.ref d) (.int k g) f) h p b:=by
 have y:b.heap.IsList d (⟨aa⟩:Array ar):=⟨_,n,rfl,c,rfl⟩;have C:(⟨.type "list",ai,.seq ⟨aa⟩ c,#[]⟩:cQ).data=.seq ⟨aa⟩ c:=rfl;unfold setItem;try with_reducible refine du ?_
 first|refine aA (a' ?_)|skip
 refine aA<|agZ y.typeIs z ?_;refine aA<|agR (name:=bM "__setitem__") y.typeIs agO<|HO agO y.typeIs entry_list_setitem ?_<|args_list_setitem _ _ _;show aL _ _ (ahg (.int k g)>>=_) _ _ b;refine aA<|wpAny_listSubscript_int (fitsIndex_of h0 q) ?_;clear q;obtain⟨a,rfl⟩:=Int.eq_ofNat_of_zero_le h0;have F:a<(⟨aa⟩:Array ar).size:=by show a<aa.length;exact lB.mp o
 have D:(⟨aa⟩:Array ar)[a]?=I (⟨aa⟩:Array ar)[a]:=Array.getElem?_eq_getElem F;show aL _ _ ((seqItemAt d a>>=λH=>bq (H.map (a,·)))>>=_) _ _ b;refine aA<|aA<|wpAny_seqItemAt n C<|a' ?_;rw[D];show aL _ _ (setSeqItemAt d a f>>=_) _ _ b;refine aA<|wpAny_setSeqItemAt n C ?_;first
  |exact aA<|a'<|a' ⟨.none,rfl,a' B⟩
  |exact a' ⟨.none,rfl,a' B⟩
theorem RzL.set:∀{g aa},RzL c i aa g->∀{l d}(f:Nat),Rz c i l d->RzL c i (aa.set f l) (g.set f d)|[],Z,w,t,y,k=>@λm=>w.nK λn=>n▸.nil|Z::t,y,w,k,m,0=>@λq=>w.cK λZ Z s p n=>n▸.cons q p|Z::t,y,w,k,m,f+1=>@λq=>w.cK λZ Z s p n=>n▸.cons s (p.set f q)
set_option tactic.hygienic true in
def NU(ab:dv C O N)(ad:N<=g.fuel)(ag:σ.lookup as=I (.own l))(ax:bh O n an σ.plus ap=I d)(az:bh O n an σ.plus a1=I (.int k))(T:oY (.int k) l.length=I j)(ay:eD d=ah):cc C g an (dY (.Assign [.Subscript (.Name as a2) a1 bd] ap al) g.env) σ (.next<|σ.set as<|.own<|l.set j d):=by
 intro y aE ak aK aJ V;obtain⟨ac,M,af,aa,aL,R,aj⟩:=ak.own as l ag;have aB:mC ap (I<|.Subscript (.Name as a2) a1 bd) al.line g.env=bq av:=by cases ap<;>rfl
 rw[exec_Assign_Subscript _ _ _ _ _ aB];refine aA<|dT<|aA<|(eN ab n).dN an σ.plus ap d g aE ak.borrow ad ax aE (aw.refl aE) ak.dD _ _ λam p B aI=>aA ?_;rw[arm_assign_Subscript];have A:=ak.ext B;refine aA<|du<|tk (af.ext B) ?_;refine aA<|du<|(eN ab n).dN an σ.plus a1 (.int k) g p A.borrow ad az p (aw.refl p) A.dD _ _ λaG h D Y=>?_;have F:=A.ext D;cases Y;rename_i aF;obtain⟨H,T⟩:=cw T;have U:=aj.length;have G:=D.keep _ _ (B.keep _ _ R<|ak.e4 M)<|ak.e4 M;refine aA<|dT<|aA<|du<|ab9 G H.1 (GC ((xH H.1).mp<|cq H.2.1 H.2.2) z) ((xH H.1).mp<|U▸H.2.1) ?_;obtain⟨L,aH,aq⟩:=z_ (c:=g) (W:=y) (f:=λa6=>a6.setIfInBounds k.toNat am) (eV:=h.toks) (cz _) (ak.e4 M) (ak.lists ac M).2.1 G;have aD:Rz (g.grow y).X h.heap am d:=tq (λac M=>(F.lists ac M).2.2) ay<|A.dD.mono D aI;have K:RzL (g.grow y).X h.heap aa l:=A.good.gn D<|ak.good.gn B aj;have ai:∀Z ao,¬(g.grow y).X Z->h.heap.get? Z=I ao->(h.heap.update ac<|ft λa6=>a6.setIfInBounds k.toNat am).get? Z=I ao:=λZ ao ae au=>
  L.keep Z ao au (λaF=>ae<|.inl<|ak.a_ Z aF) λq=>ae (by simp at q;exact .inr<|q▸M)
 have aC:RzL (g.grow y).X (h.heap.update ac<|ft λa6=>a6.setIfInBounds k.toNat am) ((λa6:Array ar=>a6.setIfInBounds k.toNat am) ⟨aa⟩).toList (l.set j d):=by have:=(K.mono ai).set j<|aD.mono ai;subst T;simpa using this
 obtain⟨J,P⟩:=F.update ag ((af.ext B).ext D) M L aq aC;exact Gl<|a'<|V y _ J<|(cj.ext<|B.trans D).trans F P
def bg.restore(B:bg C g al σ i j)(H:i3 al m=ah)(ag:σ.lookup m=I (.own as))(Y:bD C j.heap g.env m (.ref f)) (q:∀ae,bg C g al σ i ae->cj C g i i j ae->am () ae):aL (aQ C.prog C.w) g.A (yc g.env m<|.ref f) am ap j:=by
 simp only[i3,bY]at H;refine AU (c:=g.grow i) B.good B.ok.loc (B.ok.own m H.1 H.2) λae st ac R ai=>?_;have N:∀F O,bD C j.heap g.env F O->bD C ae.heap g.env F O:=λF O M=>by by_cases k:F=m;subst k;have:=M.same Y;subst this;exact R;exact ai F O k M
 have kp:∀f∈i,∀T,j.heap.get? f=I T->ae.heap.get? f=I T:=λf G T K=>st.keep f T K (B.e4 G)<|B.tV G;refine q ae ⟨B.good.step st,⟨B.ok.sc,B.ok.glob,B.ok.blt,B.ok.a_,B.ok.own,B.ok.cells,λF d K=>?_,ac⟩,B.keys,λL G=>?_,λF D K=>?_,λF ab D t L K P ak af=>?_,B.a_,B.cE,B.eE⟩ ⟨st.bt.lr,λL G=>.inl G,λL G=>G⟩;obtain⟨O,M,ad⟩:=B.ok.names F d K;exact⟨O,N F O M,st.n8 B.good B.ok.loc ad⟩;obtain⟨U,V,aa,n,K⟩:=B.lists L G;exact⟨U,V,aa,n,kp L G _ K⟩;obtain⟨L,G,X,aa,n,aM,aj⟩:=B.own F D K;exact⟨L,G,N _ _ X,aa,n,kp L G _ aM,dU.rS B.good B.ok.loc st aj⟩;obtain⟨aJ,an,J,Z⟩:=B.own F D K;obtain⟨dV,ao,p,Z⟩:=B.own ab t P;have dO:=(N _ _ J).same ak;have ej:=(N _ _ p).same af;rw[dO]at J;rw[ej]at p;exact B.apart F ab D t L K P J p
set_option tactic.hygienic true in
def acI(aI:dv C O N)(aN:N<=h.fuel)(au:i3 a2 j=ah)(ag:σ.lookup j=I (.own am))(aO:bh O n a2 σ.plus be=I (.list g))(aP:gC g=ah)(as:am.length+g.length<=1000000):cc C h a2 (dY (.AugAssign (.Name j bn) .Add be bi) h.env) σ (.next<|σ.set j<|.own<|am++g):=by
 intro al aS ak bm a1 ai;obtain⟨k,y,ae,aa,aW,ad,aF⟩:=ak.own j am ag;refine Qz<|bD.load ae<|(eN aI n).dN a2 σ.plus be (.list g) h aS ak.borrow aN aO aS (aw.refl aS) ak.dD _ _ λaZ B H bd=>?_;have D:=ak.ext H;have G:=H.keep _ _ ad<|ak.e4 y;cases bd;rename_i i d af aV P aD;have ap:=aF.length;have aM:=aD.length;have ay:(⟨aa⟩:Array ar).size<=u9:=by show aa.length<=_;rw[hT,ap];exact ao (cv ..)<|ao as z
 have az:(⟨aa⟩:Array ar).size+(⟨d⟩:Array ar).size<=u9+1:=by show aa.length+d.length<=_;rw[hT,ap,aM];exact ao as z
 have ax:¬(!(⟨aa⟩:Array ar).isEmpty&&PL ((⟨aa⟩:Array ar).size+(⟨d⟩:Array ar).size))=ah:=by have h0:(⟨aa⟩:Array ar).size+(⟨d⟩:Array ar).size=aa.length+d.length:=rfl;unfold PL;rw[h0,hT];simp only[bY,decide_eq_true_eq,not_and];intro _;omega
 have aj:B.TypeIs (.ref k) "list":=⟨_,G,rfl⟩;have aT:B.TypeIs (.ref i) "list":=⟨_,P,rfl⟩;have V:qU (.type "list") (dunderI "add")=bq (I<|.builtin "list.__iadd__"):=af7.lookup;have Y:isSeqSlot (I<|.builtin "list.__iadd__")=ah:=by decide+kernel
 have aq:agE (.type "list") "add" (agc==agc)=bq av:=by unfold agE;show(qU (.type "list") (dunderI "add")>>=λp2=>bq<|p2.isSome&&!isSeqSlot p2)=bq av;rw[V];simp[Y]
 have U:fillsNumberSlot (.type "list") "add"=bq av:=noFill_list_add;have T:aL (aQ C.prog C.w) h.A (fu (.builtin "list.__iadd__") [.ref k,.ref i]) (λbd eH=>aL (aQ C.prog C.w) h.A (yc h.env j bd) (λZ=>bm .next) a1 eH) a1 B:=by
  refine u4 af7 aj PySem.F.entry_list_iadd (PySem.F.args_list_iadd_2 _ _) (AutoSeq1.list___iadd___list_list_0 k ⟨aa⟩ aW i ⟨d⟩ af ax ay az) ⟨G,P,?_⟩;show aL _ _ (yc h.env j<|.ref k) _ _ _;obtain⟨M,aX,an⟩:=z_ (c:=h) (W:=al) (f:=λa6=>a6++(⟨d⟩:Array ar)) (eV:=B.toks) (cz _) (ak.e4 y) (ak.lists k y).2.1 G;generalize B.heap.update k (ft λa6=>a6++(⟨d⟩:Array ar))=K at M an ⊢;have aC:∀i aH,¬(h.grow al).X i->B.heap.get? i=I aH->K.get? i=I aH:=λi aH P aK=>
   M.keep i aH aK (λaY=>P<|.inl<|ak.a_ i aY) λq=>P (by simp at q;exact .inr<|q▸y)
  have aE:RzL (h.grow al).X B.heap d g:=zB (λk y=>(D.lists k y).2.2) aP aD;have aR:RzL (h.grow al).X K ((λa6:Array ar=>a6++(⟨d⟩:Array ar)) ⟨aa⟩).toList (am++g):=by have:=((ak.good.gn H aF).mono aC).append<|aE.mono aC;simpa using this
  obtain⟨J,ab⟩:=D.update ag (ae.ext H) y M an aR;have L:(σ.set j<|.own<|am++g).lookup j=I (.own<|am++g):=by rw[kI,if_pos<|by simp]
  obtain⟨aJ,aU,aG,Z⟩:=J.own j _ L;have aB:bD C K h.env j (.ref k):=bD.g_ (c:=h.grow al) (ae.ext H) (D.off y) M;exact J.restore au L aB λeH R ac=>ai al eH R<|((cj.ext H).trans D ab).trans J ac
 unfold inplaceOp;refine du ?_;refine aA<|wpAny_typeOf aj<|aA<|QE aq ?_;show aL _ _ (if av=ah then _ else _) _ a1 B;rw[if_neg xE];refine aA<|wpAny_binaryOp1_none (nm:="add") aj aT U ?_;refine aA<|QE (PySem.seqSlot_of V Y) ?_;exact aA<|va T
def wU(j:lL t=some d):t=some (.own d):=by induction t using b6 with|none=>exact nS j|some t=>cases t<;>first|exact nS j|exact aZ j▸rfl
def VR(j:bh O n a f i=I d):eM i=av:=by cases i<;>first|rfl|(cases n<;>exact nS j)
def Mb(j:nB d=I a):d=.list a:=by cases d<;>first|exact nS j|exact congrArg _<|aZ j
def XO(a:oY k n=I w):∃c,k=.int c:=by cases k<;>first|exact nS a|exact⟨_,rfl⟩
def adX:ee O a M (n+1) σ (.Assign (k::m::a9) b i)=IA O a n σ (k::m::a9) b:=rfl
section
variable(es:dv C O N)
include es
def adY(t:N<=g.fuel)(ag:ee O a M (n+1) σ (.Assign [.Name m s] i b)=I w):cc C g a (dY (.Assign [.Name m s] i b) g.env) σ w:=by replace ag:(if M.contains m=ah then(if(ru i&&i3 a m)=ah then((bh O n a σ.plus i).bind nB).bind λk=>if gC k=ah then I (h3.next<|σ.set m<|.own k)else ai else ai)else(bh O n a σ.plus i).bind λd=>if(σ.pure||eD d)=ah then(rh a (.Name m s) i d).map λf=>.next (σ.vals f)else ai)=I w:=ag;split at ag;refine iK ag λl ag=>bK ag λk j ag=>bK j λd j h=>?_;have i:=cw ag;exact i.2▸acK es t (aY l).1 (aY l).2 (Mb h▸j) i.1;exact bK ag λd j ag=>iK ag λy ag=>fm ag λf q i=>i▸r0 es t j y q
def adV(t:N<=j.fuel)(ag:ee O h M (n+1) σ (.AugAssign (.Name m s) g i f)=some w):cc C j h (dY (.AugAssign (.Name m s) g i f) j.env) σ w:=by
 induction y:i3 h m using bz with
 |false=>exact nS (((if_pos (by rw[y];rfl)).symm.trans ag:none=some w))
 |true=>
 have ag:=(if_neg (by rw[y];decide)).symm.trans ag;refine bK ag λH q ag=>?_;induction A:σ.lookup m using b6 with
 |none=>rw[A]at ag;exact nS ag
 |some F=>
  rw[A]at ag;cases F with
  |val G=>exact bK ag λd D ag=>(λi=>i.2▸acF es t y A q D i.1)<|cw ag
  |own I=>
   refine iK ag λk ag=>bK ag λE B ag=>?_;have i:=cw ag;have k:=bF k;subst k;exact i.2▸acI es t y A (Mb B▸q) (aY i.1).1 (eS (aY i.1).2)
def adT(F:N<=g.fuel)(ag:ee O a M (n+1) σ (.Expr (.Call (.Attribute (.Name f h) ac t) [s] [] al) b)=some w):cc C g a (dY (.Expr (.Call (.Attribute (.Name f h) ac t) [s] [] al) b) g.env) σ w:=by
 have D:=g8 ag;clear ag;have R:=bF (aY D.1).1;have ax:=(aY D.1).2;have ag:=D.2;clear D;subst R;induction A:rN s using b6 with
 |some dR=>
  obtain⟨W,J⟩:=dR;rw[A]at ag;replace ag:(if(f==W)=ah then none else(lL<|σ.lookup f).bind λI=>(lL<|σ.lookup W).bind λw=>(bh O n a σ.plus J).bind λk=>(oY k w.length).bind λV=>(w[V]?).bind λd=>
      if(eD d&&bI I.length 1000000)=ah then some (h3.next<|aG.set (σ.set W<|.own<|w.eraseIdx V) f<|.own<|I++[d])else none)=some w:=ag
  split at ag;exact nS ag;rename_i H;refine bK ag λI E ag=>bK ag λw T ag=>bK ag λk Q ag=>bK ag λV P ag=>bK ag λd B ag=>?_;have q:=cw ag;obtain⟨Y,X,aa,rfl,G,U⟩:=abg A;obtain⟨ab,rfl,h0,L,Z,K⟩:=XP P;exact q.2▸acB es F ax G (by simpa using H) (wU E) (wU T) U Q h0 L B K (aY q.1).1 (eS (aY q.1).2)
 |none=>
  rw[A]at ag;refine bK ag λI E ag=>bK ag λd B ag=>?_;have q:=cw ag;exact q.2▸acA es F ax (wU E) (VR B) B (aY q.1).1 (eS (aY q.1).2)
def adW(h:N<=g.fuel)(ag:ee O a M (n+1) σ (.Expr t i)=some w):cc C g a (dY (.Expr t i) g.env) σ w:=by
 refine bK ag λab s ag=>bK ag λb k ag=>?_;rw[A_ s,jy k];induction f:i2 ab.2.2.2.1 using b6 with
 |some j=>
  rw[f]at ag;rw[m2 f];exact adT (M:=M) es h ag
 |none=>
  rw[f]at ag;refine iK ag λm ag=>bK ag λd p ag=>?_;have j:=cw ag;have q:=aY m;rw[pz.mp q.1,bF (aY q.2).1,<-j.2];exact acM es h (aY q.2).2 (wU p)<|eS j.1
def adU(B:N<=g.fuel)(ag:ee O a M (n+1) σ (.Assign a9 i b)=some w):cc C g a (dY (.Assign a9 i b) g.env) σ w:=by
 induction D:i2 a9 using b6 with
 |none=>
  induction a9 using bb with
  |nil=>exact nS ag
  |cons E a9=>
   induction a9 using bb with|nil=>exact sN D|cons m a9=>exact bK (adX.symm.trans ag) λd x ag=>iK ag λA ag=>fm ag λf q i=>i▸acJ es B x A q
 |some E=>
  obtain rfl:=m2 D;clear D;induction F:ps E using b6 with
  |some ab=>
   obtain rfl:=OL F;refine bK ag λP J ag=>bK ag λL I ag=>bK ag λd x ag=>bK ag λk H ag=>bK ag λK p ag=>?_;have i:=cw ag;obtain⟨h,rfl⟩:=XO p;rw[jy J,<-i.2];exact NU es B (wU I) x H p i.1
  |none=>
   induction s:fo E using b6 with
   |some ab=>
    obtain rfl:=jy s;exact adY es B ag
   |none=>
    induction G:j7 E using b6 with
    |some ab=>
     obtain rfl:=uz G;exact bK ag λd x ag=>iK ag λA ag=>fm ag λf q i=>i▸acE es B x A q
    |none=>
     replace ag:(ps E).elim ((fo E).elim ((j7 E).elim none _) _) _=some w:=ag;rw[F,s,G]at ag;exact nS ag
set_option tactic.hygienic true in
set_option maxHeartbeats 1000000 in
def ac9(F:yJ C O N M n)(J:vd C O N M n):∀D σ st w B,N<=B.fuel->ee O D M (n+1) σ st=some w->cc C B D (dY st B.env) σ w:=by
 intro D σ st w B a ag;cases st<;>first|exact nS ag|exact adW es a ag|exact adU es a ag|skip
 case If l j x i=>exact bK ag λk L ag=>ug es a L (λf=>F.p4 _ _ _ _ _ a (by subst f;exact ag)) λf=>F.p4 _ _ _ _ _ a (by subst f;exact ag)
 case Return f i=>
  induction f using b6 with|none=>exact aZ ag▸acL|some f=>exact fm ag λd I f=>f▸FP es a I
 case Break i=>exact aZ ag▸λy A ak H G q=>aA<|dT<|a'<|q y A ak cj.refl
 case Continue i=>exact aZ ag▸λy A ak H G q=>aA<|dT<|a'<|q y A ak cj.refl
 case Pass i=>exact aZ ag▸λy A ak H G q=>aA<|dT<|a'<|q y A ak cj.refl
 case While l j x i=>
  induction x using bb with|cons Z g=>exact nS ag|nil=>exactλy A ak H G q=>wpAny_While<|F.DA D σ l j w B a ag y A ak _ q
 case For m R j x i=>
  induction x using bb with|cons Z g=>exact nS ag|nil=>exact bK ag λT K ag=>acH es a J K ag
 case AugAssign l U f i=>exact bK ag λab P F=>by obtain rfl:=jy P;exact adV es a ag
end
theorem AR(d:dv C O N):∀n,yJ C O N M n/\vd C O N M n
 |0=>⟨⟨λa σ aU w g e j=>(by cases j),λa σ st w g e j=>(by cases j),λa σ k p w g e j=>(by cases j)⟩,λa σ m p f w q e j=>(by cases j)⟩
 |n+1=>
  have j:=AR d n
  ⟨⟨ac_ j.1,ac9 d j.1 j.2,ac' d j.1⟩,WJ j.1.p4 j.2⟩
structure eB(C:bS)(a:Addr)(sc:Scope)(params:List Str)(aU:List Stmt):Prop where
 obj:∃a4 fd,a4.data=.func fd/\(∀h,C.fb h->h.get? a=some a4/\h.CodeRec fd.code fd.qualname)/\fd.scope=sc/\fd.body=.stmts aU/\fd.closure=[]/\fd.globals=C.G/\fd.builtins=C.B/\∀vals:List Value,vals.length=params.length->bindArgs fd ⟨vals,[]⟩=pure (params.zip vals)
 lim:∀h,C.fb h->h.NoLimit
 cls:∀h,C.fb h->∃a4 fd,h.get? a=some a4/\a4.data=.func fd/\a4.cls=.type "function"
def ju(j:gW)(w:List au):Bool:=j.kind==.function&&!j.isGenerator&&!j.isCoroutine&&dM (j.names.map (·.1))&&dM w&&w.all (λs=>jo s&&(j.names.lookup s==I .local||j.names.lookup s==I .cell))&&j.names.all (λs=>s.2!=.free&&j.names.lookup s.1==I s.2)
noncomputable def a0.fn(j:gW):a0:=⟨j,(j.names.filter λs=>s.2==.local||s.2==.cell).map (·.1)⟩
noncomputable def c4(w:List au)(k:List af):aG:=(w.zip k).map λs=>(s.1,.val s.2)
def m4(O:cY)(M:List au)(j:gW)(w:List au)(aU:List aP)(n:Nat)(k:List af):Option af:=if ju j w&&k.length==w.length then match a6 O (a0.fn j) M n (c4 w k) aU with|some (.ret d)=>some d|some (.next _)=>some .none|_=>ai
 else ai
theorem CH{k:au->Option pD}{d:au}:∀{p:List (au×ar)}{c:au->Option ar},dM (p.map (·.1))=true->k d=some .local->bindL k p c d=match p.lookup d with|some t=>some t|none=>c d
 |[]=>λA B=>rfl
 |(a,t)::w=>λj e=>by
  rw[c8]at j
  unfold dM at j
  simp only[bY,ew,hA,decide_eq_false_iff_not]at j
  unfold bindL
  rw[CH j.2 e,ey]
  induction q:d==a using bz with
  |true=>
   have:d=a:=bF q;subst this;have s:w.lookup d=none:=by induction n:w.lookup d using b6 with|none=>rfl|some i=>exact absurd (lD (f:=(·.1))<|mem_of_lookup n) j.1
   rw[s,if_pos e];simp
  |false=>
   have l:d≠a:=by simpa using q
   induction w.lookup d using b6 with|some i=>rfl|none=>by_cases g:k a=some .local<;>simp[g,l]
theorem CG{k:au->Option pD}{d:au}:∀{p:List (au×ar)}{c:au->Option ar},dM (p.map (·.1))=true->k d=some .cell->bindC k p c d=match p.lookup d with|some t=>some t|none=>c d
 |[]=>λA B=>rfl
 |(a,t)::w=>λj e=>by
  rw[c8]at j
  unfold dM at j
  simp only[bY,ew,hA,decide_eq_false_iff_not]at j
  unfold bindC
  rw[CG j.2 e,ey]
  induction q:d==a using bz with
  |true=>
   have:d=a:=bF q;subst this;have s:w.lookup d=none:=by induction n:w.lookup d using b6 with|none=>rfl|some i=>exact absurd (lD (f:=(·.1))<|mem_of_lookup n) j.1
   rw[s,if_neg (by rw[e];simp)];simp
  |false=>
   have l:d≠a:=by simpa using q
   induction w.lookup d using b6 with|some i=>rfl|none=>by_cases g:k a=some .local<;>simp[g,l]
set_option tactic.hygienic true in
theorem AS:∀{w:List au}{k:List af}{aa:List ar}{c:aF->Prop}{j:cP},RzL c j aa k->(c4 w k).lookup b=I (.val d)->∃t,(w.zip aa).lookup b=I t/\Rz c j t d
 |[],Z=>λA i=>by cases i
 |p::g,[]=>λl i=>by cases l;cases i
 |p::g,f::x=>λl i=>by
  cases l;rename_i t n s m
  unfold c4 at i
  rw[By,c8,ey]at i
  rw[By,ey]
  induction q:b==p using bz with
  |true=>
   rw[q]at i;simp at i;subst i;exact⟨t,rfl,s⟩
  |false=>
   rw[q]at i;exact AS m i
def qp(r:k.length=w.length):(c4 w k).map (·.1)=w:=by unfold c4;rw[dG];show Bt (λs:au×af=>s.1) (w.zip k)=w;exact GP (by omega)
theorem qq:∀{params:List au}{args:List af},(c4 params args).lookup b≠I (.own d)
 |[],Z=>by intro j;cases j
 |p::r,[]=>by intro j;cases j
 |p::r,f::x=>by
  unfold c4
  rw[By,c8,ey]
  induction q:b==p using bz with|true=>intro j;cases j|false=>exact qq (params:=r) (args:=x)
def Jx{d:sv}{O:ba}{G:ef}{l:aB}{H:oq->aB->Prop}{B:aF}{S:cQ}{i:x2}{aU:List aP}{k:List ar}{b:List (au×ar)}(g:G.depth<recursionLimit)(n:l.heap.get? B=I S)(L:S.data=.func i)(r:l.heap.NoLimit)(c:l.heap.CodeRec i.code i.qualname)(K:i.body=.stmts aU)(D:BN i ⟨k,[]⟩=bq b)(E:i.closure=[])(ag:∀m∈b,i.scope.names.lookup m.1=I .local\/(i.scope.names.lookup m.1=I .cell/\((nv (l.heap.objs.size+1) i.scope.names []).lookup m.1).isSome=ah))(q:i.scope.isCoroutine=av)(C:i.scope.isGenerator=av)(y:i.scope.kind=.function)(j:∀p,l.toks<=p.toks->InCallC l (dX i l.heap.objs.size B).locals (bindL (dX i l.heap.objs.size B).kindOf b λZ=>ai) (dX i l.heap.objs.size B).cells (bindC (dX i l.heap.objs.size B).kindOf b λZ=>ai) p->aL (aQ d O) (G.deeper<|dX i l.heap.objs.size B) (ep aU<|dX i l.heap.objs.size B) (λT ae=>H (.ok (.ret (match T with|.ret t=>t|Z=>.none))) ae) (λP ae=>aL (aQ d O) (G.deeper<|dX i l.heap.objs.size B) (leaving (dX i l.heap.objs.size B) P) (λZ dj=>H (.error P) dj) (λJ dj=>H (.error J) dj) ae) p):fU (aQ d O) G (.call (.ref B) ⟨k,[]⟩) H l:=by refine codeAny_call_function g n L q C K c ?_;rw[D,E];refine a'<|lG (cz l.toks)<|wpAny_newFunctionEnv_cells y ag λQ M p F N=>?_;cases M;exact⟨r.keeps F.toInCall.keep,codeAny_func<|j p N F⟩
set_option maxHeartbeats 1000000 in
def Ft(bc:dv C O N){aU:List aP}(bs:eB C a1 bd w aU)(I:m4 O M bd w aU n k=some d):eg C (.ref a1) k (N+1) d:=by
 unfold m4 at I;by_cases aC:(ju bd w&&k.length==w.length)=ah;case neg=>rw[if_neg aC]at I;cases I
 rw[if_pos aC]at I;simp only[bY,beq_iff_eq]at aC;obtain⟨ar,S⟩:=aC;unfold ju at ar;simp only[bY,beq_iff_eq,ew,bG,mu,bne_iff_ne,ne_eq]at ar;obtain⟨⟨⟨⟨⟨⟨aV,aT⟩,aY⟩,bu⟩,aj⟩,af⟩,aL⟩:=ar;obtain⟨au,i,aD,bk,rfl,aB,aS,aE,aR,aA⟩:=bs.obj;intro bw a9 B aa ai a8 bv bE q;obtain⟨bl,aW⟩:=bk B.heap ai.ok;have a3:aa.length=w.length:=by rw[a8.length,S]
 have as:(w.zip aa).map (·.1)=w:=GP (by omega);refine B0 (Jx (by have:=ai.depth;show a9.depth<1000;exact b4 (cv _ _) o) bl aD (bs.lim _ ai.ok) aW aB (aA aa a3) aS (λbD ag=>?_) aY aT aV λD aM ac=>?_);have a4:bD.1∈w:=by have:=lD (f:=(·.1)) ag;rw[as]at this;exact this
 rcases(af _ a4).2 with L|L;exact .inl L;refine .inr ⟨L,?_⟩;obtain⟨p,j⟩:=lW (m:=B.heap.objs.size+1)<|mem_of_lookup L;obtain⟨ap,J⟩:=l' j;rw[J];rfl;obtain⟨bm,ba,al,aG⟩:=ac.done;have T:aw C B D:=by rw[al];exact aw.of_keep aG (by rw[al]at aM;exact aM)
 have ad:=ai.ext T;have bi:B.heap.get? B.heap.objs.size=none:=g7 _;have P:(dX i B.heap.objs.size a1).cells=nv (B.heap.objs.size+1) i.scope.names []:=rfl;have bh:∀K p,(K,p)∈(dX i B.heap.objs.size a1).cells->B.heap.get? p=none:=λK p G=>lb<|G0 (nM<|P▸G).2;have bA:∀K p,(K,p)∈(dX i B.heap.objs.size a1).cells->(K,ip)∈i.scope.names:=λK p G=>(nM<|P▸G).1;let a2:aF->Prop:=λp=>p=B.heap.objs.size\/∃K,(dX i B.heap.objs.size a1).cells.lookup K=some p;have aO:∀p,a2 p->B.heap.get? p=none:=λp j=>j.elim (λq=>q▸bi) λaz=>az.elim λK G=>bh K p<|mem_of_lookup G;let am:b_:={env:=dX i B.heap.objs.size a1,X:=λp=>bw p\/a2 p,Y:=a2,A:=a9.deeper<|dX i B.heap.objs.size a1,fuel:=N};have an:=λp(j:a2 p)=>ai.gg<|aO p j;have be:∀p,a2 p->∃au,D.heap.get? p=some au:=λp j=>j.elim (λq=>q▸ac.toInCall.ns.imp λau az=>az.elim λZ az=>az.elim λZ az=>az.1) λaz=>az.elim λK G=>(ac.cell K p G).imp λau=>jA;have bb:∀K p,(dX i B.heap.objs.size a1).cells.lookup K=some p->p≠B.heap.objs.size:=λK p G q=>by have:=(nM<|P▸mem_of_lookup G).2;rw[q]at this;exact absurd this<|G5 _
 have a7:h2 C (am.grow []) D:=⟨aV,⟨_,ac.toInCall.ns⟩,λK p G=>⟨_,ac.cell K p G⟩,ac.apart,.inl rfl,λp j=>.inl<|.inr j,λp j=>(an p j).1,λp j=>(an p j).2.1,λK p G=>⟨(an p<|.inr ⟨K,G⟩).1,bb K p G,.inl<|.inr<|.inr ⟨K,G⟩⟩,λV bF U=>(by cases U)⟩;have aH:RzL (am.grow []).X D.heap aa k:=by
  have bo:=a8.more (Y:=(am.grow []).X) λp au U V=>by rcases V with(V|V)|V;exact V;rw[aO p V]at U;cases U;cases V
  exact bo.mono λp au j U=>T.keep p au U λaI=>j<|.inl<|.inl<|ai.a_ p aI
 have bn:b1 C (am.grow []) (a0.fn i.scope) (c4 w k).strict D:=by
  refine⟨rfl,aE,aR,λp aI=>.inl<|.inl<|ai.a_ p aI,λV H bj=>?_,λV H=>?_,λV bz U=>?_,a7⟩;have aq:=p6 bj;rw[hA]at H;have H:=of_decide_eq_true H;unfold a0.fn at H;rw[ez]at H;obtain⟨av,ax,rfl⟩:=H;rw[dP]at ax;obtain⟨ax,R⟩:=ax;simp only[mu,beq_iff_eq]at R;refine⟨rfl,aq.1,aq.2,?_⟩;have aK:=(aL av ax).2;rcases R with R|R;left;show i.scope.names.lookup av.1=_;rw[aK,R];right;refine⟨by show i.scope.names.lookup av.1=_;rw[aK,R],?_⟩;obtain⟨p,j⟩:=lW (m:=B.heap.objs.size+1) (show(av.1,ip)∈i.scope.names by rw[<-R];exact ax);obtain⟨ap,J⟩:=l' j;exact⟨ap,J,.inr ⟨av.1,J⟩⟩;rcases H with H|H;obtain⟨p,j⟩:=lW (m:=B.heap.objs.size+1)<|mem_of_lookup H;exact l' j;exact absurd rfl<|(aL _<|mem_of_lookup H).1;rw[gq (by rw[qp S];exact aj)]at U;obtain⟨aN,aZ,bq⟩:=AS aH U;have H:V∈w:=by have:=lD (f:=(·.1))<|mem_of_lookup U;rw[qp S]at this;exact this
  have aq:=p6 (af V H).1;refine⟨aN,⟨aV,aq.1,aq.2,?_⟩,bq⟩;rcases(af V H).2 with L|L;left;refine⟨L,(an _<|.inl rfl).1,_,ac.toInCall.ns,?_⟩;rw[CH (by rw[as];exact aj) L,aZ];right;obtain⟨p,j⟩:=lW (m:=B.heap.objs.size+1)<|mem_of_lookup L;obtain⟨ap,J⟩:=l' j;refine⟨.inl L,ap,J,(an _<|.inr ⟨V,J⟩).1,?_⟩;have:=ac.cell V ap J;rw[CG (by rw[as];exact aj) L,aZ]at this;exact this
 have aQ:bf C (am.grow []).X am.A am.fuel D:=by refine⟨ai.handled,?_,?_,ai.guards,λp j=>?_,λp aI=>.inl<|.inl<|ai.a_ p aI,ad.ok,ad.tok⟩;exact b4 (bQ<|e7 a9.depth 1 N) ai.depth;exact jc (b4 (bQ<|e7 a9.units 3<|4*N)<|fS _) ai.units;rcases j with(j|j)|j;exact ad.cI p j;obtain⟨au,U⟩:=be p j;exact⟨au,U,λaI=>absurd aI (an p j).1⟩;cases j
 have ak:bg C am (a0.fn i.scope) (c4 w k) [] D:=
  ⟨aQ,bn,by rw[qp S];exact aj,λp j=>(by cases j),λV bB U=>absurd U qq,λV ab bB bC p U=>absurd U qq,λp aI=>.inl<|ai.a_ p aI,λp j=>.inr j,λK p G=>.inr<|.inr ⟨K,G⟩⟩
 have aJ:∀aN W ae,cj C am [] W D ae->(∀p∈W,¬am.X p/\∃au,ae.heap.get? p=some au)->Rz am.X ae.heap aN d->bv aN ae:=by intro aN W ae ao a5 a';refine q aN ae ?_<|a'.less λp j=>.inl j;have br:dd C am W B ae:=T.bt.trans ao.bt;refine br.ext aO λp j=>?_;rcases ao.new p j with ab|ab;cases ab;exact T.old ai ab
 induction ag:a6 O (a0.fn i.scope) M n (c4 w k) aU using b6 with
 |none=>rw[ag]at I;cases I
 |some a'=>
  rw[ag]at I;refine(AR (M:=M) bc n).1.p4 (a0.fn i.scope) (c4 w k) aU a' am (cz _) ag [] D ak _ _ ?_;cases a' with
  |ret bx=>
   simp at I;subst I;exactλaN W ae ao a5 bp=>aJ aN W ae ao a5 bp
  |next aX=>
   simp at I;subst I;exactλW ae ay ao=>aJ .none W ae ao (λp j=>⟨(ay.lists p j).1,by obtain⟨Z,Z,aa,K,U⟩:=ay.lists p j;exact⟨_,U⟩⟩) .none
  |brk aX=>simp at I
  |cont aX=>simp at I
structure pG(C:bS)(c:b_)(X:Addr->Prop)(A:Around)(N:Nat)(a:Addr)(sc:Scope)(params:List Str)(aa:List Value)(s fa:Shared):Prop where
 ext:aw C s fa
 xs:c.X=λb=>X b\/c.Y b
 fuel:c.fuel=N
 fresh:∀b,c.Y b->s.heap.get? b=none
 env:∃fd L a4,c.env=callEnvC fd L a/\a4.data=.func fd/\(∀h,C.fb h->h.get? a=some a4)/\fd.scope=sc
 good:bf C c.X c.A c.fuel fa
 ok:b1 C c (a0.fn sc) [] fa
 vars:∀y v,(params.zip aa).lookup y=some v->bD C fa.heap c.env y v
 ON:∀b,c.Y b->b=c.env.locals\/∃m,c.env.cells.lookup m=some b
set_option maxHeartbeats 1000000 in
def KY{as:aF}{ao:gW}{B:List au}{aU:List aP}{aa:List ar}{cK:aF->Prop}{bm:ef}{l:aB}(aG:eB C as ao B aU)(J:ju ao B=ah)(ay:aa.length=B.length)(al:bf C cK bm (N+1) l){aH:oq->aB->Prop}(eI:∀(ac:b_)(E:aB),pG C ac cK bm N as ao B aa l E->∀aC,aL (aQ C.prog C.w) ac.A (ep aU ac.env) (λem ae=>aH (.ok (.ret (match em with|.ret cr=>cr|Z=>.none))) ae) aC E):fU (aQ C.prog C.w) bm (.call (.ref as) ⟨aa,[]⟩) aH l:=by
 unfold ju at J;simp only[bY,beq_iff_eq,ew,bG,mu,bne_iff_ne,ne_eq]at J;obtain⟨⟨⟨⟨⟨⟨bs,ak⟩,av⟩,aI⟩,be⟩,Q⟩,bd⟩:=J;obtain⟨ca,i,S,co,rfl,ab,aj,ad,af,K⟩:=aG.obj;obtain⟨aE,aq⟩:=co l.heap al.ok;have j:(B.zip aa).map (·.1)=B:=GP (by omega);refine Jx (by have:=al.depth;show bm.depth<1000;exact b4 (cv _ _) o) aE S (aG.lim _ al.ok) aq ab (K aa ay) aj (λaM ag=>?_) av ak bs λE bi O=>?_;have az:aM.1∈B:=by have:=lD (f:=(·.1)) ag;rw[j]at this;exact this
 rcases(Q _ az).2 with L|L;exact .inl L;refine .inr ⟨L,?_⟩;obtain⟨p,D⟩:=lW (m:=l.heap.objs.size+1)<|mem_of_lookup L;obtain⟨W,H⟩:=l' D;rw[H];rfl;obtain⟨dK,cs,n,a1⟩:=O.done;have ap:aw C l E:=by rw[n];exact aw.of_keep a1 (by rw[n]at bi;exact bi)
 have P:=al.ext ap;have ds:l.heap.get? l.heap.objs.size=ai:=g7 _;have d:(dX i l.heap.objs.size as).cells=nv (l.heap.objs.size+1) i.scope.names []:=rfl;have db:∀r p,(r,p)∈(dX i l.heap.objs.size as).cells->l.heap.get? p=ai:=λr p G=>lb<|G0 (nM<|d▸G).2;have aK:∀r p,(r,p)∈(dX i l.heap.objs.size as).cells->(r,ip)∈i.scope.names:=λr p G=>(nM<|d▸G).1;let ch:aF->Prop:=λp=>p=l.heap.objs.size\/∃r,(dX i l.heap.objs.size as).cells.lookup r=I p;have cl:∀p,ch p->l.heap.get? p=ai:=λp D=>D.elim (λq=>q▸ds) λU=>U.elim λr G=>db r p<|mem_of_lookup G;let ac:b_:={env:=dX i l.heap.objs.size as,X:=λp=>cK p\/ch p,Y:=ch,A:=bm.deeper<|dX i l.heap.objs.size as,fuel:=N};have T:=λp(D:ch p)=>al.gg<|cl p D;have cV:∀p,ch p->∃ca,E.heap.get? p=I ca:=λp D=>D.elim (λq=>q▸O.toInCall.ns.imp λca U=>U.elim λZ U=>U.elim λZ U=>U.1) λU=>U.elim λr G=>(O.cell r p G).imp λca=>jA;have bb:∀r p,(dX i l.heap.objs.size as).cells.lookup r=I p->p≠l.heap.objs.size:=λr p G q=>by have:=(nM<|d▸mem_of_lookup G).2;rw[q]at this;exact absurd this<|G5 _
 have aA:h2 C ac E:=⟨bs,⟨_,O.toInCall.ns⟩,λr p G=>⟨_,O.cell r p G⟩,O.apart,.inl rfl,λp D=>.inr D,λp D=>(T p D).1,λp D=>(T p D).2.1,λr p G=>⟨(T p<|.inr ⟨r,G⟩).1,bb r p G,.inr<|.inr ⟨r,G⟩⟩,λV aN ci=>(by cases ci)⟩;have dL:b1 C ac (a0.fn i.scope) [] E:=by refine⟨rfl,ad,af,λp cd=>.inl<|al.a_ p cd,λV k aD=>?_,λV k=>?_,λV aJ ci=>(by cases ci),aA⟩;have am:=p6 aD;rw[hA]at k;have k:=of_decide_eq_true k;unfold a0.fn at k;rw[ez]at k;obtain⟨an,ax,rfl⟩:=k;rw[dP]at ax;obtain⟨ax,M⟩:=ax;simp only[mu,beq_iff_eq]at M;refine⟨rfl,am.1,am.2,?_⟩;have a2:=(bd an ax).2;rcases M with M|M;left;show i.scope.names.lookup an.1=_;rw[a2,M];right;refine⟨by show i.scope.names.lookup an.1=_;rw[a2,M],?_⟩;obtain⟨p,D⟩:=lW (m:=l.heap.objs.size+1) (show(an.1,ip)∈i.scope.names by rw[<-M];exact ax);obtain⟨W,H⟩:=l' D;exact⟨W,H,.inr ⟨an.1,H⟩⟩;rcases k with k|k;obtain⟨p,D⟩:=lW (m:=l.heap.objs.size+1)<|mem_of_lookup k;exact l' D;exact absurd rfl<|(bd _<|mem_of_lookup k).1
 have ce:∀V cr,(B.zip aa).lookup V=I cr->bD C E.heap ac.env V cr:=by
  intro V cr bv;have k:V∈B:=by have:=lD (f:=(·.1))<|mem_of_lookup bv;rw[j]at this;exact this
  have am:=p6 (Q V k).1;refine⟨bs,am.1,am.2,?_⟩;rcases(Q V k).2 with L|L;left;refine⟨L,(T _<|.inl rfl).1,_,O.toInCall.ns,?_⟩;rw[CH (by rw[j];exact be) L,bv];right;obtain⟨p,D⟩:=lW (m:=l.heap.objs.size+1)<|mem_of_lookup L;obtain⟨W,H⟩:=l' D;refine⟨.inl L,W,H,(T _<|.inr ⟨V,H⟩).1,?_⟩;have:=O.cell V W H;rw[CG (by rw[j];exact be) L,bv]at this;exact this
 have bn:bf C ac.X ac.A ac.fuel E:=by refine⟨al.handled,?_,?_,al.guards,λp D=>?_,λp cd=>.inl<|al.a_ p cd,P.ok,P.tok⟩;have:=al.depth;show bm.depth+1+N<1000;omega;have:=al.units;show bm.units+3+4*N<9000;omega;rcases D with D|D;exact P.cI p D;obtain⟨ca,ci⟩:=cV p D;exact⟨ca,ci,λcd=>absurd cd (T p D).1⟩
 exact eI ac E ⟨ap,rfl,rfl,cl,⟨i,_,ca,rfl,S,λU cd=>(co U cd).1,rfl⟩,bn,dL,ce,λp U=>U⟩ _
def wa{m:aF}{j:gW}{d:List au}{aU:List aP}{aa:List ar}{x:aF->Prop}{k:ef}{l:aB}(D:eB C m j d aU)(n:ju j d=ah)(i:aa.length=d.length)(e:bf C x k (N+1) l){r B:ar->aB->Prop}(eI:∀(b:b_)(p:aB),pG C b x k N m j d aa l p->∀q,aL (aQ C.prog C.w) b.A (ep aU b.env) (λy ae=>r (match y with|.ret t=>t|Z=>.none) ae) q p):aL (aQ C.prog C.w) k (fu (.ref m) aa []) r B l:=B0<|KY D n i e λb p h q=>eI b p h q
def w6(O:cY)(M:List au)(j:gW)(e:au)(r:List au)(aU:List aP)(n:Nat)(p g:List af):Option af:=if ju j (e::r)&&g.length==r.length&&gC p&&gC g then match a6 O (a0.fn j) M n ((e,.own p)::c4 r g) aU with|some (.ret d)=>some d|_=>ai
 else ai
def SE(j:dM (m::d)=ah):m∉d/\dM d=ah:=by unfold dM at j;simp only[bY,ew,hA,decide_eq_false_iff_not]at j;exact j
set_option maxHeartbeats 1000000 in
def abT(aN:dv C O N){aU:List aP}(bb:eB C bd a1 (h::i) aU)(I:w6 O M a1 h i aU n am ac=some d):q7 C (.ref bd) am ac (N+1) d:=by
 unfold w6 at I;split at I;case isFalse=>cases I
 rename_i av;simp only[bY,beq_iff_eq]at av;obtain⟨⟨⟨ap,J⟩,ax⟩,ay⟩:=av;induction ag:a6 O (a0.fn a1) M n ((h,.own am)::c4 i ac) aU using b6 with
 |none=>rw[ag]at I;cases I
 |some aZ=>
 rw[ag]at I;cases aZ with
 |next=>cases I
 |brk=>cases I
 |cont=>cases I
 |ret bc=>
 simp only[BH]at I;subst I;intro a' br aK j aa aI bm aJ P ai au a7 aH bu bs q;have aE:aI.length=i.length:=by rw[aH.length,J]
 have an:dM (h::i)=true:=by have:=ap;unfold ju at this;simp only[bY]at this;exact this.1.1.2
 obtain⟨aA,aB⟩:=SE an;refine wa bb ap (aa:=.ref j::aI) (by simp[aE]) aJ λV R B ba=>?_;have ad:∀p,C.T p->V.X p:=B.good.a_;have aq:¬C.T j:=λk=>ai<|aJ.a_ j k;have aR:¬V.Y j:=λal=>by have:=B.fresh j al;rw[P]at this;cases this
 have aw:¬V.X j:=by rw[B.xs];exactλab=>ab.elim ai aR
 have H:=B.ext.keep _ _ P aq;have a9:∀p K,aK.heap.get? p=some K->(V.grow [j]).X p->a' p\/p∈[j]:=λp K G ab=>by have x:V.X p\/p∈[j]:=ab;rcases x with x|x;rw[B.xs]at x;rcases x with x|x;exact .inl x;rw[B.fresh p x]at G;cases G;exact .inr x
 have ah:∀{a2:List ar}{as:List af},gC as=true->RzL a' aK.heap a2 as->RzL (V.grow [j]).X R.heap a2 as:=λaS aZ=>by have a3:=zB (W:=[j]) (dE ⟨_,_,P⟩) aS aZ;have a4:=a3.more (Y:=(V.grow [j]).X) a9;exact a4.mono λp K D G=>B.ext.keep p K G λk=>D<|.inl<|ad p k
 have ak:bg C V (a0.fn a1) ((h,.own am)::c4 i ac) [j] R:=by
  have S:=B.ok.loc;refine⟨⟨B.good.handled,B.good.depth,B.good.units,B.good.guards,λp D=>?_,λp k=>.inl<|ad p k,B.good.ok,B.good.tok⟩,⟨B.ok.sc,B.ok.glob,B.ok.blt,λp k=>.inl<|ad p k,B.ok.own,B.ok.cells,λal be G=>?_,⟨S.kind,S.ns,S.cell,S.apart,S.e_,λp D=>.inl<|S.cE p D,S.hV,S.jz,λn p G=>⟨(S.dC n p G).1,(S.dC n p G).2.1,.inl (S.dC n p G).2.2⟩,S.pin⟩⟩,?_,λp D=>?_,λal bj G=>?_,λal ab bk bl p aC aM bo bp=>?_,ad,S.cE,λn p G=>(S.dC n p G).2.2⟩;rcases(D:V.X p\/p∈[j])with D|D;exact B.good.cI p D;replace D:=c_.mp D;subst D;exact⟨_,H,λk=>absurd k aq⟩;have aD:aG.strict ((h,.own am)::c4 i ac)=(c4 i ac).strict:=rfl;rw[aD,gq (by rw[qp J];exact aB)]at G;obtain⟨aL,aT,a8⟩:=AS (ah ay aH) G;refine⟨aL,B.vars al aL ?_,a8⟩;have az:(al==h)=false:=by
   induction D:al==h using bz with
   |false=>rfl
   |true=>
    have:=bF D;subst this;have:=lD (f:=(·.1))<|mem_of_lookup G;rw[qp J]at this;exact absurd this aA
  rw[By,ey,az];exact aT;rw[c8,qp J];exact an;replace D:=c_.mp D;subst D;exact⟨aw,au,_,_,H⟩;rw[ey]at G;induction D:al==h using bz with
  |false=>rw[D]at G;exact absurd G qq
  |true=>
   rw[D]at G;have:=bF D;subst this;simp at G;subst G;exact⟨j,c_.mpr rfl,B.vars _ _ (by rw[By,ey];simp),aa,bm,H,ah ax a7⟩
  rw[ey]at aC aM;induction D:al==h using bz with
  |false=>rw[D]at aC;exact absurd aC qq
  |true=>
   induction aj:ab==h using bz with|false=>rw[aj]at aM;exact absurd aM qq|true=>rw[bF D,bF aj]
 refine(AR (M:=M) aN n).1.p4 _ _ aU _ V (by rw[B.fuel];exact cz _) ag [j] R ak _ _ λaL aO ae U bi a5=>?_;have aF:∀p K,aK.heap.get? p=some K->p∉[j]->p∉aO:=λp K G D bq=>by rcases U.new p bq with ab|ab;exact D ab;by_cases k:C.T p;obtain⟨bn,bf,Z⟩:=aJ.cI p<|aJ.a_ p k;obtain⟨t2,aM,Z⟩:=B.good.cI p<|ad p k;rw[ab]at aM;cases aM;have:=B.ext.keep p K G k;rw[ab]at this;cases this
 have aX:∀p K,aK.heap.get? p=some K->¬V.Y p:=λp K G al=>by rw[B.fresh p al]at G;cases G
 refine q aL ae ⟨?_,λp K G k D=>U.bt.keep p K (B.ext.keep p K G k) k (aX p K G)<|aF p K G D,λp k i G=>?_,λaY=>U.bt.ok<|B.ext.ok aY,ao B.ext.toks U.bt.toks⟩ (a5.less λp D=>by rw[B.xs];exact .inl D);obtain⟨bh,bW,aC⟩:=B.ext.same;obtain⟨aQ,cn,aM⟩:=U.bt.same;exact⟨aQ,cn,by rw[aM,aC]⟩;obtain⟨aV,aC⟩:=B.ext.tabs p k i G;obtain⟨aW,aM⟩:=U.bt.tabs p k _ aC;exact⟨aV++aW,by rw[aM,uE]⟩
def pG.sim{aa:List ar}(B:pG C d h m N f j w aa i p)(K:ju j w=ah)(H:k.length=w.length)(ac:bf C h m (N+1) i)(Q:RzL h i.heap aa k):bg C d (a0.fn j) (c4 w k) [] p:=by
 have J:dM w=ah:=by have:=K;unfold ju at this;simp only[bY]at this;exact this.1.1.2
 have I:∀D,C.T D->d.X D:=B.good.a_;have G:=B.ok.loc;have r:RzL (d.grow []).X p.heap aa k:=by
  have x:=Q.more (Y:=(d.grow []).X) λD S F O=>by have E:d.X D\/D∈([]:List aF):=O;rcases E with E|E;rw[B.xs]at E;rcases E with E|E;exact E;rw[B.fresh D E]at F;cases F;cases E
  exact x.mono λD S q F=>B.ext.keep D S F λM=>q<|.inl<|I D M
 refine⟨⟨B.good.handled,B.good.depth,B.good.units,B.good.guards,λD q=>?_,λD M=>.inl<|I D M,B.good.ok,B.good.tok⟩,⟨B.ok.sc,B.ok.glob,B.ok.blt,λD M=>.inl<|I D M,B.ok.own,B.ok.cells,λO V F=>?_,⟨G.kind,G.ns,G.cell,G.apart,G.e_,λD q=>.inl<|G.cE D q,G.hV,G.jz,λn D F=>⟨(G.dC n D F).1,(G.dC n D F).2.1,.inl (G.dC n D F).2.2⟩,G.pin⟩⟩,by rw[qp H];exact J,λD q=>(by cases q),λO W F=>absurd F qq,λO ab W Z D F=>absurd F qq,I,G.cE,λn D F=>(G.dC n D F).2.2⟩;rcases(q:d.X D\/D∈([]:List aF))with q|q;exact B.good.cI D q;cases q;rw[gq (by rw[qp H];exact J)]at F;obtain⟨U,P,R⟩:=AS r F;exact⟨U,B.vars O U P,R⟩
def pG.leave{aa:List ar}(i:pG C e h k N f j w aa l p)(y:bf C h k (N+1) l)(r:cj C e [] gZ p ae)(n:Rz e.X ae.heap t d):aw C l ae/\Rz h ae.heap t d:=by refine⟨?_,n.less λx q=>by rw[i.xs];exact .inl q⟩;have m:dd C e gZ l ae:=i.ext.bt.trans r.bt;refine m.ext i.fresh λx q=>?_;rcases r.new x q with ab|ab;cases ab;exact i.ext.old y ab
def Jy{aU:List aP}(t:eB C f j w aU)(n:ju j w=ah)(y:k.length=w.length)(K:r=.ret d\/∃aX,r=.next aX/\d=.none)(eI:∀(b:b_),b.fuel=N->(∃i T R,b.env=dX i T f/\R.data=.func i/\(∀P,C.fb P->P.get? f=I R)/\i.scope=j)->b.env.globals=C.G->b.env.builtins=C.B->cc C b (a0.fn j) (ep aU b.env) (c4 w k) r):eg C (.ref f) k (N+1) d:=by intro ab W ac aa e H Z Y q;refine wa t n (by rw[H.length,y]) e λb p l S=>?_;have ak:=l.sim n y e H;refine eI b l.fuel l.env l.ok.glob l.ok.blt [] p ak _ _ ?_;rcases K with rfl|⟨aX,rfl,rfl⟩;intro V J ae D U M;obtain⟨m,r⟩:=l.leave e D M;exact q V ae m r;intro J ae O D;obtain⟨m,r⟩:=l.leave e D (.none:Rz b.X ae.heap .none .none);exact q .none ae m r
section
variable{c:b_}{S:a0}{σ:aG}
def cc.nil:cc C c S (ep [] c.env) σ (.next σ):=λy l ak h j a=>pF<|a y l ak cj.refl
def cc.cons{st:aP}{a:List aP}{aX:aG}{w:h3}(f:cc C c S (dY st c.env) σ (.next aX))(k:cc C c S (ep a c.env) aX w):cc C c S (ep (st::a) c.env) σ w:=λy l ak e j g=>
 gX (f y l ak _ _ λi ae d b=>k i ae d e j<|g.from d b)
theorem cc.ret{st:aP}(j:cc C c S (dY st c.env) σ (.ret d)):cc C c S (ep (st::a) c.env) σ (.ret d):=λy l ak f e b=>gX<|j y l ak _ _ b
def acD(J:mC f (I<|.Name m b) i.line c.env=bq av)(F:∀y l,bg C c S σ y l->bu C c f l d)(H:eD d=ah)(G:eR S (.Name m b) d []=I hz):
  cc C c S (dY (.Assign [.Name m b] f i) c.env) σ (.next<|σ.vals hz):=by
 intro y l ak M L A
 rw[HB _ _ _ _ _ J]
 refine aA<|dT<|aA<|F y l ak l (aw.refl l) ak.dD _ _ λt B k O=>?_
 have h:=ak.ext k
 have K:Rz (c.grow y).X B.heap t d:=tq (λN n=>(h.lists N n).2.2) H O
 have:=h.eR K G (Q:=λZ ae=>M .next ae) (E:=L) λD g j=>A y D g<|(cj.ext k).trans h j
 rw[Qc]at this
 rw[show(do gs b;ov c.env m t;bq gU:cA nt)=((do gs b;ov c.env m t)>>=λZ=>bq .next)by simp[uK]]
 exact aA<|fh this (λZ ae q=>a' q) λZ Z ab=>ab
def NV(q:∀y l,bg C c S σ y l->bu C c i l d):cc C c S (dY (.Return (I i) b) c.env) σ (.ret d):=by intro y l ak h j x;refine BZ<|q y l ak l (aw.refl l) ak.dD _ _ λt k g A=>?_;exact x t y k (cj.ext g) (λf n=>⟨(ak.lists f n).1,by obtain⟨Z,Z,aa,B,i⟩:=(ak.ext g).lists f n;exact⟨_,i⟩⟩) A
def cc.Ap(j:dv C O N){aU:List aP}(t:N<=c.fuel)(a:a6 O S M n σ aU=I w):cc C c S (ep aU c.env) σ w:=(AR (M:=M) j n).1.p4 S σ aU w c t a
theorem bg.ev(j:dv C O N){y:List aF}{l:aB}{i:aq}{d:af}(ak:bg C c S σ y l)(t:N<=c.fuel)(a:bh O n S σ.plus i=I d):bu C c i l d:=(eN j n).dN S σ.plus i d c l ak.borrow t a
end
end
theorem H4:∀{b:List ff},b.any (·.key.isStr g)=av->putL g d y t b=b++[⟨d,y,t⟩]
 |[]=>@λZ=>rfl
 |e::w=>@λj=>by
  simp only[O9,aeA]at j
  unfold putL
  rw[j.1,H4 j.2]
  rfl
def ab'{F:sv}{f:ba}{k:ef}{j:ar->aB->Prop}{l:aB}{K:Frag}{R cG Cl:aF}{d:List ff}{y:Nat}{g:au}{t:ar}{h:Unit->aB->Prop}(J:K.In l.heap)(ag:l.heap.get? R=I (mB Cl cG))(B:l.heap.get? cG=I (dictOf d y))(D:Hq K (.ref Cl) "__setattr__"=I (I<|.builtin "object.__setattr__"))(ax:P8 K Cl=ah)(P:takerIn K Cl g=I ai)(O:P7 K Cl=ah)(G:d.any (·.key.isStr g)=av)(L:d.any (·.refKey)=av)(V:d.length<1000)(q:∀C D W,(∀p,p≠cG->C.get? p=l.heap.get? p)->C.get? cG=I (dictOf (d++[⟨D,.str g<|l.toks+1,t⟩]) W)->h () {l with heap:=C,toks:=l.toks+2}):aL (aQ F f) k (setAttr (.ref R) g t) h j l:=by
 have S:InstAt l.heap R (mB Cl cG) Cl (I<|dictOf d y):=⟨ag,rfl,rfl,B⟩;refine set_plain J S D<|osa_open (s:={l with toks:=l.toks+1}) J S ax P λp=>?_;obtain⟨U,N,H⟩:=any_some O;refine aA<|a'<|aA<|aA<|agV ag<|aA<|looks_clsIn J N _ _ _ _ (λZ Z i=>i) ?_;rw[H];refine a' (a:=I cG)<|aA<|a'<|aA ?_;unfold nsSet;refine aA<|aA<|QB<|a'<|aA<|u'<|aA<|agV (o:=dictOf d y) B ?_;dsimp only;have T:(!d.toArray.any (·.key.isStr g)&&d.toArray.any (·.refKey))=av:=by rw[<-aeo,<-aeo,G,L];rfl
 rw[aRefKeyMayBeTheName_at,T];refine wpAny_updatePart (o:=dictOf d y) B ?_;have r:(l.heap.update cG<|Obj.putName g (P0 f.params g) (.str g<|l.toks+1) t).get? cG=I (dictOf (d++[⟨P0 f.params g,.str g<|l.toks+1,t⟩])<|putN g d y):=by rw[PW _ B (by rw[putName_dict];rfl),putName_dict,H4 G]
 refine aA (wpAny_lookBehind r (pastItsLine_dict (by rw[sm,gF,u_];simp;exact d_<|cq o z)) ?_);exact a'<|q _ _ _ (λp M=>Heap.get?_update_other _ _<|nq M) r
section
variable{C:bS}{O:cY}{N n:Nat}{M:List au}
noncomputable def atom:af->Bool|.none=>ah|.bool _=>ah|.int _=>ah|.float _=>ah|.str _=>ah|_=>av
theorem Rz.atom{c l:aF->Prop}{j b:cP}{g:ar}{d:af}(f:atom d=ah)(w:Rz c j g d):Rz l b g d:=by
 cases d<;>try exact fT f
 exact w.nK λi=>i▸.none;exact w.bK λi=>i▸.bool _;exact w.iK λk i=>i▸.int _ _;exact w.fK λk n i=>i▸.float _ _ n;exact w.sK λk i=>i▸.str _ _
theorem RzL.atoms:∀{g:List af}{aa:List ar},g.all Mine.atom=ah->RzL c j aa g->RzL l d aa g|[]=>λt w=>w.nK λi=>i▸.nil|Z::t=>λf w=>w.cK λZ Z m b i=>i▸.cons (m.atom (aY f).1) (RzL.atoms (aY f).2 b)
def dh.append(w:Rz g j i d)(q:dh g j f p):dh g j (f++[⟨e,.str m k,i⟩]) (p++[(m,d)]):=by induction q using dh.ind with|n=>exact .cons w .nil|c s y l=>exact .cons s l
def FL:kV->Bool|.val d=>atom d|.own a=>a.all atom
def vk(σ:aG):Bool:=σ.all λs=>FL s.2
def M1(j:vk σ=ah)(i:σ.lookup m=I t):FL t=ah:=by unfold vk at j;exact bG.mp j _<|mem_of_lookup i
section
variable{c:b_}{S:a0}{σ aX:aG}{W:List aF}{s:aB}{cG:aF}
def bg.but(ak:bg C c S σ W s)(j:∀ay U,aX.lookup ay=I U->σ.lookup ay=I U)(ae:dM (aX.map (·.1))=ah)(L:vk aX=ah) (cg:¬c.X cG) (O:cG∉W) (aq:¬C.P cG) (as:∀J,s.heap.get? cG=I J->¬fO J) (iq:∀K,K≠cG->f.get? K=s.heap.get? K) (ap:s.toks<=a1):bg C c S aX W {s with heap:=f,toks:=a1}:=by
 have ar:¬C.T cG:=λQ=>cg<|ak.a_ _ Q;have F:∀K,(c.grow W).X K->K≠cG:=λK q i=>q.elim (λab=>cg<|i▸ab) λab=>O<|i▸ab;have N:C.fb f:=C.m9 _ _ ak.good.ok λK J av i=>(iq K λq=>by subst q;exact av.elim ar λab=>ab.elim aq<|as J i).trans i;have G:∀D R,bD C s.heap c.env D R->bD C f c.env D R:=by rintro D R ⟨A,V,Y,L⟩;refine⟨A,V,Y,?_⟩;have B:=ak.ok.loc;rcases L with⟨k,Q,H,ao,i⟩|⟨k,ad,M,Q,an⟩;exact .inl ⟨k,Q,H,mc ao λJ i=>(iq _<|F _<|B.cE _ B.e_).trans i,i⟩;exact .inr ⟨k,ad,M,Q,pV an λJ g=>(iq _<|F _ (B.dC _ _ M).2.2).trans g⟩
 have B:=ak.ok.loc;refine⟨⟨ak.good.handled,ak.good.depth,ak.good.units,ak.good.guards,λA ac=>?_,ak.good.a_,N,λi=>ak.good.tok<|G1.mp<|i▸ap⟩,⟨ak.ok.sc,ak.ok.glob,ak.ok.blt,ak.ok.a_,ak.ok.own,ak.ok.cells,λD d i=>?_,?_⟩,ae,λA aj=>?_,λD M i=>?_,λD ab ag ai A aC aM aw ax=>?_,ak.a_,ak.cE,ak.eE⟩;obtain⟨J,i,Q⟩:=ak.good.cI A ac;exact⟨J,(iq A<|F A ac).trans i,Q⟩;have g:=(gq ae).mp i;have aM:=j _ _ g;obtain⟨U,A,au⟩:=ak.ok.names D d<|(gq ak.keys).mpr aM;exact⟨U,G _ _ A,au.atom<|M1 L g⟩;refine⟨B.kind,?_,λH A i=>?_,B.apart,B.e_,B.cE,B.hV,B.jz,B.dC,λD R i=>G D R<|B.pin D R i⟩;obtain⟨H,n⟩:=B.ns;exact⟨H,mc n λJ i=>(iq _<|F _<|B.cE _ B.e_).trans i⟩;obtain⟨U,az⟩:=B.cell H A i;exact⟨U,pV az λJ g=>(iq _<|F _ (B.dC H A i).2.2).trans g⟩;obtain⟨al,am,aa,H,i⟩:=ak.lists A aj;exact⟨al,am,aa,H,(iq A λq=>O<|q▸aj).trans i⟩;have aM:=j _ _ i;obtain⟨A,aj,af,aa,H,aC,au⟩:=ak.own D M aM;exact⟨A,aj,G _ _ af,aa,H,(iq A λq=>O<|q▸aj).trans aC,au.atoms<|M1 L i⟩;obtain⟨V,aA,E,Z⟩:=ak.own D ag<|j _ _ aC;obtain⟨Y,aB,p,Z⟩:=ak.own ab ai<|j _ _ aM;have dO:=(G _ _ E).same aw;have ej:=(G _ _ p).same ax;rw[dO]at E;rw[ej]at p;exact ak.apart D ab ag ai A (j _ _ aC) (j _ _ aM) E p
def bg.pinned(ak:bg C c S σ W s)(ax:c.pin b=I i)(w:Rz (c.grow W).X s.heap i d):bg C c S (σ.set b<|.val d) W s:=by
 have p:∀m j,(σ.set b<|.val d).lookup m=I (.own j)->σ.lookup m=I (.own j):=by intro m j h;rw[kI]at h;split at h;cases h;exact h
 refine⟨ak.good,⟨ak.ok.sc,ak.ok.glob,ak.ok.blt,ak.ok.a_,ak.ok.own,ak.ok.cells,λm k h=>?_,ak.ok.loc⟩,rY ak.keys,ak.lists,λm j h=>ak.own m j<|p m j h,λm ab j q f h g=>ak.apart m ab j q f (p m j h)<|p ab q g,ak.a_,ak.cE,ak.eE⟩;have h:=(gq<|rY ak.keys).mp h;rw[kI]at h;split at h;rename_i ag;cases h;rw[bF ag];exact⟨i,ak.ok.loc.pin b i ax,w⟩;exact ak.ok.names m k<|(gq ak.keys).mpr h
def bg.E8(ak:bg C c S σ W s)(w:∀b t,p b=I t->bD C s.heap c.env b t)(n:∀m,Au.contains m=ah->S.own.contains m=ah/\p m=ai):bg C {c with pin:=p} {S with own:=Au} σ W s:=by have a:=ak.ok.loc;refine⟨⟨ak.good.handled,ak.good.depth,ak.good.units,ak.good.guards,ak.good.cI,ak.good.a_,ak.good.ok,ak.good.tok⟩,⟨ak.ok.sc,ak.ok.glob,ak.ok.blt,ak.ok.a_,λm ag r=>?_,ak.ok.cells,λm d i=>?_,⟨a.kind,a.ns,a.cell,a.apart,a.e_,a.cE,a.hV,a.jz,a.dC,w⟩⟩,ak.keys,ak.lists,λm a i=>?_,ak.apart,ak.a_,ak.cE,ak.eE⟩;obtain⟨f,g⟩:=n m ag;exact⟨g,(ak.ok.own m f r).2⟩;exact ak.ok.names m d i;exact ak.own m a i
end
structure h5(C:bS)(c:b_)(S:a0)(y:Str)(x cG Cl:Addr)(fa:Shared)(σ:aG)(W:List Addr)(bA:List DictEntry)(n:Nat)(c':List (Str×af))(s:Shared):Prop where
 sim:bg C c S σ W s
 ax:c.pin y=some (.ref x)
 ag:s.heap.get? x=some (instObj Cl cG)
 hd:s.heap.get? cG=some (dictOf bA n)
 tX:¬c.X x
 cg:¬c.X cG
 mZ:¬C.P cG
 e:dh (λb=>(c.grow W).X b\/b=cG) s.heap bA c'
 bt:dd C c (cG::W) fa s
 new:∀a∈W,fa.heap.get? a=none
section
variable{c:b_}{S:a0}{σ aX:aG}{W:List aF}{s fa:aB}{x cG Cl:aF}{y:au}{bA:List ff}{m:Nat}{c':List (au×af)}
def h5.OF(j:h5 C c S y x cG Cl fa σ W bA m c' s):x∉W:=λa=>by obtain⟨Z,Z,aa,n,i⟩:=j.sim.lists x a;rw[j.ag]at i;simp[mB]at i
def h5.bB(j:h5 C c S y x cG Cl fa σ W bA m c' s):cG∉W:=λa=>by obtain⟨Z,Z,aa,n,i⟩:=j.sim.lists cG a;rw[j.hd]at i;simp[dictOf]at i
theorem h5.obj(j:h5 C c S y x cG Cl fa σ W bA m c' s):Rz (c.grow W).X s.heap (.ref x) (.obj Cl c'):=.obj (λq=>q.elim j.tX j.OF) (λq=>q.elim j.cg j.bB) j.ag j.hd<|j.e.less λp q=>.inl q
theorem h5.set(j:h5 C c S y x cG Cl fa σ W bA m c' s):h5 C c S y x cG Cl fa (σ.set y<|.val<|.obj Cl c') W bA m c' s:=⟨j.sim.pinned j.ax j.obj,j.ax,j.ag,j.hd,j.tX,j.cg,j.mZ,j.e,j.bt,j.new⟩
def h5.Lc(j:h5 C c S y x cG Cl fa σ W bA m c' s)(ak:bg C c S aX i ae)(E:cj C c W i s ae):h5 C c S y x cG Cl fa aX i bA m c' ae:=by
 have G:∀p,¬c.X p->¬C.T p:=λp q k=>q<|ak.a_ p k;have H:∀p,¬c.X p->¬c.Y p:=λp q k=>q<|ak.cE p k;have l:∀p D,s.heap.get? p=some D->p∈i->p∈W:=λp D B n=>(E.new p n).resolve_right λq=>by rw[B]at q;cases q
 refine⟨ak,j.ax,E.bt.keep _ _ j.ag (G _ j.tX) (H _ j.tX) λn=>j.OF<|l _ _ j.ag n,E.bt.keep _ _ j.hd (G _ j.cg) (H _ j.cg) λn=>j.bB<|l _ _ j.hd n,j.tX,j.cg,j.mZ,?_,?_,λf n=>?_⟩;have I:=j.e.more (Y:=λp=>(c.grow i).X p\/p=cG) λp D B q=>q.elim (λab=>ab.elim (λab=>.inl<|.inl ab) λab=>.inl<|.inr<|l p D B ab) .inr;refine I.mono λp D F B=>E.bt.keep p D B (G p λq=>F<|.inl<|.inl q) (H p λq=>F<|.inl<|.inl q) λq=>F<|.inl<|.inr q;refine(j.bt.cut (λZ q=>q) λp n=>.inl ?_).trans<|E.bt.cut (λZ q=>q) λp n=>.inl<|.tail _ n;rcases c9.mp n with rfl|n;exact .head _;exact .tail _<|E.old p n;rcases E.new f n with q|q;exact j.new f q;induction B:fa.heap.get? f using b6 with
 |none=>rfl
 |some D=>
  exfalso;by_cases k:C.T f;obtain⟨d,A,Z⟩:=j.sim.good.cI f<|.inl<|j.sim.a_ f k;rw[q]at A;cases A;by_cases bB:f∈cG::W;rcases c9.mp bB with rfl|bB;rw[j.hd]at q;cases q;rw[j.new f bB]at B;cases B;obtain⟨d,A⟩:=j.bt.all f D B k bB;rw[q]at A;cases A
def h5.put{K:Frag}(j:h5 C c S y x cG Cl fa σ W bA m c' s)(am:∀j,C.fb j->K.In j) (O:bu C c f s d) (P:eD d=ah) (V:mC f (I<|.Attribute (.Name y a1) g a2) ac.line c.env=bq av) (as:(y==("__debug__":au))=av) (G:Hq K (.ref Cl) "__setattr__"=I (I<|.builtin "object.__setattr__")) (R:P8 K Cl=ah) (aq:takerIn K Cl g=I ai) (ao:P7 K Cl=ah) (ak:bA.any (·.key.isStr g)=av) (al:bA.any (·.refKey)=av) (ay:bA.length<1000) (H:∀x L,aX.lookup x=I L->σ.lookup x=I L) (ap:dM (aX.map (·.1))=ah) (ar:vk aX=ah) (q:∀G ad L J ae,h5 C c S y x cG Cl fa aX W (bA++[⟨G,.str g ad,L⟩]) J (c'++[(g,d)]) ae->bd .next ae):aL (aQ C.prog C.w) c.A (dY (.Assign [.Attribute (.Name y a1) g a2] f ac) c.env) bd be s:=by
 refine plainObj_wpAny_Assign_Attribute (O s (aw.refl s) j.sim.dD _ _ λL D k aE=>?_) V;have l:=j.Lc (j.sim.ext k)<|cj.ext k;refine BY (bD.load (l.sim.ok.loc.pin _ _ j.ax) ?_) as;refine ab' (am _ l.sim.good.ok) l.ag l.hd G R aq ao ak al ay λaj U J iq N=>?_;have aA:Rz (λp=>(c.grow W).X p\/p=cG) D.heap L d:=KO (λM i aa n q=>by rw[i,l.hd]at q;simp[dictOf]at q) P<|tq (λM af=>(l.sim.lists M af).2.2) P aE;have B:∀p F,¬((c.grow W).X p\/p=cG)->D.heap.get? p=I F->aj.get? p=I F:=λp F an i=>(iq p λq=>an<|.inr q).trans i;have Y:¬C.T cG:=λad=>j.cg<|j.sim.a_ _ ad;have aC:x≠cG:=λq=>by have M:=l.ag;rw[q,l.hd]at M;simp[dictOf,mB]at M
 refine q U _ L J _ ⟨l.sim.but H ap ar j.cg l.bB j.mZ (Af l.hd λq=>by obtain⟨Z,c',i⟩:=q;cases i) iq<|cv _ 2,j.ax,(iq x aC).trans l.ag,N,j.tX,j.cg,j.mZ,?_,?_,j.new⟩;exact dh.append (aA.mono B)<|l.e.mono B;refine l.bt.trans ?_;refine⟨⟨_,_,rfl⟩,λp F i Z Z af=>(iq p λq=>af<|q▸.head _).trans i,λp ad aD i=>⟨#[],?_⟩,λaz=>C.m9 _ _ az λp F aB i=>(iq p λq=>?_).trans i,λp F i Z af=>⟨F,(iq p λq=>af<|q▸.head _).trans i⟩,cv _ 2⟩;simpa using(iq p λq=>Y<|q▸ad).trans i;subst q;exact aB.elim Y λab=>ab.elim j.mZ (Af l.hd (λq=>by obtain⟨Z,c',i⟩:=q;cases i) F i)
end
noncomputable def a0.loc(j:gW):a0:=⟨j,(j.names.filter λs=>s.2==.local).map (·.1)⟩
def y7(j:gW)(w:List au)(f:List au):Bool:=j.kind==.function&&!j.isGenerator&&!j.isCoroutine&&dM (j.names.map (·.1))&&dM w&&w.all (λs=>jo s&&j.names.lookup s==I .local)&&j.names.all λs=>jo s.1&&(s.2==.local||(s.2==.free&&f.contains s.1))&&j.names.lookup s.1==I s.2
structure mD(C:bS)(c:b_)(X:Addr->Prop)(A:Around)(N:Nat)(sc:Scope)(cl:List (Str×Addr))(params:List Str)(aa:List Value)(s fa:Shared):Prop where
 ext:aw C s fa
 xs:c.X=λb=>X b\/c.Y b
 r8:∀b,c.Y b->s.heap.get? b=none
 fuel:c.fuel=N
 env:c.env.scope=sc/\c.env.cells=cl
 good:bf C c.X c.A c.fuel fa
 ok:b1 C c (a0.loc sc) [] fa
 vars:∀y v,(params.zip aa).lookup y=some v->bD C fa.heap c.env y v
 free:∀y a v,sc.names.lookup y=some .free->cl.lookup y=some a->s.heap.IsCell a (some v)->bD C fa.heap c.env y v
theorem Nl:∀{d:List (au×ar)},dM (d.map (·.1))=true->d.reverse.lookup m=d.lookup m
 |[]=>@λZ=>rfl
 |(a,t)::w=>@λj=>by
  rw[c8]at j
  unfold dM at j
  simp only[bY,ew,hA,decide_eq_false_iff_not]at j
  rw[Bx,uN,Nl j.2,ey,ey]
  induction q:m==a using bz with
  |true=>
   have i:=bF q;subst i;have:w.lookup m=none:=by induction c:w.lookup m using b6 with|none=>rfl|some p=>exact absurd (lD (f:=(·.1))<|mem_of_lookup c) j.1
   rw[this];rfl
  |false=>cases w.lookup m<;>rfl
set_option maxHeartbeats 1000000 in
def JA{bm:aF}{aK:cQ}{fd:x2}{aU:List aP}{params:List au}{aa:List ar}{cl:aF->Prop}{a2:ef}{E:aB}(aH:E.heap.get? bm=I aK)(aE:aK.data=.func fd)(L:fd.body=.stmts aU)(ak:E.heap.CodeRec fd.code fd.qualname)(aj:E.heap.NoLimit)(J:y7 fd.scope params (fd.closure.map (·.1))=ah)(ab:BN fd ⟨aa,[]⟩=bq (params.zip aa))(aJ:aa.length=params.length)(aC:fd.globals=C.G)(aA:fd.builtins=C.B)(aq:fd.closure.Pairwise λci H=>ci.2≠H.2)(M:∀K D,fd.closure.lookup K=I D->¬C.T D/\cl D/\∃as,E.heap.IsCell D as)(al:bf C cl a2 (N+1) E){aI:oq->aB->Prop}(eI:∀(a1:b_)(V:aB),mD C a1 cl a2 N fd.scope fd.closure params aa E V->∀ay,aL (aQ C.prog C.w) a1.A (ep aU a1.env) (λbm ae=>aI (.ok (.ret (match bm with|.ret as=>as|Z=>.none))) ae) ay V):fU (aQ C.prog C.w) a2 (.call (.ref bm) ⟨aa,[]⟩) aI E:=by
 unfold y7 at J;simp only[bY,beq_iff_eq,ew,bG,mu]at J;obtain⟨⟨⟨⟨⟨⟨an,af⟩,av⟩,aD⟩,bs⟩,Q⟩,r⟩:=J;have j:(params.zip aa).map (·.1)=params:=GP (by omega);refine codeAny_call_def (binds:=params.zip aa) (by have:=al.depth;show a2.depth<1000;exact b4 (cv _ _) o) aH aE aj ak L (BindsTo.of_eq ab) (λci ag q=>?_) (λci ag=>?_) (λS U F=>?_) av af an;have:=(r ci ag).1.2;rw[q]at this;rcases this with P|⟨P,_⟩<;>cases P;have bv:ci.1∈params:=by have:=lD (f:=(·.1)) ag;rw[j]at this;exact this
 exact(Q _ bv).2;have W:aw C E {E with heap:=S,toks:=E.toks+(params.zip aa).length}:=aw.of_keep F<|cv _ _;have O:=al.ext W;have bd:E.heap.get? E.heap.objs.size=ai:=g7 _;have ac:=al.gg bd;let a1:b_:={env:=callEnv fd E.heap.objs.size bm,X:=λp=>cl p\/p=E.heap.objs.size,Y:=λp=>p=E.heap.objs.size,A:=a2.deeper<|callEnv fd E.heap.objs.size bm,fuel:=N};have ca:∀H,a1.env.kindOf H=fd.scope.names.lookup H:=λH=>rfl;have az:∀K D,fd.closure.lookup K=I D->D≠E.heap.objs.size:=λK D i q=>by obtain⟨Z,Z,as,ce,ao,Z⟩:=M K D i;rw[q,bd]at ao;cases ao
 have cd:h2 C a1 {E with heap:=S,toks:=E.toks+(params.zip aa).length}:=by refine⟨an,⟨_,U⟩,λK D i=>?_,aq,rfl,λD be=>.inr be,λD be=>(by rw[show D=_ from be];exact ac.1),λD be=>(by rw[show D=_ from be];exact ac.2.1),λK D i=>⟨(M K D i).1,az K D i,.inl (M K D i).2.1⟩,λH aN i=>(by cases i)⟩;obtain⟨Z,Z,as,ap⟩:=M K D i;exact⟨as,ap.keeps F⟩
 have cr:b1 C a1 (a0.loc fd.scope) [] {E with heap:=S,toks:=E.toks+(params.zip aa).length}:=by refine⟨rfl,aC,aA,λp ch=>.inl<|al.a_ p ch,λH k aG=>?_,λH k=>?_,λH aM i=>(by cases i),cd⟩;have d:=p6 aG;rw[hA]at k;have k:=of_decide_eq_true k;unfold a0.loc at k;rw[ez]at k;obtain⟨bi,ax,rfl⟩:=k;rw[dP]at ax;obtain⟨ax,ad⟩:=ax;simp only[beq_iff_eq]at ad;refine⟨rfl,d.1,d.2,.inl ?_⟩;rw[ca,(r bi ax).2,ad];have k:fd.scope.names.lookup H=I .cell\/fd.scope.names.lookup H=I .free:=k;rcases k with k|k;have:=(r _<|mem_of_lookup k).1.2;simp at this;have:=(r _<|mem_of_lookup k).1.2;simp only[beq_self_eq_true,true_and]at this;rcases this with P|P;exact absurd P z;rw[hA]at P;obtain⟨bi,ax,i⟩:=ez.mp<|of_decide_eq_true P;obtain⟨D,am⟩:=l' (a:=bi.2) (l:=fd.closure) (n:=H) (by rw[<-i];exact ax);exact⟨D,am⟩
 refine eI a1 _ ⟨W,rfl,λp be=>(by rw[show p=_ from be];exact bd),rfl,⟨rfl,rfl⟩,?_,cr,λH as ap=>?_,λH D as bn am co=>?_⟩ _;refine⟨al.handled,?_,?_,al.guards,λp L=>?_,λp ch=>.inl<|al.a_ p ch,O.ok,O.tok⟩;have:=al.depth;show a2.depth+1+N<1000;omega;have:=al.units;show a2.units+3+4*N<9000;omega;rcases L with L|L;exact O.cI p L;obtain⟨ce,Z,Z,i,Z⟩:=U;exact⟨ce,(show p=_ from L)▸i,λch=>absurd ch (by rw[show p=_ from L];exact ac.1)⟩;have k:H∈params:=by have:=lD (f:=(·.1))<|mem_of_lookup ap;rw[j]at this;exact this
 have d:=p6 (Q H k).1;refine⟨an,d.1,d.2,.inl ⟨(Q H k).2,ac.1,_,U,?_⟩⟩;show(params.zip aa).reverse.lookup H=I as;rw[Nl (by rw[j];exact bs)];exact ap;have d:=p6 (r _<|mem_of_lookup bn).1.1;exact⟨an,d.1,d.2,.inr ⟨.inr bn,D,am,(M H D am).1,co.keeps F⟩⟩
noncomputable def pY:cQ:=⟨.type "list",ai,.seq ⟨[]⟩ 0,#[]⟩
def eX.wide{t:ar}(f:eX C g d b l):∃x,l.heap.get? d=I x:=by obtain⟨aa,r,i,Z⟩:=f.at';exact⟨_,i⟩
def dd.alive(m:dd C f y l ae)(r:bf C d a k ae)(h:∀p∈y,∃x,ae.heap.get? p=I x)(i:l.heap.get? p=I x):∃j,ae.heap.get? p=I j:=by by_cases B:C.T p;obtain⟨j,q,Z⟩:=r.cI p<|r.a_ p B;exact⟨j,q⟩;by_cases n:p∈y;exact h p n;exact m.all p x i B n
def Vw{St:Nat->cP->Prop}(M:ci[0]?=some ⟨bm,is,[],0⟩)(g1:ci[1]?=none)(bv:nI C L.A F bm io V ap St)(cV:L.X=λf=>F f\/f∈V)(I:∀f,C.T f->F f)(J:∀f,L.Y f->F f)(ag:∀n f,L.env.cells.lookup n=some f->F f)(K:F al)(ge:∀B∈V,¬C.P B)(j:∀d∈ap,∃ex,fw hf bm d f4=some ex)(aj:ap.length<=1000)(q:∀(ae:aB)(x:List aF),dd C L (al::V) a5 ae->b1 C L hf f4 ae->eX C L al (x.map af.ref) ae->x.length=ap.length->x.Nodup->(∀f∈x,¬L.X f/\a5.heap.get? f=none/\ae.heap.get? f=some pY)->li (.ok .next) ae):∀(k ca:Nat)(a2:aB)(x:List aF),ca+k=ap.length->x.length=ca->St ca a2.heap->bf C L.X L.A L.fuel a2->b1 C L hf f4 a2->eX C L al (x.map af.ref) a2->x.Nodup->(∀f∈x,¬L.X f/\a5.heap.get? f=none/\a2.heap.get? f=some pY)->dd C L (al::V) a5 a2->fU (aQ C.prog C.w) L.A (.compLoop (.ListComp (.List [] le) ci he lf) 0 io (.ref al) L.env) li a2:=by
 have a1:∀{a2},b1 C L hf f4 a2->iu C L V:=λkk=>⟨λQ=>bv.off _ Q<|J _ kk.loc.e_,λjp f am Q=>bv.off _ Q<|ag jp f am,λf Q=>by rw[cV];exact .inr Q⟩;have cl:al∉V:=λQ=>bv.off _ Q K;have f2:∀f∈V,¬C.T f:=λf Q O=>bv.off _ Q<|I f O;have an:∀B,(B∈V\/¬F B)->¬C.T B/\¬L.Y B/\B≠al:=λB j=>
  ⟨λO=>j.elim (λQ=>bv.off _ Q<|I B O) λab=>ab<|I B O,λah=>j.elim (λQ=>bv.off _ Q<|J B ah) λab=>ab<|J B ah,λam=>j.elim (λQ=>cl<|am▸Q) λab=>ab<|am▸K⟩
 have W:∀B,¬L.X B->B∉V/\¬C.T B/\¬L.Y B/\B≠al:=λB j=>by rw[cV]at j;have ad:¬F B:=λab=>j<|.inl ab;exact⟨λQ=>j<|.inr Q,an B<|.inr ad⟩
 intro k;induction k with
 |zero=>
  intro ca a2 x db co st hm kk bd cg h f1;refine CT M λai=>?_;have N:ca=ap.length:=db;refine bv.end_ (N▸st) λhw lc iS cd=>?_;have D:dB C V a2 {a2 with heap:=hw,toks:=lc}:=dB.of f2 ge (λf Q=>bv.kA _ _ st f Q) cd;exact q _ x (f1.trans<|D.bt λf Q=>dt _ Q) (kk.g_ (a1 kk) D) (bd.g_ kk.a_ cl (a1 kk) D) (Gy o o) cg λf U=>⟨(h f U).1,(h f U).2.1,cd _ _ (W f (h f U).1).1 (h f U).2.2⟩
 |succ k im=>
  intro ca a2 x db co st hm kk bd cg h f1;refine CT M λai=>?_;have cr:ca<ap.length:=db▸xR (BF k);have gt:ap[ca]?=some (ap[ca]'cr):=hb _
  obtain⟨ex,gl⟩:=j (ap[ca]'cr)<|kP _
  obtain⟨go,fn⟩:=I_ gl;refine bv.use gt st (λf U=>by obtain⟨f8,am,Z⟩:=hm.cI f (by rw[cV];exact .inl U);exact⟨f8,am⟩) λls ac l iS cd jv f0=>?_;rw[<-cV]at f0;have D:dB C V a2 {a2 with heap:=ac,toks:=l}:=dB.of f2 ge (λf Q=>bv.kA _ _ st f Q) cd;have eq:Rz L.X ({a2 with heap:=ac,toks:=l}:aB).heap ls _:=f0;have bn:St (ca+1) ({a2 with heap:=ac,toks:=l}:aB).heap:=jv;have dK:∀f∈x,({a2 with heap:=ac,toks:=l}:aB).heap.get? f=some pY:=λf U=>cd _ _ (W f (h f U).1).1 (h f U).2.2;clear f0 jv cd iS;generalize({a2 with heap:=ac,toks:=l}:aB)=kw at D eq bn dK ⊢;have df:=hm.only D λf Q=>⟨f2 f Q,bv.here _ _ bn f Q⟩;have g2:=kk.g_ (a1 kk) D;have fd:=bd.g_ kk.a_ cl (a1 kk) D;refine yZ g2 df go eq λr H g3 Z=>?_;have b7:=df.step H;have ce:=fd.step kk.a_ kk.loc.cE H;have kJ:St (ca+1) r.heap:=bv.frame _ _ _ bn λB f8 am j=>H.keep B f8 am (an B j).1 (an B j).2.1;have dL:∀f∈x,r.heap.get? f=some pY:=λf U=>H.keep _ _ (dK f U) (W f (h f U).1).2.1 (W f (h f U).1).2.2.1;have ev:dd C L (al::V) a5 r:=f1.trans<|(D.bt λf Q=>dt _ Q).trans H.bt;rw[ae1];refine a' ?_;rw[g1];show aL _ _ (cx (PySem.Expr.List [] le) L.env) _ _ r;rw[Qa];refine aA<|dT<|aA (m:=spliced<|jd le<|hg [] L.env)<|a' (a:=([]:List ar)) ?_;refine yg ?_ (by rw[hT];simp);have bs:aw C r {r with heap:=r.heap.push {cls:=.type "list",data:=.seq ([]:List ar).toArray}}:=aw.push;have cs:r.heap.get? r.heap.objs.size=none:=g7 _;have bU:({r with heap:=r.heap.push {cls:=.type "list",data:=.seq ([]:List ar).toArray}}:aB).heap.get? r.heap.objs.size=some pY:=fs _ rfl;generalize({r with heap:=r.heap.push {cls:=.type "list",data:=.seq ([]:List ar).toArray}}:aB)=eH at bs bU ⊢;generalize r.heap.objs.size=f at cs bU ⊢;have lI:=b7.ext bs;have fK:¬L.X f:=(b7.gg cs).2.2;have f8:=W f fK;refine vE (ce.ext kk.a_ bs) (.ref f:Rz L.X eH.heap (.ref f) (.ref f)) (by rw[bZ,co];exact ao (d_ cr)<|ao o z) λcK G ch=>?_;have hd:=((g3.ext bs).g_ bd.off G).sub fn;have ii:∀B∈al::V,∃f8,r.heap.get? B=some f8:=λB j=>by rcases c9.mp j with rfl|j;obtain⟨aa,jp,am,Z⟩:=ce.at';exact⟨_,am⟩;exact bv.here _ _ kJ B j
  have kt:a5.heap.get? f=none:=by
   induction am:a5.heap.get? f using b6 with
   |none=>rfl
   |some bi=>
    obtain⟨ln,ga⟩:=ev.alive b7 ii am;rw[cs]at ga;cases ga
  have be:∀B,¬L.X B->∀bi,eH.heap.get? B=some bi->cK.heap.get? B=some bi:=λB j bi am=>G.keep B bi am (W B j).2.1 (by simpa using(W B j).2.2.2);refine im (ca+1) cK (x++[f]) ((e7 ca 1 k).trans db) (by rw[gF,co];rfl) ?_ (lI.only G λB j=>?_) hd (by rw[ig];exact ch) ?_ (λB j=>?_) ((ev.trans bs.bt).trans (G.bt λB j=>by simp at j;simp[j]));exact bv.frame _ _ _ kJ λB bi am j=>G.keep B bi (bs.keep B bi am (an B j).1) (an B j).1 (by simpa using(an B j).2.2);replace j:=c_.mp j;subst j;exact⟨bd.e4,by obtain⟨aa,jp,am,Z⟩:=ch.at';exact⟨_,am⟩⟩;rw[xO];refine⟨cg,by simp,λB j lm em am=>?_⟩;simp at em;subst em;subst am;rw[dL B j]at cs;cases cs;rcases jD.mp j with j|j;exact⟨(h B j).1,(h B j).2.1,be B (h B j).1 _<|bs.keep _ _ (dL B j) (W B (h B j).1).2.1⟩;replace j:=c_.mp j;subst j;exact⟨fK,kt,be B fK _ bU⟩
def h6(c:aF->Prop)(l:aB)(d:List (aF×List af)):Prop:=∀a∈d,∃aa r,l.heap.get? a.1=I ⟨.type "list",ai,.seq ⟨aa⟩ r,#[]⟩/\RzL c l.heap aa a.2
def h6.keep(j:h6 c l d)(k:∀a x,(¬c a\/a∈d.map (·.1))->l.heap.get? a=I x->ae.heap.get? a=I x):h6 c ae d:=λn ax=>by obtain⟨aa,g,i,w⟩:=j n ax;exact⟨aa,g,k _ _ (.inr<|lD ax) i,w.mono λa x q f=>k a x (.inl q) f⟩
theorem h6.more(j:h6 c l d)(k:∀a x,l.heap.get? a=I x->Y a->c a):h6 Y l d:=λg ax=>by obtain⟨aa,f,i,w⟩:=j g ax;exact⟨aa,f,i,w.more k⟩
def bg.forget(ak:bg C g f σ h i)(ax:σ.pure=ah):bg C g f σ [] i:=by
 have E:∀D j,σ.lookup D=I (.own j)->False:=λD j B=>by have:=bG.mp ax _<|mem_of_lookup B;cases this
 have gJ:∀p,(g.grow []).X p->(g.grow h).X p:=λp q=>q.elim .inl λab=>by cases ab
 have j:=ak.ok.loc;refine⟨⟨ak.good.handled,ak.good.depth,ak.good.units,ak.good.guards,λA n=>ak.good.cI A<|gJ A n,λA k=>.inl<|ak.a_ A k,ak.good.ok,ak.good.tok⟩,⟨ak.ok.sc,ak.ok.glob,ak.ok.blt,λA k=>.inl<|ak.a_ A k,ak.ok.own,ak.ok.cells,λD d B=>?_,?_⟩,ak.keys,λA L=>(by cases L),λD j B=>(E D j B).elim,λD G j H A B Z Z Z=>(E D j B).elim,ak.a_,ak.cE,ak.eE⟩;obtain⟨K,A,J⟩:=ak.ok.names D d B;exact⟨K,A,J.less gJ⟩;exact⟨j.kind,j.ns,j.cell,j.apart,j.e_,λA G=>.inl<|ak.cE A G,j.hV,j.jz,λF A B=>⟨(j.dC F A B).1,(j.dC F A B).2.1,.inl<|ak.eE F A B⟩,j.pin⟩
def cj.forget(e:cj C a [] i l ae):dd C a [] l ae:=e.bt.cut (λZ d=>d) λp n=>.inr ((e.new p n).resolve_left λab=>by cases ab)
def bg.lr(ak:bg C (g.grow y) b σ [] l)(j:∀f,C.T f->g.X f)(i:∀f,g.Y f->g.X f)(h:∀n f,g.env.cells.lookup n=I f->g.X f):bg C g b σ [] l:=(ak.pd.drop j i h).sim ⟨ak.good.handled,ak.good.depth,ak.good.units,ak.good.guards,λf d=>ak.good.cI f<|d.elim (λab=>.inl<|.inl ab) .inr,λf k=>.inl<|j f k,ak.good.ok,ak.good.tok⟩
def bg.aam{g:b_}(ak:bg C (g.grow y) b σ [] l)(x:∀f∈y,¬g.X f/\¬C.P f)(j:∀f,C.T f->g.X f)(i:∀f,g.Y f->g.X f)(h:∀n f,g.env.cells.lookup n=I f->g.X f)(st:dB C y l ae)(p:∀f∈y,∃B,ae.heap.get? f=I B):bg C (g.grow y) b σ [] ae:=by have k:iu C (g.grow y) y:=⟨λd=>(x _ d).1<|i _ ak.ok.loc.e_,λr f A d=>(x f d).1<|h r f A,λf d=>.inr d⟩;refine(ak.pd.only k (λf Z d=>by cases d) st).sim ?_;exact ak.good.bt (c:=g.grow y) (st.bt (gZ:=y) λZ q=>q) λf d Z=>⟨λD=>(x f d).1<|j f D,p f d⟩
def WI{J:Nat->aG}{V:Nat->List (aF×List af)}{St:Nat->cP->Prop}(cl:nI C g.A g.X U fK j G St)(ad:∀F,F<=G.length->(J F).pure=ah)(B:∀(F:Nat)(d:af),G[F]?=I d->∃be,eR eq U d []=I be)(aa:∀F,F<=G.length->(V F).map (·.1)=bi)(l4:∀f∈bi,g.X f/\¬C.T f/\¬g.Y f)(bv:∀f∈j,¬C.P f)(as:∀f,C.T f->g.X f)(ac:∀f,g.Y f->g.X f)(cK:∀n f,g.env.cells.lookup n=I f->g.X f)(aU:∀(F:Nat)(d:af)(be:cf)(H:aB),G[F]?=I d->eR eq U d []=I be->bg C (g.grow j) eq ((J F).vals be) [] H->h6 (g.grow j).X H (V F)->∀(f8:nt->aB->Prop)(fd:ar->aB->Prop),(∀ae,bg C (g.grow j) eq (J<|F+1) [] ae->h6 (g.grow j).X ae (V<|F+1)->dd C (g.grow j) bi H ae->f8 .next ae)->aL (aQ C.prog C.w) g.A (ep p g.env) f8 fd H)(q:∀ae,bg C g eq (J G.length) [] ae->h6 g.X ae (V G.length)->dd C g (bi++j) a5 ae->ga (.ok .next) ae):∀(k F:Nat)(H:aB),F+k=G.length->St F H.heap->bg C (g.grow j) eq (J F) [] H->h6 (g.grow j).X H (V F)->dd C g (bi++j) a5 H->fU (aQ C.prog C.w) g.A (.forLoop U fK p [] g.env) ga H:=by
 have W:∀f∈j,¬g.X f:=cl.off;have ci:∀f∈j,¬C.T f:=λf r cd=>W f r<|as f cd;have ex:∀f∈j,f∉bi:=λf r ab=>W f r (l4 f ab).1;have ca:∀{F H ae},F<=G.length->h6 (g.grow j).X H (V F)->(∀p x,H.heap.get? p=I x->¬C.T p->¬g.Y p->p∉j->ae.heap.get? p=I x)->h6 (g.grow j).X ae (V F):=λa2 ai k=>ai.keep λp x B al=>by rcases B with B|B;exact k p x al (λcd=>B<|.inl<|as p cd) (λce=>B<|.inl<|ac p ce) λr=>B<|.inr r;rw[aa _ a2]at B;exact k p x al (l4 p B).2.1 (l4 p B).2.2 λr=>ex p r B
 intro k;induction k with
 |zero=>
  intro F H a2 st ak am em;have K:F=G.length:=a2;subst K;refine CU λfd=>?_;refine cl.end_ st λfn f4 iS bd=>?_;have D:dB C j H {H with heap:=fn,toks:=f4}:=dB.of ci bv (λf r=>cl.kA _ _ st f r) bd;have M:iu C (g.grow j) j:=⟨λr=>W _ r<|ac _ ak.ok.loc.e_,λaj f al r=>W f r<|cK aj f al,λf r=>.inr r⟩;have N:=(ak.pd.only M (λf Z r=>by cases r) D).drop as ac cK;have df:bf C (g.grow []).X g.A g.fuel H:=⟨ak.good.handled,ak.good.depth,ak.good.units,ak.good.guards,λf bm=>ak.good.cI f<|bm.elim (λab=>.inl<|.inl ab) .inr,λf cd=>.inl<|as f cd,ak.good.ok,ak.good.tok⟩;have O:=df.bt (c:=g) (D.bt (gZ:=j) λZ r=>r) λf r ag=>(ag.elim (W f r) λab=>by cases ab).elim;exact q _ (N.sim O) ((ca (cz _) am λp x al Z Z cV=>bd p x cV al).more λp x Z B=>.inl B)<|em.trans<|D.bt λf r=>my _ r
 |succ k fr=>
  intro F H a2 st ak am em;refine CU λfd=>?_;have bs:F<G.length:=a2▸xR (BF k);have bn:G[F]?=I (G[F]'bs):=hb _
  obtain⟨be,co⟩:=B F _ bn;refine cl.use bn st (λf bm=>by obtain⟨x,al,Z⟩:=ak.good.cI f<|.inl<|.inl bm;exact⟨x,al⟩) λge L l iS bd jv ev=>?_;have D:dB C j H {H with heap:=L,toks:=l}:=dB.of ci bv (λf r=>cl.kA _ _ st f r) bd;have cr:Rz ((g.grow j).grow []).X ({H with heap:=L,toks:=l}:aB).heap ge _:=Rz.less (λf bm=>bm.elim id λab=>by cases ab) ev;have a1:h6 (g.grow j).X ({H with heap:=L,toks:=l}:aB) (V F):=ca (d_ bs) am λp x al Z Z cV=>bd p x cV al;have an:St (F+1) ({H with heap:=L,toks:=l}:aB).heap:=jv;clear ev jv bd iS;generalize({H with heap:=L,toks:=l}:aB)=f2 at D cr an a1 ⊢;have db:=ak.aam (λf r=>⟨W f r,bv f r⟩) as ac cK D λf r=>cl.here _ _ an f r;refine db.eR cr co λap dK b7=>?_;have mS:h6 (g.grow j).X ap (V F):=ca (d_ bs) a1 λp x al f0 f1 Z=>b7.bt.keep p x al f0 f1 (by simp);have kJ:St (F+1) ap.heap:=cl.frame _ _ _ an λp x al B=>b7.bt.keep p x al (λcd=>B.elim (λr=>ci p r cd) λab=>ab<|as p cd) (λce=>B.elim (λr=>W p r<|ac p ce) λab=>ab<|ac p ce) (by simp);refine aU F _ be ap bn co dK mS _ _ λeH dL ch cs=>?_;refine fr (F+1) eH ((e7 F 1 k).trans a2) ?_ dL ch ?_;exact cl.frame _ _ _ kJ λp x al B=>cs.keep p x al (λcd=>B.elim (λr=>ci p r cd) λab=>ab<|as p cd) (λce=>B.elim (λr=>W p r<|ac p ce) λab=>ab<|ac p ce) λr=>B.elim (λab=>ex p ab r) λab=>ab (l4 p r).1;refine((em.trans<|D.bt λf r=>my _ r).trans<|b7.bt.lr.cut (λZ ce=>ce) λp r=>by cases r).trans ?_;exact cs.lr.cut (λZ ce=>ce) λp r=>.inl<|mx _ r
def DG{g:b_}:g.grow []=g:=by unfold b_.grow;have:(λf=>g.X f\/f∈([]:List aF))=g.X:=funext λf=>propext ⟨λq=>q.elim id λab=>(by cases ab),.inl⟩;rw[this]
def NT{σs:Nat->aG}{q6:Nat->List (aF×List af)}(K:dv C O N)(W:N<=c.fuel)(M:er O n D (σs 0).strict m B=I g)(P:∀r,r<=g.length->(σs r).pure=ah)(j:∀(r:Nat)(d:af),g[r]?=I d->∃f,eR D m d []=I f)(L:∀r,r<=g.length->(q6 r).map (·.1)=vz)(l4:∀U∈vz,c.X U/\¬C.T U/\¬c.Y U)(ak:bg C c D (σs 0) [] l)(J:h6 c.X l (q6 0))(aU:∀k,(∀p∈k,l.heap.get? p=ai)->∀(r:Nat)(d:af)(f:cf)(l:aB),g[r]?=I d->eR D m d []=I f->bg C (c.grow k) D ((σs r).vals f) [] l->h6 (c.grow k).X l (q6 r)->∀(h:nt->aB->Prop)(al:ar->aB->Prop),(∀ae,bg C (c.grow k) D (σs<|r+1) [] ae->h6 (c.grow k).X ae (q6<|r+1)->dd C (c.grow k) vz l ae->h .next ae)->aL (aQ C.prog C.w) c.A (ep p c.env) h al l)(q:∀ae,bg C c D (σs g.length) [] ae->h6 c.X ae (q6 g.length)->dd C c vz l ae->h .next ae):aL (aQ C.prog C.w) c.A (dY (.For m B p [] ap) c.env) h al l:=by
 have aa:b1 C c D (σs 0).strict l:=by have:=ak.ok;rwa [DG]at this
 refine QA ?_<|(eN K n).zv _ _ _ _ _ M _;refine(eN K n).zy D (σs 0).strict m B g c l aa W M l (aw.refl l) ak.dD _ _ λaq ae k aj G ad=>?_;obtain⟨St,am,st⟩:=ad.here;have V:=λp(j:p∈k)=>ak.dD.gg<|G p j;refine WI (a5:=l) am P j L l4 (λp j=>(V p j).2.1) ak.a_ ak.cE ak.eE (aU k G) (λdj H F ac=>?_) g.length 0 ae (ij _) st (ak.yN aj G<|am.here _ _ st) ?_<|aj.bt;exact q dj H F<|ac.cut (λZ as=>as) λp ag=>(jD.mp ag).imp id λab=>G p ab;refine(J.more (Y:=(c.grow k).X) λp an R j=>j.elim id λag=>by rw[G p ag]at R;cases R).keep λp an j R=>?_;refine aj.keep p an R λao=>?_;rcases j with j|j;exact j<|.inl<|ak.a_ p ao;rw[L 0<|cO _]at j;exact(l4 p j).2.1 ao
def bg.aan(ak:bg C g d σ [] l)(B:g.X f)(y:¬C.T f)(E:¬g.Y f)(j:∀r,g.env.cells.lookup r≠I f)(st:dB C [f] l ae)(D:∃x,ae.heap.get? f=I x):bg C g d σ [] ae:=by
 have A:g.grow [f]=g:=by unfold b_.grow;have:(λp=>g.X p\/p∈[f])=g.X:=funext λp=>propext ⟨λq=>q.elim id λab=>by rw[c_]at ab;exact ab▸B,.inl⟩;rw[this]
 have k:iu C g [f]:=⟨λn=>by rw[c_]at n;exact E<|n▸ak.ok.loc.e_,λr p i n=>by rw[c_]at n;exact j r<|n▸i,λp n=>by rw[c_]at n;exact n▸B⟩;have h:nG C (g.grow [f]) d σ [] l:=by rw[A];exact ak.pd
 have t:=h.only (by rw[A];exact k) (λp Z n=>by cases n) st;rw[A]at t;refine t.sim<|ak.good.bt (c:=g) (st.bt (gZ:=[f]) λZ q=>q) λp n Z=>?_;rw[c_]at n;subst n;exact⟨y,D⟩
end
noncomputable def tB{s:Type}(y:Nat->Nat->Bool):KasT s->s|.ret b=>b|.ask c w k=>tB y<|k<|y c w
noncomputable def fL{s:Type}(y:Nat)(r:s->Prop):KasT s->Prop|.ret f=>r f|.ask c w k=>c<y/\w<y/\∀p,fL y r<|k p
theorem fL.bind{s g:Type}{P:s->Prop}{e:g->Prop}{y:s->KasT g}(m:∀a,P a->fL n e (y a)):∀{d:KasT s},fL n P d->fL n e (d.bind y)|.ret a=>@λl=>m a l|.ask c w k=>@λl=>⟨l.1,l.2.1,λp=>fL.bind m<|l.2.2 p⟩
theorem fL.run{s:Type}{r:s->Prop}:∀{t:KasT s},fL a r t->r (tB y t)|.ret Z=>@λb=>b|.ask c w k=>@λb=>fL.run (t:=k<|y c w)<|b.2.2 _
theorem fL.wp{b:Type}{r:b->Prop}{p:b->aB->Prop}(w:∀g m k,g<y->m<y->k (f g m) l->a g m k l):∀{d:KasT b},fL y r d->p (tB f d) l->d.kasWp a p l|.ret Z=>@λc q=>q|.ask Z c k=>@λe q=>w _ _ _ e.1 e.2.1<|fL.wp w (e.2.2 _) q
def gy(y:Nat)(s:Array Nat):Prop:=s.toList.Perm<|aH y
def gy.at(j:gy y s)(a:0<y)(c:Nat):s.getD c 0<y:=by
 by_cases b:c<s.size;have:s.getD c 0∈s.toList:=by simp[aeq,b]
 exact bl.mp<|j.mem_iff.mp this;simp[aeq,b,a]
section
variable{n:Nat}{p:Array Nat}
def gy.rev(a:gy n p)(c w:Nat):gy n (kas_rev p c w):=(aes.mp<|mirror_perm p c w _).trans a
def gy.TY(a:gy n p)(c w:Nat):gy n (bubble p c w):=(aes.mp<|bubble_perm p c w).trans a
theorem Cx(s:0<n)(j:gy n p):∀f k,fL n (λZ=>True) (kas_asc p f k)|0=>@λZ=>trivial|f+1=>@λk=>⟨j.at s _,j.at s _,λa=>by cases a;exact Cx s j f _;exact trivial⟩
theorem yQ(s:0<n):∀f(p:Array Nat) k q,gy n p->fL n (λw:Array Nat×Nat×Nat=>gy n w.1) (kas_desc f p k q)
 |0=>@λZ t y j=>j
 |f+1=>@λp k q j=>⟨j.at s _,j.at s _,λa=>by
   induction a using bz with
   |true=>
    show fL n _ (if q>0 then _ else _);split;exact yQ s f _ _ _<|j.rev _ _;exact yQ s f _ _ _ j
   |false=>exact⟨j.at s _,j.at s _,λa=>by cases a;exact yQ s f _ _ _ j;exact j⟩⟩
def IJ(s:0<n)(a k:Nat)(j:gy n p):fL n (λw:Nat×Array Nat=>gy n w.2) (kas_tail3 a k p):=by unfold kas_tail3;refine fL.bind (P:=λZ=>True) (λZ Z=>?_)<|Cx s (j.rev _ _) _ _;exact gy.rev j _ _
def IH(s:0<n)(a k:Nat)(j:gy n p):fL n (λw:Nat×Array Nat=>gy n w.2) (kas_descPart a k p):=fL.bind (λw c=>by split<;>first|exact IJ s _ _ (gy.rev c _ _)|exact IJ s _ _ c)<|yQ s _ _ _ _ j
def Sr(s:0<n)(c:Nat)(j:gy n p):fL n (λw:Nat×Array Nat=>gy n w.2) (kas_count c p):=fL.bind (λw Z=>by
  split;exact j;split;exact⟨j.at s _,j.at s _,λa=>by cases a;exact IH s _ _<|j.rev _ _;exact j⟩;exact IH s _ _ j)<|Cx s j _ _
theorem II(s:0<n)(j:gy n p)(k:Nat):∀f d w,fL n (λZ=>True) (kas_place p k f d w)
 |0=>@λZ t=>trivial
 |f+1=>@λd w=>by
  unfold kas_place
  split
  exact trivial
  exact⟨j.at s _,j.at s _,λa=>by cases a<;>exact II s j k f _ _⟩
theorem IG(s:0<n):∀f(p:Array Nat) k,gy n p->fL n (gy n) (kas_bin f p k)|0=>@λZ t j=>j|f+1=>@λp k j=>fL.bind (λd Z=>IG s f _ _<|j.TY _ _)<|II s j _ _ _ _
def NS(s:0<n):fL n (gy n) (BM n):=fL.bind (λw c=>by split;exact IG s _ _ _ c;exact c)<|Sr s n<|show gy n (xP<|aH n)from aeQ _
end
noncomputable def en(s:Nat×Nat):af:=.tuple [.int (s.1:Int),.int (s.2:Int)]
noncomputable def tJ(r:List (Nat×Nat))(c w:Nat):Bool:=
 let f:=r.getD c (0,0)
 let p:=r.getD w (0,0)
 if(((f.1:Nat):Int)==(p.1:Nat))=ah then(if(((f.2:Nat):Int)==(p.2:Nat))=ah then av else decide (((f.2:Nat):Int)<(p.2:Nat)))else decide (((f.1:Nat):Int)<(p.1:Nat))
def pg(r:List (Nat×Nat)):List Nat:=if r.length<2 then aH r.length else(tB (tJ r)<|BM r.length).toList
def rZ(r:List (Nat×Nat)):List (Nat×Nat):=(pg r).map λc=>r.getD c (0,0)
def FN(r:List (Nat×Nat)):(pg r).Perm (aH r.length):=by unfold pg;split;exact aeQ _;exact(NS<|G3<|nj o).run
def B'{s:Type}(d:s)(b:List s):(aH b.length).map (λc=>b.getD c d)=b:=by apply aeX;simp;intro c e a;simp[j_,a]
def FO(r:List (Nat×Nat)):(rZ r).Perm r:=by have:=(FN r).map λc=>r.getD c (0,0);rwa [B']at this
def E4(w:Rz c j b (en s)):∃f k i y,b=.ref f/\j.get? f=I ⟨.type "tuple",ai,.seq ⟨[.int (s.1:Int) k,.int (s.2:Int) i]⟩ y,#[]⟩:=Rz.tK w λf aa y Z g d cD=>d.cK λA l x d aC=>d.cK λB q m d aM=>d.nK λbU=>x.iK λk bJ=>m.iK λi jk=>⟨f,k,i,y,cD,by
  subst bU;subst aM;subst aC;subst bJ;subst jk;exact g⟩
def DE{k:List (Nat×Nat)}:∀{aa:List ar},RzL f j aa (k.map en)->∀{c:Nat},c<k.length->Rz f j (aa.getD c .none) (en<|k.getD c (0,0)):=by
 induction k with
 |nil=>exactλZ c l=>absurd l<|afw _
 |cons s k g=>
  exactλw c l=>RzL.cK (d:=en s) (ds:=k.map en) w λt n m q x=>by subst x;induction c using cN with|zero=>exact m|succ c=>exact g q<|BB l
section
variable{prog:sv}{w:ba}{A:ef}{s:aB}{X:aF->Prop}{aa:List ar}{bV:List (Nat×Nat)}
def Zk(K:RzL X s.heap aa (bV.map en))(I:c<bV.length)(J:f<bV.length)(D:k (tJ bV c f) s):kas_ask prog w A (tuples' a) aa c f k s:=by
 obtain⟨aJ,bW,L,mY,aC,G⟩:=E4<|DE K I;obtain⟨dV,cn,M,i1,aM,H⟩:=E4<|DE K J;unfold kas_ask;rw[aC,aM];unfold tJ at D;generalize bV.getD c (0,0)=N at*;generalize bV.getD f (0,0)=q at*;have B:∀{a:Bool}{m g:Int}{l n:Tok}{d:Bool->aB->Prop},d (decide (m<g)) s->aL (aQ prog w) A (oneLt' a (.int m l)<|.int g n) d (λZ Z=>False) s:=λ{a m g l n d} E=>by induction a using bz with|true=>exact oneLt_int E|false=>exact kat_one _ _<|PySem.P.lt_int E
 refine kat_lt G rfl H rfl<|kat_cons<|agU<|kat_go (λF=>kat_yes<|kat_cons<|agU<|kat_go (λC=>kat_yes<|kat_nil ?_) λC=>kat_no<|B ?_) λF=>kat_no<|B ?_;rw[if_pos F,if_pos C]at D;simpa using D;rwa [if_pos F,if_neg (by rw[C];decide)]at D;rwa [if_neg (by rw[F];decide)]at D
def Yx(w:RzL X s.heap aa (bV.map en)):∃d,KatTups s.heap aa d/\d.length=aa.length/\∀y∈d,∃C m,y=.int C m:=by
 induction aa generalizing bV with
 |nil=>exact⟨[],KatTups.nil,rfl,λy c=>by cases c⟩
 |cons D aa g=>
  induction bV using bb with
  |nil=>exact RzL.cN w
  |cons x bV=>
   obtain⟨w,l⟩:Rz X s.heap D (en x)/\RzL X s.heap aa (bV.map en):=RzL.Um w λq A=>⟨q,A⟩;obtain⟨d,k,j,c⟩:=g l;obtain⟨q,m,F,E,rfl,B⟩:=E4 w;exact⟨.int (x.1:Int) m::d,KatTups.cons B rfl rfl rfl k,by simp[j],λy h=>by
    rcases c9.mp h with rfl|h;exact⟨_,_,rfl⟩;exact c y h⟩
def YX(L:s.heap.get? g=I (hD "list" aa.toArray a1))(Y:X g)(al:RzL X s.heap aa (bV.map en))(ak:bV.length<64)(aq:∀O an,(∀F K,F≠g->s.heap.get? F=I K->O.get? F=I K)->O.get? g=I (hD "list" (xP<|(pg bV).map λS=>aa.getD S dS) an)->m (.done<|.ret .none) {s with heap:=O}):aL (aQ prog w) A (Builtin.«list.sort» ⟨[.ref g],[]⟩) m am s:=by
 have C:aa.length=bV.length:=by rw[al.length,bZ]
 have as:g<s.heap.objs.size:=il L;have dg:=Hg s.heap g<|ft λZ=>(#[]:Array ar);obtain⟨aC,N⟩:∃aC,(s.heap.update g<|ft λZ=>(#[]:Array ar)).get? g=I (hD "list" #[] aC):=⟨_,afL L λZ=>#[]⟩;have D:(((s.heap.update g<|ft λZ=>#[]).push<|hD "tuple" aa.toArray 0).push<|hD "list" #[] 0).get? g=I (hD "list" #[] aC):=fA _<|fA _ N;have kp:∀F K,F≠g->s.heap.get? F=I K->(((s.heap.update g<|ft λZ=>#[]).push<|hD "tuple" aa.toArray 0).push<|hD "list" #[] 0).get? F=I K:=λF K H J=>fA _<|fA _<|(dg.2 F H).trans J;have V:=al.mono λF K H J=>kp F K (λq=>H<|q▸Y) J;rw[list_sort_plain];refine aA<|listItems_at L rfl ?_;refine aA (PI L rfl ?_ (by rw[sm,u_,C];exact ao (d_ o) z)<|cO _);refine aA<|PJ N rfl ?_;refine aA (agW ?_ (by show aa.length<=_;rw[u_,C];exact ao (d_ o) z));refine aA<|yg ?_<|cO _;refine du ?_;show aL (aQ prog w) A _ m am {s with heap:=((s.heap.update g<|ft λZ=>(#[]:Array ar)).push<|hD "tuple" aa.toArray 0).push (hD "list" #[] 0)};generalize((s.heap.update g<|ft λZ=>(#[]:Array ar)).push<|hD "tuple" aa.toArray 0).push (hD "list" #[] 0)=d at*;dsimp only;have M:∀x:List ar,x=((pg bV).map λS=>aa.getD S dS)->m (.done<|.ret .none) {s with heap:=d.update g (ft λZ=>xP x)}:=λx J=>by have dx:=Hg d g<|ft λZ=>xP x;exact aq _ _ (λF K H J=>(dx.2 F H).trans<|kp F K H J) (by rw[<-J];exact afL D λZ=>xP x)
 by_cases B:aa.toArray.size<2;rw[if_pos B,if_pos B];refine aA<|a' ?_;rw[StateT.run_pure];refine aA<|a' ?_;dsimp only;refine aA<|PJ D rfl ?_;have J:(arrOf<|SortSt.mk' general' (aa.toArray.zip aa.toArray) #[] 7 ai).map (·.2)=xP aa:=by show(aa.toArray.zip aa.toArray).map (·.2)=_;apply aeu.mp;simp only[Array.toList_map,Array.toList_zip,List.map_snd_zip<|cz _]
 rw[J];refine aA (PI D rfl ?_ (cO _) (by rw[sm,u_,C];exact ao (d_ o) z));simp only[bne_self_eq_false,j8,if_false];refine a'<|M aa ?_;unfold pg;rw[sm]at B;rw[if_pos<|C▸B,<-C,B'];rw[if_neg B,if_neg B];rw[sm]at B;obtain⟨ap,iS,ah,ag⟩:=Yx (s:={s with heap:=d}) V;refine aA (kat_kind (T:=.type "int") iS (ah▸cq z (nj B)) (λau af=>by obtain⟨S,aw,rfl⟩:=ag au af;exact .now) z ?_);have y:(BM aa.length).kasWp (kas_ask prog w A (tuples'<|gb "int"!=gb "tuple") aa) (λl ae=>ae={s with heap:=d}/\l=tB (tJ bV) (BM bV.length)) {s with heap:=d}:=by rw[C];exact fL.wp (f:=tJ bV) (λS av k ac ad y=>Zk (s:={s with heap:=d}) V ac ad y) (NS<|C▸cq z (nj B)) ⟨rfl,rfl⟩
 refine aA<|fh (kat_run (Q:=λG ae=>∃l:Array Nat,arrOf G=l.map (kas_item<|aa.toArray.zip aa.toArray)/\failedOf G=ai/\ae={s with heap:=d}/\l=tB (tJ bV) (BM bV.length)) rfl (nj o) (b4 (bQ o) o) (λaj G ae aJ dV fi W=>⟨aj,dV,fi,W⟩) y) ?_ λZ Z J=>J;rintro⟨⟨⟩,G⟩ ae ⟨l,R,ab,rfl,ax⟩;dsimp only;have U:pg bV=l.toList:=by unfold pg;rw[if_neg<|C▸B,ax]
 refine aA<|PJ D rfl ?_;rw[kat_snds rfl R];refine aA<|PI D rfl ?_ (cO _) ?_;rw[ab];simp only[bne_self_eq_false,j8,if_false];exact a' (M _<|by rw[U]);rw[sm,bZ,<-U,(FN bV).length_eq,f9,u_];exact d_<|cq o z
theorem RzL.IV(w:RzL X a aa (bV.map en)):∀d:List Nat,(∀i∈d,i<bV.length)->RzL X a (d.map λi=>aa.getD i .none) (d.map λi=>en<|bV.getD i (0,0))|[]=>@λZ=>.nil|i::d=>@λb=>.cons (DE w<|b i dA)<|RzL.IV w d λc p=>b c<|dt _ p
end
set_option tactic.hygienic true in
def acx(D:d.length<64):eg C (.builtin "sorted") [.list<|d.map en] ac (.list<|(rZ d).map en):=by
 intro f Y a aa S L ad j q;cases L;rename_i w L;cases L;cases w;rename_i U aa V W B w;have R:a.heap.IsList U aa.toArray:=⟨_,B,rfl,V,rfl⟩;have y:aa.length=d.length:=by rw[w.length,bZ]
 refine Calls.call_function_entry kind_sorted plain_sorted entry_sorted (args_sorted1 _) ?_;unfold Builtin.«sorted» ;refine aA (m:=checkCount "sorted" 1 1 _)<|a' ?_;refine aA (collect_list R ?_ (by rw[u_];exact ao (bQ y)<|ao (d_ D) z));refine aA (yg ?_ (by rw[u_];exact ao (bQ y)<|ao (d_ D) z));have G:((a.heap.push<|hD "list" #[] 0).update a.heap.objs.size (ft (·++aa.toArray))).objs.size=a.heap.objs.size+1:=by rw[Heap.size_update,size_push']
 have J:(((a.heap.push<|hD "list" #[] 0).update a.heap.objs.size (ft (·++aa.toArray))).push<|hD "list" aa.toArray 0).get? (a.heap.objs.size+1)=I (hD "list" aa.toArray 0):=by rw[<-G];exact fs _ rfl
 have H:∀p x,a.heap.get? p=I x->(((a.heap.push<|hD "list" #[] 0).update a.heap.objs.size (ft (·++aa.toArray))).push<|hD "list" aa.toArray 0).get? p=I x:=λp x q=>by have t:p<a.heap.objs.size:=il q;rw[aga _ _ _ (by rw[G];exact f'<|xS t),Heap.get?_update_ne _ _ _ _<|f' t,aga _ _ _<|f' t];exact q
 show aL _ _ _ _ _ {a with heap:=((a.heap.push<|hD "list" #[] 0).update a.heap.objs.size (ft (·++aa.toArray))).push (hD "list" aa.toArray 0)};rw[G];generalize((a.heap.push<|hD "list" #[] 0).update a.heap.objs.size (ft (·++aa.toArray))).push (hD "list" aa.toArray 0)=K at*;have h:a.heap.get? (a.heap.objs.size+1)=ai:=Heap.get?_none_of_le<|pB _;have M:RzL (λp=>f p\/p=a.heap.objs.size+1) K aa (d.map en):=(w.more λp x B F=>F.elim id λq=>by rw[q,h]at B;cases B).mono λp x Z B=>H p x B;refine aA<|du<|HO (s:={a with heap:=K}) slot_list_sort ⟨_,J,rfl⟩ entry_list_sort (YX (s:={a with heap:=K}) J (.inr rfl) M D λT ae k O=>⟨_,rfl,?_⟩)<|args_list_sort _;refine a' ⟨_,rfl,q _ _ (aw.of_keep λp x B=>k p x (λab=>by rw[ab,h]at B;cases B)<|H p x B)<|.list (λag=>?_) O ?_⟩;obtain⟨x,B,Z⟩:=S.cI _ ag;rw[h]at B;cases B;have:=RzL.IV M (pg d) λaf P=>bl.mp<|(FN d).mem_iff.mp P;unfold rZ;rw[dG];exact(this.mono λp x F B=>k p x (λab=>F<|.inr ab) B).less λp F=>.inl F
noncomputable def pZ:af->af->Option Bool|.none,.none=>I ah|.bool f,.bool p=>I (f==p)|.int f,.int p=>I (f==p)|.float f,.float p=>if gI f p==I qM then I ah else ai|.str f,.str p=>I (f==p)|_,_=>ai
noncomputable def h4(y:af->af->Option Bool):List af->List af->Option Bool|[],[]=>I ah|a::x,p::e=>(y a p).bind λk=>(h4 y x e).map λw=>k&&w|_,_=>ai
def Cw:h4 y (c::d) (p::w)=(y c p).bind λk=>(h4 y d w).map λw=>k&&w:=rfl
noncomputable def cW:Nat->af->af->Option Bool|n+1,.list f,.list p=>if f.length==p.length then h4 (cW n) f p else I av|n+1,.tuple f,.tuple p=>if f.length==p.length then h4 (cW n) f p else ai|_,f,p=>pZ f p
def hn(m:af):List af->Option Nat|[]=>I 0|a::b=>(cW 8 a m).bind λk=>(hn m b).map λy=>if k then y+1 else y
def mG(m:af):af->Option Bool
 |.list d=>(hn m d).map λ(y:Nat)=>y !=0
 |.tuple d=>(hn m d).map λ(y:Nat)=>y !=0
 |.dict p=>match m with|.str k=>I ((p.lookup k).isSome)|_=>ai
 |_=>ai
noncomputable def jm(y:Int):Bool:=decide (y.natAbs<2^1000)
noncomputable def To(f:Int)(p:Int):iP->Option af|.Add=>I (.int<|f+p)|.Sub=>I (.int<|f -p)|.Mult=>if bI (dn f) 100000&&bI (dn p) 100000 then I (.int<|f*p)else ai|.FloorDiv=>if p !=0&&!nr f p then I (.int<|f.fdiv p)else ai|.Mod=>if p !=0 then I (.int<|f.fmod p)else ai|.Div=>if p !=0&&!gT (fI (decide (f<0)!=decide (p<0)) f.natAbs p.natAbs)then I (.float<|fI (decide (f<0)!=decide (p<0)) f.natAbs p.natAbs)else ai|.Pow=>if decide (0<=p)&&!uV (((dn f:Nat):Int)*p)then I (.int<|f^p.toNat)else ai|.LShift=>if decide (0<=p)&&decide ((dn f:Int)+p<=2^27)then I (.int<|f*2^p.toNat)else ai|.RShift=>if decide (0<=p)then I (.int<|if p>=((dn f:Nat):Int)then(if f<0 then -1 else 0)else f.fdiv (2^p.toNat))else ai|.BitAnd=>I (.int<|xW f p)|.BitOr=>I (.int<|afN f p)|.BitXor=>I (.int<|PO f p)|_=>ai
noncomputable def Ti(f:UInt64)(p:UInt64):iP->Option af|.Add=>I (.float<|dH f p)|.Sub=>I (.float<|dc f p)|.Mult=>I (.float<|cX f p)|.Mod=>if !ik p then I (.float (xZ f p).2)else ai|.Div=>if !ik p then I (.float<|iO f p)else ai|_=>ai
def Tj(f:UInt64)(p:Int):iP->Option af|.Add=>if jm p then I (.float<|dH f<|eA p)else ai|.Sub=>if jm p then I (.float<|dc f<|eA p)else ai|.Mult=>if jm p then I (.float<|cX f<|eA p)else ai|.Div=>if !gT (eA p)&&!ik (eA p)then I (.float<|iO f<|eA p)else ai|_=>ai
noncomputable def Ts(f:au)(p:au):iP->Option af|.Add=>if bI (f.length+p.length) 1000000 then I (.str<|f++p)else ai|_=>ai
noncomputable def Tq(f:List af)(p:List af):iP->Option af|.Add=>if bI (f.length+p.length) 1000000 then I (.list<|f++p)else ai|_=>ai
noncomputable def Tt(f:List af)(p:List af):iP->Option af|.Add=>if bI (f.length+p.length) 1000000 then I (.tuple<|f++p)else ai|_=>ai
noncomputable def Th(f:Bool)(p:Bool):iP->Option af|.Sub=>I (.int<|b2i f -b2i p)|_=>ai
def Tn(f:Int)(p:UInt64):iP->Option af|.Mult=>if jm f then I (.float<|cX (eA f) p)else ai|_=>ai
noncomputable def Tr(f:au)(p:Int):iP->Option af|.Mult=>if decide (p<=1000)&&decide (-1000<=p)&&bI f.length 1000 then I (.str<|Txt.mul f p)else ai|_=>ai
noncomputable def Tp(f:List af)(p:Int):iP->Option af|.Mult=>if decide (p<=1000)&&decide (-1000<=p)&&bI f.length 1000 then I (.list (dw p.toNat f).flatten)else ai|_=>ai
def aI(g:iP):af->af->Option af|.int f,.int p=>To f p g|.float f,.float p=>Ti f p g|.float f,.int p=>Tj f p g|.str f,.str p=>Ts f p g|.list f,.list p=>Tq f p g|.tuple f,.tuple p=>Tt f p g|.bool f,.bool p=>Th f p g|.int f,.float p=>Tn f p g|.str f,.int p=>Tr f p g|.list f,.int p=>Tp f p g|_,_=>ai
noncomputable def IY:iP->af->af->Option af|.Add,.int f,.int p=>I (.int<|f+p)|.Sub,.int f,.int p=>I (.int<|f -p)|.FloorDiv,.int f,.int p=>if p !=0&&!nr f p then I (.int<|f.fdiv p)else ai|_,_,_=>ai
noncomputable def Oz:UnaryOp->af->Option af|.USub,.int f=>I (.int<|-f)|.Invert,.int f=>I (.int<|sr f)|_,_=>ai
noncomputable def isNone:af->Option Bool|.none=>I ah|.str _=>I av|.int _=>I av|.list _=>I av|_=>ai
def fC:su->af->af->Option Bool|.Lt,.int f,.int p=>I (decide (f<p))|.LtE,.int f,.int p=>I (decide (f<=p))|.Gt,.int f,.int p=>I (decide (p<f))|.GtE,.int f,.int p=>I (decide (p<=f))|.Lt,.float f,.float p=>I (gI f p==I om)|.LtE,.float f,.float p=>I (gI f p==I om||gI f p==I qM)|.Eq,.float f,.float p=>I (gI f p==I qM)|.Eq,f,p=>cW 9 f p|.NotEq,f,p=>(cW 9 f p).map (!·)|.Is,f,.none=>isNone f|.IsNot,f,.none=>(isNone f).map (!·)|.In,f,p=>mG f p|.NotIn,f,p=>(mG f p).map (!·)|_,_,_=>ai
noncomputable def uj:af->Option Bool|.int f=>I (f !=0)|.bool p=>I p|.list d=>if bI d.length 1000000 then I (!d.isEmpty)else ai|.str m=>if bI m.length 1000000 then I (m.length !=0)else ai|_=>ai
noncomputable def kT(y:Nat)(c:Int):Option Nat:=if decide (-1000000<=c)&&decide (c<=1000000)then qT c y else ai
def wR(j:0<p):(((p:Nat):Int)!=0)=ah:=by cases p with|zero=>exact absurd j (qG 0)|succ p=>rfl
def yv(j:p.natAbs<2^250):nr f p=av:=by
 have r:(if p==0 then 0 else p.natAbs.log2/30+1)<=300:=by split;decide;rename_i q;exact gS<|ao (Nat.div_le_div_right<|d_<|(G2 λi=>q<|beq_iff_eq.mpr<|Int.natAbs_eq_zero.mp i).mpr j) (z:250/30<=299)
 show(decide _&&_)=av;rw[decide_eq_false<|qK.mpr r];rfl
def zN(a:w<y)(p:w<=1000000):kT y ((w:Nat):Int)=I w:=by unfold kT qT;rw[if_pos (by rw[decide_eq_true (gR.mpr p:((w:Nat):Int)<=(1000000:Nat))];rfl)];exact if_pos (by show(ah&&decide (((w:Nat):Int)<(y:Nat)))=ah;rw[decide_eq_true<|lB.mpr a];rfl)
def c7:af->af->Option af|.list d,.int a=>(kT d.length a).bind λw=>d[w]?|.tuple d,.int a=>(kT d.length a).bind λw=>d[w]?|.str m,.int a=>(kT m.length a).bind λw=>(m.cps[w]?).map λg=>.str ⟨#[g]⟩|.dict p,.str k=>p.lookup k|_,_=>ai
noncomputable def wW:af->Option (Option Int)|.none=>I ai|.int c=>I (I c)|_=>ai
noncomputable def lg{s:Type}(d:List s)(lo a st:Option Int):List s:=
 let p:=kf lo a st d.length
 (yb p.1 p.2.1 p.2.2).filterMap (d[·]?)
def pf(f d j k:af):Option af:=(wW d).bind λlo=>(wW j).bind λb=>(wW k).bind λst=>
  if st==I 0 then ai else match f with
  |.list m=>if bI m.length 1000000 then I (.list<|lg m lo b st)else ai
  |.tuple m=>match lo,b,st with|I f,ai,ai=>if decide (1<=f)&&decide (f<=m.length)&&bI m.length 1000000 then I (.tuple<|m.drop f.toNat)else ai|_,_,_=>ai
  |_=>ai
noncomputable def hP{s g:Type}(c:s->Option g):List s->Option (List g)|[]=>I []|a::w=>(c a).bind λm=>(hP c w).map λb=>m::b
noncomputable def acR:af->Option au|.str m=>I m|_=>ai
def sU(d:List af):Option (List au):=hP acR d
def ma:af->au->List af->Option af
 |.list d,r,[c]=>if r==("count":au)then(if bI d.length 1000000 then(hn c d).map λ(e:Nat)=>af.int ((e:Nat):Int)else ai)else ai
 |.str c,r,[.list d]=>if r==("join":au)then(sU d).bind λa6=>if JoinOk c a6 then I (.str<|Hn c a6)else ai else ai
 |.str c,r,[.str b]=>if r==("index":au)then(match Ha c b 0 c.length 1 with
   |i::_=>I<|.int (i:Nat)
   |[]=>ai)else ai
 |.str c,r,[]=>if r==("lower":au)&&!PN (x5 c).length then I (.str<|x5 c)else ai
 |.int f,r,[]=>if r==("bit_length":au)then I (.int<|dn f)else ai
 |_,_,_=>ai
noncomputable def XR:af->Option Int|.int m=>I m|_=>ai
def qZ(d:List af):Option (List Int):=hP XR d
noncomputable def lq:List Int->Int|[]=>0|x::w=>x+lq w
noncomputable def iv:Nat->af->Option BJ|_,.bool p=>I (.bool p)|_,.int c=>if decide (c.natAbs<2^200)then I (.int c)else ai|n+1,.list d=>(hP (iv n) d).map .list|n+1,.tuple d=>(hP (iv n) d).map .tuple|_,_=>ai
noncomputable def pj(y:af->Nat):List af->Nat|[]=>3|d::w=>y d+2+pj y w
noncomputable def jq:Nat->af->Nat|n+1,.list d=>pj (jq n) d|n+1,.tuple d=>pj (jq n) d|_,_=>202
noncomputable def hQ(f p g:UInt64):Nat->UInt64|0=>f|1=>p|_=>g
noncomputable def iB:List af->Option af|[.list d]=>if bI d.length 1000000 then I (.int d.length)else ai|[.str m]=>if bI m.length 1000000 then I (.int m.length)else ai|[.tuple d]=>if bI d.length 1000000 then I (.int d.length)else ai|_=>ai
noncomputable def Jr:List af->Option af|[.str ⟨⟨[g]⟩⟩]=>I (.int g)|_=>ai
noncomputable def y4:List af->Option af|[.int c]=>if decide (0<=c)&&decide (c<0x110000)then I (.str ⟨#[c.toNat]⟩)else ai|_=>ai
def lH:List af->Option af|[.list d]=>(iv 6<|.list d).bind λs=>if bI (jq 6<|.list d) 16000000 then I (.str s.shown)else ai|_=>ai
def vJ:List af->Option af|[.list d]=>(qZ d).map λa6=>.int (lq a6)|_=>ai
def Jp:List af->Option af|[.int f,.int p]=>I (.int<|if p>f then p else f)|[.float f,.float p,.float g]=>I (.float<|hQ f p g<|x6 (λd w=>gI (hQ f p g d) (hQ f p g w)==I G') 2)|_=>ai
def Jq:List af->Option af|[.int f,.int p]=>I (.int<|if p<f then p else f)|[.float f,.float p,.float g]=>I (.float<|hQ f p g<|x6 (λd w=>gI (hQ f p g d) (hQ f p g w)==I om) 2)|_=>ai
noncomputable def HV:List af->Option af|[.int f]=>I (.int<|if f<0 then -f else f)|_=>ai
noncomputable def kn:List af->Option af
 |[.float a]=>match oo a with|.fin b r i=>I (.int<|x1 b r i)|_=>ai
 |_=>ai
noncomputable def ym:List af->Option af
 |[.float a]=>match oo a with|.fin b r i=>I (.int<|Hf b r i)|_=>ai
 |_=>ai
noncomputable def Jt:List af->Option af|[.list d]=>if bI d.length 1000000 then I (.tuple d)else ai|_=>ai
noncomputable def y5:List af->Option af|[.int f,.int p]=>if p !=0&&!nr f p then I (.tuple [.int<|f.fdiv p,.int<|f.fmod p])else ai|_=>ai
def vO:List (au×(List af->Option af)):=[("len",iB),("ord",Jr),("chr",y4),("str",lH),("sum",vJ),("max",Jp),("min",Jq),("abs",HV),("round",kn),("int",ym),("tuple",Jt),("divmod",y5)]
def jO(y:au)(a:List af):Option af:=(vO.lookup y).bind λe=>e a
set_option genInjectivity false in
structure vc where
 sc:Scope
 params:List Str
 body:List Stmt
 own:List Str
set_option genInjectivity false in
structure mJ where
 fns:List (Str×vc)
 o6:List (Str×vc)
 attrs:List Str
 cls:Addr
 hand:Str->List af->Option af
 la:Str->List af->List af->Option af
 const:Str->Option af
 h9:Str->Str->Option af
noncomputable def gE{s:Type}(f:Option s)(p:Option s):Option s:=match f with|some m=>some m|none=>p
def HU(d:mJ)(f:af)(m:au):Option af:=match f with|.obj g p=>if nf g d.cls&&d.attrs.contains m&&o1 (p.map (·.1))then p.lookup m else ai|_=>ai
def t6(d:mJ):cY:={bin:=aI,un:=Oz,cmp:=fC,truth:=uj,item:=c7,slice:=pf,attr:=HU d,e':=ma,call:=λy g=>gE (jO y g)<|d.hand y g,const:=d.const,aug:=IY,move:=d.la,h9:=d.h9}
def Ca(d:mJ)(h:cY)(e:Nat)(a:aF)(p:List (au×af))(r:au)(g:List af):Option af:=if nf a d.cls&&(p.lookup r).isNone&&o1 (p.map (·.1))then(d.o6.lookup r).bind λt=>m4 h t.own t.sc t.params t.body e (.obj a p::g)else ai
def MO(d:mJ)(e:Nat)(h:cY):cY:={t6 d with
  e':=λa r b=>match a with|.obj g p=>Ca d h e g p r b|a=>ma a r b
  call:=λy b=>gE (jO y b) (gE (d.hand y b)<|(d.fns.lookup y).bind λt=>m4 h t.own t.sc t.params t.body e b)}
def E1(d:mJ)(e:Nat):Nat->cY|0=>t6 d|k+1=>MO d e<|E1 d e k
section
variable{C:bS}
def ZN(s:dn f<=100000)(l:dn p<=100000):PX f p:=by unfold PX;intro j;simp only[bY]at j;have d:=j.2;unfold uV at d;have n:=of_decide_eq_true d;exact absurd n (ja.mpr<|j9 (gR.mpr<|ka s l)<|gR.mpr<|show 100000+100000<=Qd by decide)
def ys(j:jm y=ah):y.natAbs<2^1023:=cq (of_decide_eq_true j)<|fp z z
def aaC(f p:Bool):dJ C (eW .Sub) (.bool f) (.bool p) (.int<|b2i f -b2i p):=by intro c k y l t i e x m h j q;cases x;cases m;exact sub_bool<|q _ _ aw.tok<|.int _ _
def abD(k:Nat)(f:List ar):((dw k<|f.toArray).foldl (λee p=>ee++p) #[])=(dw k f).flatten.toArray:=by
 have y:∀(k:Nat)(h:List ar),(dw k<|f.toArray).foldl (λee p=>ee++p) h.toArray=(h++(dw k f).flatten).toArray:=by
  intro k;induction k with
  |zero=>intro h;simp
  |succ k g=>
   intro h;rw[qD,List.foldl_cons,qD,uM,List.append_toArray,g,lC]
 simpa using y k []
theorem RzL.rep{aa:List ar}(w:RzL c j aa g):∀k:Nat,RzL c j (dw k aa).flatten (dw k g).flatten|0=>.nil|k+1=>by rw[qD,qD,uM,uM];exact w.append<|w.rep k
set_option tactic.hygienic true in
def MN(L:List af)(y:Int)(H:y<=1000)(M:-1000<=y)(N:L.length<=1000):∀(c:aF->Prop)(d:ef)(k:Nat)(b:aB)(f i:ar),bf C c d k b->Rz c b.heap f (.list L)->Rz c b.heap i (.int y)->∀(h:ar->aB->Prop)(j:ar->aB->Prop),(∀G ae aa r,aw C b ae->b.heap.get? G=ai->ae.heap.get? G=I ⟨.type "list",ai,.seq ⟨aa⟩ r,#[]⟩->RzL c ae.heap aa (dw y.toNat L).flatten->h (.ref G) ae)->aL (aQ C.prog C.w) d (eW .Mult f i) h j b:=by
 intro c d k b f i S x P h j q;cases P;rename_i K;cases x;rename_i G aa r V B J;have D:aa.length<=1000:=by rw[J.length];exact N
 have ax:(⟨aa⟩:Array ar).size*y.toNat<=1000*1000:=jF D<|O6.mpr H;have W:(⟨aa⟩:Array ar).size<=1000:=D;refine wpAny_binaryOp_repeat_ref (T:="list") (U:="int") z ⟨_,B,rfl⟩ (λae=>Qy ae y K) noFill_list_mul PySem.F.fills_int_mul af5 repeat_list PySem.F.slot_int_index.lookup (u4 af5 (Qy b y K) PySem.F.entry_int_rmul (PySem.F.args_int_rmul_2 _ _) (int___rmul___int_list y K G ⟨aa⟩ r) ⟨B,rfl,⟨_,B,rfl⟩,u4 PySem.F.slot_list_mul ⟨_,B,rfl⟩ PySem.F.entry_list_mul (PySem.F.args_list_mul_2 _ _) (AutoListH.list___mul___list_int_3 G ⟨aa⟩ r y K (by rw[show ahf y=(decide (-(2^63:Int)<=y)&&decide (y<(2^63:Int)))from rfl,decide_eq_true<|j9 z M,decide_eq_true<|lA H z];decide) (by omega) ?_) ⟨B,?_⟩⟩);unfold PL;rw[hT];simp only[gt_iff_lt,decide_eq_true_eq];omega;have R:(List.foldl (λee p=>ee++p) #[]<|dw (if(⟨aa⟩:Array ar).isEmpty=ah then 0 else y.toNat) (⟨aa⟩:Array ar))=(dw y.toNat aa).flatten.toArray:=by
  split;rename_i O;have:aa=[]:=by simpa using O
  subst this;have:∀k:Nat,(dw k ([]:List ar)).flatten=[]:=λk=>by simp
  rw[this];rfl;exact abD y.toNat aa
 rw[R];exact q _ _ _ _ (aw.push (eV:=b.toks)) (g7 _) (fs _ rfl)<|(S.gn aw.push J).rep _
def aaw(f:List af)(y:Int)(p:y<=1000)(w:-1000<=y)(d:f.length<=1000):dJ C (eW .Mult) (.list f) (.int y) (.list (dw y.toNat f).flatten):=by intro c H k I t i e D F h j q;exact MN f y p w d c H k I t i e D F h j λK ae aa r J B b G=>q _ _ J<|.list (e.gg B).2.2 b G
set_option tactic.hygienic true in
def MM(L M:List af)(T:L.length+M.length<=1000000):∀(c:aF->Prop)(k:ef)(y:Nat)(d:aB)(t i:ar),bf C c k y d->Rz c d.heap t (.list L)->Rz c d.heap i (.list M)->∀(p:ar->aB->Prop)(j:ar->aB->Prop),(∀K ae aa r,aw C d ae->d.heap.get? K=ai->ae.heap.get? K=I ⟨.type "list",ai,.seq ⟨aa⟩ r,#[]⟩->RzL c ae.heap aa (L++M)->p (.ref K) ae)->aL (aQ C.prog C.w) k (eW .Add t i) p j d:=by
 intro c k y d t i O x N p j q;cases x;rename_i K aa r U F J;cases N;rename_i V f W R B D;have G:=J.length;have H:=D.length;refine PySem.P.add_list F B ?_ (by show aa.length+f.length<=_;rw[hT,G,H];exact ao T z);have S:(⟨aa⟩:Array ar)++(⟨f⟩:Array ar)=(aa++f).toArray:=by simp
 rw[S];exact q _ _ _ _ (aw.push (eV:=d.toks)) (g7 _) (fs _ rfl)<|(O.gn aw.push J).append<|O.gn aw.push D
def aap(f p:List af)(I:f.length+p.length<=1000000):dJ C (eW .Add) (.list f) (.list p) (.list<|f++p):=by intro c k y J t i e D F H j q;exact MM f p I c k y J t i e D F H j λd ae aa r K B w G=>q _ _ K<|.list (e.gg B).2.2 w G
set_option tactic.hygienic true in
def aaq(f p:List af)(S:f.length+p.length<=1000000):dJ C (eW .Add) (.tuple f) (.tuple p) (.tuple<|f++p):=by
 intro W k y O Z Y M x K V U q;have w:=x;have L:=K;cases x;rename_i N aa r T D H;cases K;rename_i I c J P B d;have t:=H.length;have R:=d.length;have i:(⟨aa⟩:Array ar)++(⟨c⟩:Array ar)=(aa++c).toArray:=by simp
 by_cases G:aa=[];have:f=[]:=by subst G;cases H;rfl
 subst this;exact Qe ⟨_,D,rfl⟩ ⟨_,B,rfl⟩ Qp Qr PU PT (PS _ _) (tuple_addW0 N I ⟨aa⟩ ⟨c⟩ r J ai ai #[] #[]<|by simp[G]) ⟨D,B,q _ _ (aw.refl O) L⟩;by_cases j:c=[];have:p=[]:=by subst j;cases d;rfl
 subst this;exact Qe ⟨_,D,rfl⟩ ⟨_,B,rfl⟩ Qp Qr PU PT (PS _ _) (tuple_addW1 N I ⟨aa⟩ ⟨c⟩ r J ai ai #[] #[] (by simpa using G)<|by simp[j]) ⟨D,B,q _ _ (aw.refl O)<|by simpa using w⟩;refine Qe ⟨_,D,rfl⟩ ⟨_,B,rfl⟩ Qp Qr PU PT (PS _ _) (tuple_addW2 N I ⟨aa⟩ ⟨c⟩ r J ai ai #[] #[] (by simpa using G) (by simpa using j) (by show aa.length+c.length<=_;rw[hT,H.length,d.length];exact ao S z)) ⟨D,B,?_⟩;rw[i];exact q _ _ (aw.push (eV:=O.toks))<|.tuple M.fresh (fs _ rfl)<|(M.gn aw.push H).append<|M.gn aw.push d
def aax(f:au)(y:Int)(p:y<=1000)(l:-1000<=y)(d:f.length<=1000):dJ C (eW .Mult) (.str f) (.int y) (.str<|Txt.mul f y):=by intro c B k r t i e x m h j q;cases x;cases m;exact lG (cz r.toks) (SB.mul (mulOk_of 1000 1000 d (by omega) (by omega) z z) λw k b=>q _ _ (aw.tok b)<|.str _ _)
def o8(i:t=d)(j:dJ C y c p t):dJ C y c p d:=i▸j
def ib[Decidable g](j:(if g then I m else ai)=I d)(k:g->dJ C y e p m):dJ C y e p d:=(cw j).2▸k (cw j).1
def yV:∀g f p d,aI g f p=I d->dJ C (eW g) f p d:=by
 intro g f p d j;cases f<;>try exact nS j
 all_goals cases p<;>try exact nS j
 all_goals cases g<;>try exact nS j
 exact o8 (aZ j)<|aaC _ _;exact o8 (aZ j)<|aao _ _;exact o8 (aZ j)<|aaB _ _;exact ib j λi=>aav _ _<|ZN (eS (aY i).1)<|eS (aY i).2;exact ib j λi=>aaD _ _ (bne_iff_ne.mp (aY i).1)<|jt (aY i).2;exact ib j λi=>aau _ _<|bne_iff_ne.mp i;exact ib j λi=>aaz _ _ (of_decide_eq_true (aY i).1)<|jt (aY i).2;exact ib j λi=>aat _ _ (of_decide_eq_true (aY i).1)<|of_decide_eq_true (aY i).2;exact ib j λi=>aaA _ _<|of_decide_eq_true i;exact o8 (aZ j)<|aay _ _;exact o8 (aZ j)<|aaE _ _;exact o8 (aZ j)<|aar _ _;exact ib j λi=>aas _ _ (bne_iff_ne.mp (aY i).1)<|jt (aY i).2;exact ib j λi=>WE _ _<|ys i;exact ib j λi=>Wy _ _<|ys i;exact ib j λi=>WH _ _<|ys i;exact ib j λi=>WD _ _<|ys i;exact ib j λi=>WA _ _ (jt (aY i).1)<|jt (aY i).2;exact o8 (aZ j)<|Wx _ _;exact o8 (aZ j)<|WG _ _;exact o8 (aZ j)<|WC _ _;exact ib j λi=>Wz _ _<|jt i;exact ib j λi=>WB _ _<|jt i;exact ib j λi=>aax _ _ (of_decide_eq_true (aY (aY i).1).1) (of_decide_eq_true (aY (aY i).1).2)<|eS (aY i).2;exact ib j λi=>acv _ _<|eS i;exact ib j λi=>aaq _ _<|eS i;exact ib j λi=>aaw _ _ (of_decide_eq_true (aY (aY i).1).1) (of_decide_eq_true (aY (aY i).1).2)<|eS (aY i).2;exact ib j λi=>aap _ _<|eS i
set_option tactic.hygienic true in
def Jz:∀D p g,aI .Add D p=I (.list g)->∀(c:aF->Prop)(k:ef)(y:Nat)(d:aB)(t i:ar),bf C c k y d->Rz c d.heap t D->Rz c d.heap i p->∀(f:ar->aB->Prop)(j:ar->aB->Prop),(∀F ae aa H,aw C d ae->d.heap.get? F=ai->ae.heap.get? F=I ⟨.type "list",ai,.seq ⟨aa⟩ H,#[]⟩->RzL c ae.heap aa g->f (.ref F) ae)->aL (aQ C.prog C.w) k (eW .Add t i) f j d:=by
 intro D p g B;obtain⟨q,x,rfl,rfl,r,rfl⟩:∃q x,D=.list q/\p=.list x/\q.length+x.length<=1000000/\q++x=g:=by
  cases D<;>try exact nS B
  all_goals cases p<;>try exact nS B
  case list.list q x=>have G:=cw B;exact⟨q,x,rfl,rfl,eS G.1,af.list.inj G.2⟩
  case int.int=>exact af.noConfusion<|aZ B
  case float.float=>exact af.noConfusion<|aZ B
  all_goals exact af.noConfusion (cw B).2
 exact MM _ _ r
def I0:∀r f p d,IY r f p=I d->dJ C (inplaceOp r) f p d:=by
 intro r f p d j;cases r<;>try exact nS j
 all_goals cases f<;>try exact nS j
 all_goals cases p<;>try exact nS j
 exact aZ j▸λD k y l t H G x m B w q=>by cases x;cases m;exact AutoIntOps.iadd_0<|q _ _ aw.tok<|.int _ _
 exact aZ j▸λD k y l t H G x m B w q=>by cases x;cases m;exact AutoIntOps.isub_0<|q _ _ aw.tok<|.int _ _
 have i:=cw j;have F:=i.1;refine i.2▸λD k y l t H G x m B w q=>?_;cases x;cases m;exact AutoIntOps.ifloordiv_1 (by simpa using(aY F).1) (by rw[jt (aY F).2];simp)<|q _ _ aw.tok<|.int _ _
def OA:∀g f d,Oz g f=I d->pN C (HL g) f d:=by
 intro g f d j;cases g<;>try exact nS j
 all_goals cases f<;>try exact nS j
 exact aZ j▸adF _;exact aZ j▸adG _
inductive sS:af->af->Bool->Prop
 |none:sS .none .none true
 |bool (a b):sS (.bool a) (.bool b) (a==b)
 |int (a b):sS (.int a) (.int b) (a==b)
 |float (a b) (h:(gI a b==some qM)=true):sS (.float a) (.float b) true
 |str (a b):sS (.str a) (.str b) (a==b)
def oO(i:pZ f p=I k):sS f p k:=by
 cases f<;>try exact nS i
 all_goals cases p<;>try exact nS i
 exact aZ i▸.none;exact aZ i▸.bool _ _;exact aZ i▸.int _ _;have j:=cw i;exact j.2▸.float _ _ j.1;exact aZ i▸.str _ _
inductive yk(n:Nat):af->af->Bool->Prop
 |list {l r k} (h:(if l.length==r.length then h4 (cW n) l r else some false)=some k):yk n (.list l) (.list r) k
 |tuple {l r k} (h:(if l.length==r.length then h4 (cW n) l r else none)=some k):yk n (.tuple l) (.tuple r) k
 |atom {a b k} (h:pZ a b=some k):yk n a b k
def p0(i:cW (y+1) f p=I k):yk y f p k:=by
 cases f;case list=>cases p<;>first|exact .list i|exact .atom i
 case tuple=>cases p<;>first|exact .tuple i|exact .atom i
 all_goals exact .atom i
def Kt(x:Rz c j t f)(m:Rz c j t p)(i:pZ f p=I k):k=ah:=by cases oO i with|none=>rfl|float=>rfl|_=>cases x;cases m;exact beq_self_eq_true _
def yO(i:h4 y (c::d) (p::w)=I k):∃x d5,y c p=I x/\h4 y d w=I d5/\(x&&d5)=k:=bK i λx s i=>fm i λd5 g i=>⟨x,d5,s,g,i⟩
def RzL.I7{aa:List ar}{B:Prop}(C:RzL c j aa (m::d))(D:RzL c j aa f)(k:∀t n w r,Rz c j t m->Rz c j t w->RzL c j n d->RzL c j n r->f=w::r->B):B:=C.cK λt n s q E=>RzL.cV (E▸D) λw r A i g=>k t n w r s A q i g
def RzL.nn{aa:List ar}{l:Prop}(f:RzL c j aa [])(p:RzL c j aa d)(k:d=[]->l):l:=f.nK λi=>RzL.nV (i▸p) k
def IE(D:∀t B C k,Rz c j t B->Rz c j t C->i B C=I k->k=ah):∀{aa:List ar}{g:List af}{k:Bool},RzL c j aa d->RzL c j aa g->h4 i d g=I k->k=ah:=by
 induction d with
 |nil=>exactλB C A=>B.nn C λq=>by subst q;exact(aZ A).symm
 |cons m d E=>
  exactλB C A=>B.I7 C λt n K H s F q G w=>by subst w;exact(yO A).elim λJ A=>A.elim λd5 A=>by rw[<-A.2.2,D _ _ _ _ s F A.1,E q G A.2.1];rfl
def Nw(x:Rz c j t (.list d))(m:Rz c j t (.list w)):∃aa,RzL c j aa d/\RzL c j aa w:=by refine x.lK λf aa y Z df bW i=>m.lK λk b p Z b7 cn g=>?_;obtain rfl:f=k:=agt<|i.symm.trans g;rw[df]at b7;cases b7;exact⟨_,bW,cn⟩
def Ny(x:Rz c j t (.tuple d))(m:Rz c j t (.tuple w)):∃aa,RzL c j aa d/\RzL c j aa w:=by refine x.tK λf aa y Z df bW i=>m.tK λk b p Z b7 cn g=>?_;obtain rfl:f=k:=agt<|i.symm.trans g;rw[df]at b7;cases b7;exact⟨_,bW,cn⟩
def Nz{aa:List ar}(f:RzL c j aa d)(p:RzL c j aa w):d.length=w.length:=f.length.symm.trans p.length
def Vy:∀(d:ar)(f p:af)(k:Bool),Rz c j d f->Rz c j d p->cW y f p=I k->k=ah:=by
 induction y with
 |zero=>exactλd f p k x m i=>Kt x m i
 |succ y g=>
  intro d f p k x m i;cases p0 i with|list i=>exact(Nw x m).elim λaa l=>IE g l.1 l.2 (by rw[if_pos<|by simp[Nz l.1 l.2]]at i;exact i)|tuple i=>exact(Ny x m).elim λaa l=>IE g l.1 l.2 (g8 i).2|atom i=>exact Kt x m i
def Ks(b:Rz c j t f)(m:Rz c j t d)(i:pZ f l=I k)(g:pZ d l=I s):k=s:=by
 have ad:f=d:=by cases oO i<;>cases d<;>first|exact nS g|(cases b;cases m;rfl)
 rw[ad,g]at i;exact(aZ i).symm
def ID(E:∀t C d J k s,Rz c j t C->Rz c j t d->i C J=I k->i d J=I s->k=s):∀{aa:List ar}{g a6:List af}{k s:Bool},RzL c j aa m->RzL c j aa g->h4 i m a6=I k->h4 i g a6=I s->k=s:=by
 induction m with
 |nil=>exactλC D B A=>C.nn D λq=>by subst q;exact aZ<|B.symm.trans A
 |cons J m F=>
  intro aa g a6 k s C D B A;induction a6 using bb with
  |nil=>exact nS B
  |cons ab a6=>
   exact C.I7 D λt n O K N G q H w=>by subst w;exact(yO B).elim λL B=>B.elim λd5 B=>(yO A).elim λky A=>A.elim λM A=>by rw[<-B.2.2,<-A.2.2,E _ _ _ _ _ _ N G B.1 A.1,F q H B.2.1 A.2.1]
def YL{s:Type}{d w:List af}(j:d.length=w.length)(m:List af)(f p:s):(if d.length==m.length then f else p)=if w.length==m.length then f else p:=by rw[j]
def Vx:∀(b:ar)(f d m:af)(k s:Bool),Rz c j b f->Rz c j b d->cW y f m=I k->cW y d m=I s->k=s:=by
 induction y with
 |zero=>exactλb f d m k s p r i g=>Ks p r i g
 |succ y B=>
  intro b f d m k s p r i g;cases p0 i with
  |@list D a6 Z i=>
   cases p0 g with
   |@list q Z C g=>
    refine(Nw p r).elim λaa A=>?_;rw[YL<|Nz A.1 A.2]at i;by_cases w:(q.length==a6.length)=ah;rw[if_pos w]at i g;exact ID B A.1 A.2 i g;rw[if_neg w]at i g;exact(aZ i).symm.trans<|aZ g
   |atom g=>cases oO g
  |tuple i=>
   cases p0 g with|tuple g=>exact(Ny p r).elim λaa A=>ID B A.1 A.2 (g8 i).2 (g8 g).2|atom g=>cases oO g
  |atom i=>
   cases p0 g with|atom g=>exact Ks p r i g|list g=>cases oO i|tuple g=>cases oO i
def X7(h0:i≠0)(f:t≠0)(c:uY l.heap)(a:∀p,h p l):aL d k (isSame (.float m i)<|.float e t) h j l:=by
 show aL d k (agH (m==e&&!af_ m) i t) h j l;unfold agH;refine yf ?_;rw[if_neg<|by simp[h0,f]];refine yf ?_;split;exact a'<|a _;refine yf ?_;split;exact a'<|a _;refine aA<|ag0 c ?_;first|rw[if_neg xE]|simp only[j8,if_false]
 refine aA<|ag0 c ?_;first|rw[if_neg xE]|simp only[j8,if_false]
 exact aA<|va<|aA<|QB<|a'<|a _
def EqAt.floats(h0:i≠0)(g:c≠0)(q:uY l.heap)(r:(gI m d==I qM)=true):EqAt k l (.float m i) (.float d c) true:=λe n j h f=>by
 unfold eqBool;refine du ?_;refine yf ?_;split;exact aA<|va<|a' f;refine aA<|X7 h0 g q λp=>?_;induction p using bz with
 |true=>exact a' f
 |false=>
  refine aA ?_;have:=afM (prog:=e) (w:=n) (A:=k) (E:=j) (s:=l) (a:=m) (t:=i) (b:=d) (u:=c) (Q:=λc ae=>aL (aQ e n) k (truthOfDropped c) h j ae) (by rw[r];exact QG f);exact this
set_option tactic.hygienic true in
theorem rf(K:∀a p k S R,H a p=I k->Rz c s.heap S a->Rz c s.heap R p->EqAt A s S R k):∀{G w:List af}{k:Bool}{aa g:List ar},h4 H G w=I k->RzL c s.heap aa G->RzL c s.heap g w->∃q:Nat->Bool,(∀j(i:j<aa.length)(B:j<g.length),EqAt A s aa[j] g[j]<|q j)/\aa.length=g.length/\(aH aa.length).all q=k
 |[],[],k,aa,g,n,x,m=>by cases x;cases m;cases n;exact⟨λZ=>ah,λj i=>absurd i<|afw _,rfl,rfl⟩
 |a::G,p::w,k,aa,g,n,x,m=>by
  cases x;rename_i S aa aJ dV
  cases m;rename_i R g M N
  obtain⟨L,T,i,B,rfl⟩:=yO n
  obtain⟨q,P,Q,O⟩:=rf K B dV N
  refine⟨λj=>match j with|0=>L|j+1=>q j,λj C J=>?_,by simp[Q],?_⟩
  induction j using cN with|zero=>exact K _ _ _ _ _ i aJ M|succ j=>exact P j (by simpa using C) (by simpa using J)
  rw[gG,ae_,O8,List.all_map]
  show(L&&(aH aa.length).all q)=_
  rw[O]
 |[],Z::t,y,D,E,n,d,F=>by cases n
 |Z::t,[],y,D,E,n,d,F=>by cases n
def hS{X:aF->Prop}{j:cP}{aa:List ar}(i:j.get? d=I ⟨.type "list",ai,.seq ⟨aa⟩ y,#[]⟩):j.IsList d ⟨aa⟩:=⟨_,i,rfl,_,rfl⟩
def qn{X:aF->Prop}{j:cP}{aa:List ar}(i:j.get? d=I ⟨.type "tuple",ai,.seq ⟨aa⟩ y,#[]⟩):j.IsTuple d ⟨aa⟩:=⟨_,i,rfl,_,rfl⟩
def Ku(q:uY l.heap)(j:pZ f p=I k)(x:Rz c l.heap t f)(m:Rz c l.heap i p):EqAt d l t i k:=by
 cases oO j with
 |none=>cases x;cases m;exact agg _
 |bool=>cases x;cases m;exact EqAt.bool_bool _ _
 |int=>cases x;cases m;exact EqAt.int_int _ _ _ _
 |float Z e w=>
  cases x;cases m;exact EqAt.floats (by assumption) (by assumption) q w
 |str=>cases x;cases m;exact EqAt.str_str _ _ _ _
set_option tactic.hygienic true in
theorem Dn{H:aF->Prop}:∀{n:Nat}{D:ef}{y:aB}{f p:af}{k:Bool}{t i:ar},uY y.heap->D.units+n<u3->cW n f p=I k->Rz H y.heap t f->Rz H y.heap i p->EqAt D y t i k
 |0,D,y,f,p,k,t,i,E,g,c,x,m=>Ku E c x m
 |n+1,D,y,f,p,k,t,i,E,g,c,x,m=>by
  have N:∀f p k t i,cW n f p=I k->Rz H y.heap t f->Rz H y.heap i p->EqAt D.in1 y t i k:=λf p k t i O=>Dn E (b4 (bQ<|e7 D.units 1 n) g) O
  have g:D.units<u3:=b4 (cv _ _) o
  by_cases C:t=i
  subst C
  exact Vy _ _ _ _ x m c▸agg _
  cases p0 c with
  |@list d w Z c=>
   clear ‹cW _ _ _=_›;cases x;rename_i aJ aa Q ee df bW;cases m;rename_i dV B R S b7 cn;have C:aJ≠dV:=λF=>C<|F▸rfl;by_cases G:(d.length==w.length)=ah;rw[if_pos G]at c;obtain⟨F,K,G,J⟩:=rf (A:=D.in1) (s:=y) N c bW cn;exact J▸P5 C (agh (hS (X:=H) df) (hS (X:=H) b7) G g λP q L=>K P q L);rw[if_neg G]at c;exact aZ c▸P5 C (agi (hS (X:=H) df) (hS (X:=H) b7) (by have:=bW.length;have:=cn.length;simp at G ⊢;omega) g)
  |tuple c=>
   clear ‹cW _ _ _=_›;cases x;rename_i aJ aa Q ee df bW;cases m;rename_i dV B R S b7 cn;have C:aJ≠dV:=λF=>C<|F▸rfl;obtain⟨F,K,G,J⟩:=rf (A:=D.in1) (s:=y) N (g8 c).2 bW cn;have M:=agj (qn (X:=H) df) (qn (X:=H) b7) (A:=D) g λP q L=>K P q L;have aC:((aH<|min (⟨aa⟩:Array ar).size (⟨B⟩:Array ar).size).all F&&(⟨aa⟩:Array ar).size==(⟨B⟩:Array ar).size)=k:=by show((aH<|min aa.length B.length).all F&&aa.length==B.length)=k;rw[<-G,afq,J];simp
   rw[aC]at M;exact P5 C M
  |atom c=>exact Ku E c x m
open Classical in
noncomputable def tA(c:aF->Prop)(j:cP)(m:af)(b:ar):Bool:=decide (∃d,Rz c j b d/\cW 8 d m=I ah)
set_option tactic.hygienic true in
theorem yp(D:uY s.heap)(E:A.units+8<u3)(p:Rz c s.heap M G):∀{H:List af}{F:Nat}{aa:List ar},hn G H=I F->RzL c s.heap aa H->(∀b∈aa,EqAt A s b M<|tA c s.heap G b)/\aa.countP (tA c s.heap G)=F
 |[],F,aa,j,L=>by cases L;cases j;exact⟨λb g=>(by cases g),rfl⟩
 |a::H,F,aa,j,L=>by
  cases L;rename_i N aa B J
  obtain⟨k,t,j⟩:=oD j
  obtain⟨O,q,rfl⟩:=tL j
  obtain⟨f,w⟩:=yp D E p q J
  have i:tA c s.heap G N=k:=by
   induction k using bz with
   |true=>exact @decide_eq_true _ (aeB _) ⟨a,B,t⟩
   |false=>
    refine @decide_eq_false _ (aeB _) ?_;rintro⟨d,K,C⟩;cases Vx _ _ _ _ _ _ B K t C
  refine⟨λb g=>?_,?_⟩
  rcases c9.mp g with rfl|g
  rw[i];exact Dn D E t B p
  exact f b g
  rw[aeS,w,i]
  cases k<;>simp
def Sy{aa:List ar}:aa.any y=(aa.countP y !=0):=by
 induction aa with
 |nil=>rfl
 |cons t aa g=>
  rw[O9,aeS,g];cases y t;simp;simp
def bf.rR(e:bf C c a y l)(j:k<=899):a.units+k<u3:=by exact cq (b4 (ka (ao (cv ..)<|d_ e.units) j) z) (show 9900<=u3 by decide)
def bf.AE(e:bf C c a y l)(j:k<=898):a.in1.units+k<u3:=by exact cq (b4 (ka (gS<|ao (cv ..)<|ni e.units) j) z) (show 9900<=u3 by decide)
def zp(e:bf C c d y l):∀f p k t i,cW 8 f p=I k->Rz c l.heap t f->Rz c l.heap i p->EqAt d.in1 l t i k:=λf p k t i h=>Dn (C.booked _ e.ok) (e.AE z) h
def Ot{aa a:List ar}(r:aa.length=a.length)(n:(aH aa.length).all i=k):((aH<|min (⟨aa⟩:Array ar).size (⟨a⟩:Array ar).size).all i&&(⟨aa⟩:Array ar).size==(⟨a⟩:Array ar).size)=k:=by show((aH<|min aa.length a.length).all i&&aa.length==a.length)=k;rw[<-r,afq,n,beq_self_eq_true,aew]
def IT{aa a:List ar}(bW:RzL c j aa d)(cn:RzL c j a w)(b:¬(d.length==w.length)=ah):((⟨aa⟩:Array ar).size !=(⟨a⟩:Array ar).size)=ah:=bne_iff_ne.mpr λq=>b<|beq_iff_eq.mpr<|bW.length.symm.trans<|Gy q cn.length
set_option tactic.hygienic true in
def abA(K:bf C c m w d)(F:cW 9 f p=I k)(L:∀U V,f=.float U->p=.float V->False)(D:Rz c d.heap t f)(E:Rz c d.heap i p):RcAt m d t i k:=by
 replace F:=p0 F;cases F with
 |@list S T Z F=>
  cases D;rename_i aJ aa N ee df bW;cases E;rename_i dV P O Q b7 cn;by_cases B:(S.length==T.length)=ah;obtain⟨R,H,B,G⟩:=rf (zp K) ((if_pos B).symm.trans F) bW cn;exact G▸agh (hS (X:=c) df) (hS (X:=c) b7) B (K.rR (k:=0) z) (λM q J=>H M q J);exact aZ ((if_neg B).symm.trans F)▸agi (hS (X:=c) df) (hS (X:=c) b7) (IT bW cn B) (K.rR (k:=0) z)
 |tuple F=>
  cases D;rename_i aJ aa N ee df bW;cases E;rename_i dV P O Q b7 cn;obtain⟨R,H,B,G⟩:=rf (zp K) (g8 F).2 bW cn;exact Ot B G▸agj (qn (X:=c) df) (qn (X:=c) b7) (A:=m) (K.rR (k:=0) z) (λM q J=>H M q J)
 |atom F=>
  replace F:=oO F;cases F with|none=>cases D;cases E;exact RcAt.none_none|bool=>cases D;cases E;exact RcAt.bool_bool _ _|int=>cases D;cases E;exact RcAt.int_int _ _ _ _|float=>exact(L _ _ rfl rfl).elim|str=>cases D;cases E;exact RcAt.str_str _ _ _ _
set_option tactic.hygienic true in
def abz(M:bf C c m ac d)(G:cW 9 f p=I k)(D:Rz c d.heap t f)(F:Rz c d.heap i p)(q:x (.bool<|!k) d):aL (aQ C.prog C.w) m (sJ .NotEq t i) x y d:=by
 suffices RcNeAt m d t i (!k)\/aL (aQ C.prog C.w) m (sJ .NotEq t i) x y d from this.elim (λG=>G C.prog C.w y x q) id
 replace G:=p0 G;cases G with
 |@list W Y Z G=>
  left;clear q;cases D;rename_i aJ aa P ee df bW;cases F;rename_i dV S R T b7 cn;by_cases B:(W.length==Y.length)=ah;obtain⟨V,J,B,H⟩:=rf (zp M) ((if_pos B).symm.trans G) bW cn;exact H▸RcNeAt.lists (hS (X:=c) df) (hS (X:=c) b7) B (M.rR (k:=0) z) (λO K L=>J O K L);exact aZ ((if_neg B).symm.trans G)▸RcNeAt.lists_lengths (hS (X:=c) df) (hS (X:=c) b7) (IT bW cn B) (M.rR (k:=0) z)
 |tuple G=>
  left;clear q;cases D;rename_i aJ aa P ee df bW;cases F;rename_i dV S R T b7 cn;obtain⟨V,J,B,H⟩:=rf (zp M) (g8 G).2 bW cn;exact Ot B H▸RcNeAt.tuples (qn (X:=c) df) (qn (X:=c) b7) (A:=m) (M.rR (k:=0) z) (λO K L=>J O K L)
 |atom G=>
  replace G:=oO G;cases G with
  |none=>left;cases D;cases F;exact RcNeAt.none_none
  |bool=>left;cases D;cases F;exact RcNeAt.bool_bool _ _
  |int=>left;cases D;cases F;exact RcNeAt.int_int _ _ _ _
  |float Z U N=>
   right;cases D;cases F;have:gI _ _=_:=bF N;exact ahb (by rw[this];exact q)
  |str=>left;cases D;cases F;exact RcNeAt.str_str _ _ _ _
def Wk{I:aF->Prop}{J:cP}{x:au}{b:List ff}{p:List (au×af)}(q:dh I J b p):match b.findIdx? (·.key.isStr x)with
  |some f=>∃B k d,b[f]?=some B/\B.key=.str x k/\p.lookup x=some d/\Rz I J B.val d
  |none=>p.lookup x=none:=by
 induction q using dh.ind with
 |n=>rfl
 |@c j a k m b d p w l g=>
  rw[List.findIdx?_cons];have D:(agu a k).isStr x=(a==x):=rfl;by_cases B:a=x;subst B;simp only[D,beq_self_eq_true,if_true];exact⟨_,k,d,rfl,rfl,by simp,w⟩;have E:(a==x)=av:=by simpa using B
  have A:(x==a)=av:=by simpa usingλq=>B q.symm
  simp only[D,E,j8,if_false];induction C:b.findIdx? (·.key.isStr x)using b6 with
  |none=>
   rw[C]at g;simp only[Option.map_none];rw[ey,A];exact g
  |some f=>
   rw[C]at g;obtain⟨cD,lM,C1,s,F,G,H⟩:=g;simp only[kc];exact⟨cD,lM,C1,by simpa using s,F,by rw[ey,A];exact G,H⟩
def dh.strs{X:aF->Prop}{h:cP}{bA:List ff}{c':List (au×af)}(q:dh X h bA c'):bA.all (λe=>u5 e.key)=ah:=by induction q using dh.ind with|n=>rfl|c r rs tv=>exact tv
def J'{X:aF->Prop}{k:ef}{l:aB}{J:aF}{b:List ff}{h:Nat}{p:List (au×af)}{f:au}{S:Tok}(G:l.heap.get? J=some ⟨.type "dict",none,.dict ⟨b⟩ h,#[]⟩)(P:dh X l.heap b p){O:Option ar->aB->Prop}{j:ar->aB->Prop}(q:∀N,(match p.lookup f with|some d=>∃R,N=some R/\Rz X l.heap R d|none=>N=none)->O N {l with toks:=l.toks+1}):aL (aQ C.prog C.w) k (dictGet J<|.str f S) O j l:=by
 refine du<|aA<|wpAny_pyHash_str ?_;have B:({l with toks:=l.toks+1}:aB).heap.get? J=some ⟨.type "dict",none,.dict ⟨b⟩ h,#[]⟩:=G;have y:=Wk (x:=f) P;refine aA<|du<|aA<|agS B rfl ?_;dsimp only;have F:((⟨b⟩:Array ff).all λg=>u5 g.key)=ah:=by simpa using P.strs
 rw[if_pos F];unfold foundByValue;have I:(⟨b⟩:Array ff).findIdx? (·.key.isStr f)=b.findIdx? (·.key.isStr f):=by simp
 rw[I];induction H:b.findIdx? (·.key.isStr f)using b6 with
 |none=>
  rw[H]at y;refine a'<|a' ?_;exact q none (by rw[y])
 |some c=>
  rw[H]at y;obtain⟨g,T,d,K,L,M,n⟩:=y;have D:(⟨b⟩:Array ff)[c]?=some g:=by simpa using K
  dsimp only;rw[D];refine aA<|agT B rfl ?_;rw[L];refine aA<|wpAny_eqBool_str ?_;refine aA<|agT B rfl ?_;rw[if_neg<|by simp];rw[if_pos<|by simp];refine aA<|va<|a' ?_;refine aA<|agS B rfl<|a' ?_;rw[D];exact q (some g.val) (by rw[M];exact⟨_,rfl,n⟩)
def JN{n:Nat}(F:(f==HI)=av)(i:l.heap.get? f=some ⟨.type "dict",none,.dict ⟨b⟩ g,#[]⟩)(G:dh X l.heap b p)(q:h (p.lookup c).isSome {l with toks:=l.toks+1}):aL (aQ C.prog C.w) e (Qg (.ref f)<|.str c k) h j l:=by
 have B:l.TypeIs (.ref f) "dict":=⟨_,i,rfl⟩;refine du ?_;refine aA<|ag1 B Qt.lookup ?_;show aL _ _ (if(some (sz "dict.__contains__")==some dS)=ah then _ else _) _ j l;rw[if_neg (by rw[beq_builtin_none];exact xE)];refine aA<|wpAny_callSpecialUnlessNone?_slot (name:=bM "__contains__") B Qt<|HO Qt B entry_dict_contains ?_<|args_dict_contains _ _;show aL _ _ (dictGet f (.str c k)>>=_) _ _ l;refine aA<|J' (X:=X) i G λH y=>?_;induction D:p.lookup c using b6 with
 |none=>
  rw[D]at y q;subst y;show aL _ _ (ahe f (.str c k)>>=_) _ _ _;exact aA<|wpAny_pendingKey_other F<|a' ⟨_,rfl,QG q⟩
 |some d=>
  rw[D]at y q;obtain⟨I,rfl,Z⟩:=y;show aL _ _ (ret<|.bool ah) _ _ _;exact a' ⟨_,rfl,QG q⟩
def Xb(i:l.heap.get? f=I ⟨.type "dict",ai,.dict ⟨b⟩ g,#[]⟩)(G:dh X l.heap b p)(D:p.lookup c=I d)(q:∀B,Rz X l.heap B d->h B {l with toks:=l.toks+1}):aL (aQ C.prog C.w) e (qR (.ref f)<|.str c k) h j l:=by
 have y:l.TypeIs (.ref f) "dict":=⟨_,i,rfl⟩;refine du ?_;first|refine aA (a' ?_)|skip
 refine aA<|agZ y z ?_;refine aA<|agR (name:=bM "__getitem__") y Qu<|HO Qu y entry_dict_getitem ?_<|args_dict_getitem _ _;show aL _ _ (dictGet f (.str c k)>>=_) _ _ l;refine aA<|J' (X:=X) i G λH n=>?_;rw[D]at n;obtain⟨B,rfl,F⟩:=n;exact a' ⟨B,rfl,a'<|q B F⟩
inductive vo:af->Bool->Prop
 |none:vo .none true
 |str {x}:vo (.str x) false
 |int {i}:vo (.int i) false
 |list {l}:vo (.list l) false
def LO(j:isNone f=I k):vo f k:=by
 cases f<;>try exact nS j
 exact aZ j▸.none;exact aZ j▸.int;exact aZ j▸.str;exact aZ j▸.list
def UB(j:isNone f=I k):hZ C .Is f .none k:=by intro c b y l t i e x m p d q;cases m;cases LO j with|none=>cases x;exact wpAny_is_self rfl (q l<|aw.refl l)|_=>cases x;exact wpAny_is_plain rfl<|q l<|aw.refl l
def UC(j:isNone f=I k):hZ C .IsNot f .none (!k):=by intro c b y l t i e x m p d q;cases m;cases LO j with|none=>cases x;exact wpAny_isNot_self rfl (q l<|aw.refl l)|_=>cases x;exact wpAny_isNot_plain rfl<|q l<|aw.refl l
def IL(w:a.countP y=r):(⟨a⟩:Array ar).any y=(r !=0):=by show a.toArray.any _=_;rw[List.any_toArray,Sy,w]
set_option tactic.hygienic true in
def LC(T:mG f p=I k):hZ C .In f p k/\hZ C .NotIn f p (!k):=by
 have K:∀{c:aF->Prop}{B:ef}{D:Nat}{r:aB}{t i:ar},bf C c B D r->Rz c r.heap t f->Rz c r.heap i p->∀(x:ar->aB->Prop)(j:ar->aB->Prop),
   ((∀ae,aw C r ae->x (.bool k) ae)->aL (aQ C.prog C.w) B (sJ .In t i) x j r)/\((∀ae,aw C r ae->x (.bool<|!k) ae)->aL (aQ C.prog C.w) B (sJ .NotIn t i) x j r):=by
  intro c B D r t i N H J x j
  have V:=C.booked _ N.ok
  cases p<;>try exact nS T
  obtain⟨ab,P,rfl⟩:=tL T
  cases J;rename_i ad aa Z U F R
  obtain⟨L,O⟩:=yp (A:=B.in1) (s:=r) V (N.AE z) H P R
  have M:=IL O
  exact⟨λq=>in_tupleAt _ (qn (X:=c) F) (λS G=>L S<|GQ.mp G)<|M.symm▸q r (aw.refl r),
   λq=>notIn_tupleAt _ (qn (X:=c) F) (λS G=>L S<|GQ.mp G)<|M.symm▸q r (aw.refl r)⟩
  obtain⟨ab,P,rfl⟩:=tL T
  cases J;rename_i ad aa Z U F R
  obtain⟨L,O⟩:=yp (A:=B.in1) (s:=r) V (N.AE z) H P R
  have M:=IL O
  exact⟨λq=>in_listAt _ (hS (X:=c) F) (λS G=>L S<|GQ.mp G)<|M.symm▸q r (aw.refl r),
   λq=>notIn_listAt _ (hS (X:=c) F) (λS G=>L S<|GQ.mp G)<|M.symm▸q r (aw.refl r)⟩
  cases f<;>try exact nS T
  obtain rfl:=aZ T
  cases H
  refine Rz.dK J λd ac ab U W F Y M=>?_
  subst M
  refine⟨λq=>?_,λq=>?_⟩
  show aL _ _ (do return sy (<-Qg (.ref d) _)) _ _ _
  exact aA<|JN (X:=c) (n:=D) W F Y<|a'<|q _ aw.tok
  show aL _ _ (do return sy (!(<-Qg (.ref d) _))) _ _ _
  exact aA<|JN (X:=c) (n:=D) W F Y<|a'<|q _ aw.tok
 exact⟨λc B D r t i N H J x j q=>(K N H J x j).1 q,λc B D r t i N H J x j q=>(K N H J x j).2 q⟩
def JG(B:cW 9 f p=I k)(c:∀D F,f=.float D->p=.float F->False):hZ C .Eq f p k:=λH G J l t i e d m r j q=>abA e B c d m C.prog C.w j r<|q l<|aw.refl l
def Ux(j:fC .Eq f p=I k):hZ C .Eq f p k:=by
 cases f<;>try exact JG j λm c i Z=>af.noConfusion i
 cases p<;>first|exact JG j (λm c Z i=>af.noConfusion i)|exact aZ j▸Wb _ _
def JH:∀d f p k,fC d f p=I k->hZ C d f p k:=by
 intro d f p k j;cases d;case Eq=>exact Ux j
 case NotEq=>exact fm j λc j i=>i▸λF w y l t G r x m D B q=>abz r j x m<|q l<|aw.refl l
 case Is=>cases p<;>first|exact nS j|exact UB j
 case IsNot=>cases p<;>first|exact nS j|exact fm j λc j i=>i▸UC j
 case In=>exact(LC j).1
 case NotIn=>exact fm j λc j i=>i▸(LC j).2
 all_goals cases f<;>try exact nS j
 all_goals cases p<;>first|exact nS j|exact aZ j▸UA _ _|exact aZ j▸Uz _ _|exact aZ j▸QQ _ _|exact aZ j▸Uy _ _|exact aZ j▸Wd _ _|exact aZ j▸Wc _ _
set_option tactic.hygienic true in
def Ol:∀f k,uj f=I k->vw C f k:=by
 intro f k j;cases f<;>try exact nS j
 exact aZ j▸adt _;exact aZ j▸adu _;obtain⟨B,rfl⟩:=cw j;intro c H G N O L w K J q;cases w;rename_i b S;have:=eS B;refine PySem.P.truthy_str (GH.mpr<|lA (gR.mpr this) z) ?_;have i:(((b.length:Nat):Int)!=0)=(b.length !=0):=by generalize b.length=G;cases G<;>rfl
 rw[i];exact q _ aw.tok;rename_i F;obtain⟨B,rfl⟩:=cw j;intro c H G N O L w K J q;cases w;rename_i d aa R M p D;have y:=D.length;have:=eS B;refine wpAny_truthy_list (hS (X:=c) p) (by show((aa.length:Nat):Int)<_;rw[y];exact lA (gR.mpr this) z) ?_;have i:(⟨aa⟩:Array ar).isEmpty=F.isEmpty:=by show aa.toArray.isEmpty=_;rw[List.isEmpty_toArray];cases D<;>rfl
 rw[i];exact q _ aw.tok
theorem RzL.pick{aa:List ar}(w:RzL c j aa g):∀b:List Nat,RzL c j (b.filterMap (aa[·]?)) (b.filterMap (g[·]?))
 |[]=>.nil
 |i::b=>by
  rw[GL,GL]
  induction a:g[i]?using b6 with
  |none=>
   have:aa[i]?=none:=by rw[List.getElem?_eq_none_iff]at a ⊢;rw[w.length];exact a
   rw[this];exact w.pick b
  |some d=>
   obtain⟨t,m,e⟩:=w.get a;rw[m];exact .cons e<|w.pick b
def DS(b:kT y c=I w):-1000000<=c/\c<=1000000/\qT c y=I w:=
 have a:=g8 b
 ⟨of_decide_eq_true (aY a.1).1,of_decide_eq_true (aY a.1).2,a.2⟩
def ab2(d:qT c y=I w)(e:c<0):(c+(y:Int)).toNat=w/\-(y:Int)<=c:=by unfold qT at d;simp only[e,if_true]at d;obtain⟨f,p⟩:=cw d;simp only[bY,decide_eq_true_eq]at f;exact⟨p,Int.le_of_add_le_add_right (by rw[Int.add_left_neg];exact f.1)⟩
def ab3(a:qT c y=I w)(b:¬c<0):c.toNat=w:=by unfold qT at a;simp only[b,if_false]at a;exact(cw a).2
set_option tactic.hygienic true in
def QV(R:c7 (.list b) (.int c)=I d):dJ C qR (.list b) (.int c) d:=by
 obtain⟨w,L,K⟩:=oD R;obtain⟨H,J,F⟩:=DS L;intro O k Y P t Z W M N V U q;cases N;cases M;rename_i f aa r S D G;obtain⟨T,ag,p⟩:=G.get K;have y:=G.length;have ag:(⟨aa⟩:Array ar)[w]?=I T:=by simpa using ag
 rw[<-y]at F;by_cases B:c<0;have e:=ab2 F B;exact wpAny_getItem_list_neg (hS (X:=O) D) B e.2 (j9 z H) (e.1.symm▸ag)<|q _ _ (aw.refl P) p;exact wpAny_getItem_list (hS (X:=O) D) (ja.mp B) (lA J z) ((ab3 F B).symm▸ag)<|q _ _ (aw.refl P) p
set_option tactic.hygienic true in
def QX(N:c7 (.tuple b) (.int c)=I d):dJ C qR (.tuple b) (.int c) d:=by obtain⟨T,p,J⟩:=oD N;obtain⟨G,H,D⟩:=DS p;intro S k y O t U e K L R P q;cases L;cases K;rename_i f aa r w B F;obtain⟨V,ag,M⟩:=F.get J;rw[<-F.length]at D;exact getItem_tuple (items:=⟨aa⟩) ⟨_,B,rfl,_,rfl⟩ (j9 z G) (lA H z) D (by simpa using ag)<|q _ _ (aw.refl O) M
def QW(G:c7 (.str m) (.int a)=I d):dJ C qR (.str m) (.int a) d:=by obtain⟨L,p,r⟩:=oD G;obtain⟨b,l,f⟩:=DS p;obtain⟨F,w,rfl⟩:=tL r;intro K k y M t N e B D J H q;cases B;cases D;refine PySem.P.getItem_str (i:=a) (c:=F) ?_ (by rw[f];exact w)<|q _ _ aw.tok<|.str _ _;have aJ:¬a< -(2^63:Int):=ja.mpr<|j9 z b;have dV:¬a>=(2^63:Int):=GH.mpr<|lA l z;rw[decide_eq_false aJ,decide_eq_false dV];rfl
def QU(j:p.lookup k=I d):dJ C qR (.dict p) (.str k) d:=by intro c H y l t N M x B K J q;cases B;refine Rz.dK x λL F r w G b f i=>?_;subst i;exact Xb (X:=c) b f j λt D=>q t _ aw.tok D
def LX:∀f p d,c7 f p=I d->rX f=ah/\dJ C qR f p d:=by
 intro f p d j;cases f<;>try exact nS j
 cases p with|int=>exact⟨rfl,QW j⟩|_=>exact nS j
 cases p with|int=>exact⟨rfl,QX j⟩|_=>exact nS j
 cases p with|int=>exact⟨rfl,QV j⟩|_=>exact nS j
 cases p with|str=>exact⟨rfl,QU j⟩|_=>exact nS j
def aaS{ax:cP}(f:wW i=I k)(w:Rz c ax t i):IsPart t k:=by
 cases i<;>try exact nS f
 cases w;exact aZ f▸.none;cases w;exact aZ f▸.int _ _
set_option tactic.hygienic true in
def NR:∀J Y V aj d,pf J Y V aj=some d->rX J=ah/\Ci C J Y V aj d:=by
 intro J Y V aj d D;obtain⟨lo,N,K⟩:=oD D;clear D;obtain⟨b,M,L⟩:=oD K;clear K;obtain⟨st,O,G⟩:=oD L;clear L;by_cases h0:(st==some 0)=ah;exact nS<|(if_pos h0).symm.trans G;have D:=(if_neg h0).symm.trans G;clear G;replace h0:st≠some 0:=λf=>h0<|beq_iff_eq.mpr f;have B:∀{f:af}{k:Option Int}{c:aF->Prop}{ax:cP}{j:ar},wW f=some k->Rz c ax j f->IsPart j k:=aaS;cases J<;>try exact nS D
 rotate_left;rename_i p;obtain⟨ag,rfl⟩:=cw D;refine⟨rfl,λc am au ae j ab W ak ai U ad H S R T aq ap q=>?_⟩;cases ad;rename_i J aa as w F I;have y:=I.length;have:=eS ag;refine wpAny_getItem_list_slice (hS (X:=c) F) ⟨_,H,rfl,rfl⟩ (B N S) (B M R) (B O T) h0 ?_ (by show aa.length<=_;rw[hT];exact ao (bQ o)<|ao o z);refine q _ _ (aw.push (eV:=ae.toks)) ?_;refine .list (aa:=(Qs ⟨aa⟩ lo b st).toList) U.fresh (fs _ rfl) ?_;have f:(Qs ⟨aa⟩ lo b st).toList=(yb (kf lo b st p.length).1 (kf lo b st p.length).2.1 (kf lo b st p.length).2.2).filterMap (aa[·]?):=by unfold Qs;show List.filterMap _ (yb (kf lo b st aa.length).1 (kf lo b st aa.length).2.1 (kf lo b st aa.length).2.2)=_;rw[y];congr 1;funext av;simp
 rw[f];exact(U.gn aw.push I).pick _;rename_i p;induction lo using b6 with
 |none=>exact nS D
 |some J=>
 induction b using b6 with
 |some Z=>exact nS D
 |none=>
 induction st using b6 with
 |some Z=>exact nS D
 |none=>
  obtain⟨ag,rfl⟩:=cw D;simp only[bY,decide_eq_true_eq]at ag;refine⟨rfl,λc am au ae j ab W ak ai U ad H S R T aq ap q=>?_⟩;have aW:=B N S;have ac:=B M R;have a7:=B O T;cases ac;cases a7;obtain⟨P,rfl⟩:∃P:Nat,J=P:=⟨J.toNat,(og<|j9 z ag.1.1).symm⟩;cases aW;cases ad;rename_i J aa as w F I;have y:=I.length;have al:=eS ag.2;refine getItem_tuple_from (items:=⟨aa⟩) ⟨_,F,rfl,_,rfl⟩ ⟨_,H,rfl,rfl⟩ (gR.mp ag.1.1) (by show P<=aa.length;rw[y];exact gR.mp ag.1.2) ?_ (by show aa.length<=_;rw[hT];exact ao (bQ o)<|ao o z);refine q _ _ (aw.push (eV:=ae.toks))<|.tuple U.fresh (fs _ rfl) ?_;exact(U.gn aw.push I).drop _
def wF{T id:String}(H:∀D(l:aB) t,Rz D l.heap t f->l.TypeIs t T/\∀p,t=.ref p->∃x,l.heap.get? p=I x/\x.dict=ai)(dR:PlainAttrs T)(B:Slot T h id)(i:typeOf (.builtin id)=bq (.type "method_descriptor"))(w:eg C (.builtin id) (f::c) e d):mE C f h c e d:=by refine⟨[f],λD k y l t aW L J K j q=>?_⟩;obtain⟨F,G⟩:=H D l t J;exact agF F dR B i G<|q _ _ l (aw.refl l) (eO.blt id) (.cons J .nil) w
set_option tactic.hygienic true in
def Zw(V:d.length<=1000000)(U:hn i d=I j):mE C (.list d) "count" [i] al (.int j):=by
 refine wF (T:="list") (id:="list.count") (λc f ac W=>?_) xY af6 PySem.F.type_list_count λc S f aa O D af ae q=>?_;cases W with|@list M aa Z P w B D=>exact⟨⟨_,B,rfl⟩,λag G=>by cases G;exact⟨_,B,rfl⟩⟩
 cases D;rename_i ac R K D;cases D with
 |@cons Y ab Z t L D=>
 cases D;cases K;rename_i M aa P w B p;obtain⟨J,H⟩:=yp (A:=S.in1) (s:=f) (C.booked _ O.ok) (O.AE z) L U p;refine u4 af6 ⟨_,B,rfl⟩ PySem.F.entry_list_count (PySem.F.args_list_count_2 _ _) (list_countAt M ⟨aa⟩ P ai #[] Y<|tA c f.heap i) ⟨B,λad k=>J ad (by simpa using k),?_⟩;have G:(⟨aa⟩:Array ar).toList.countP (tA c f.heap i)=j:=H;have aM:(⟨aa⟩:Array ar).countP (tA c f.heap i)=j:=by rw[<-G];simp
 first
  |(rw[G];exact q _ _ aw.tok<|.int _ _)
  |(rw[aM];exact q _ _ aw.tok<|.int _ _)
def z9{s g:Type}{c:s->Option g}{p:s}{d:List s}{w:List g}(j:hP c (p::d)=I w):∃m b,c p=I m/\hP c d=I b/\w=m::b:=bK j λm k j=>fm j λb n i=>⟨m,b,k,n,i.symm⟩
def acT:∀{a6:List au}{aa:List ar},sU f=I a6->RzL c j aa f->∃y:List (au×Tok),aa=strValues y/\y.map (·.1)=a6:=by
 induction f with
 |nil=>exactλi w=>w.nK λq=>aZ i▸⟨[],q,rfl⟩
 |cons d f g=>
  intro a6 aa i w;obtain⟨m,C,s,A,bU⟩:=z9 i;refine w.cK λD n B p q=>?_;obtain⟨y,ax,bJ⟩:=g A p;cases d<;>try exact nS s
  exact B.sK λk jk=>⟨(m,k)::y,by rw[q,jk,ax,aZ s];rfl,by rw[bU,<-bJ];rfl⟩
set_option tactic.hygienic true in
def Zz{a6:List au}(j:sU d=I a6)(y:JoinOk c a6=ah):mE C (.str c) "join" [.list d] f (.str<|Hn c a6):=by
 refine wF (T:="str") (id:="str.join") (λL K t O=>?_) Hd PySem.F.slot_str_join PySem.F.type_str_join λL R K aa W n U S q=>?_;cases O;exact⟨HK _ _ _,λV i=>by cases i⟩;cases n;rename_i H n;cases n with
 |cons J n=>
 cases n;cases H;cases J;rename_i M aa Y w B p;obtain⟨G,rfl,ax⟩:=acT j p;exact lG (cz K.toks)<|SC.join (l:=G) (D:=M) ⟨_,B,rfl,_,rfl⟩ ax y λP k y=>q _ _ (aw.tok y)<|.str _ _
set_option tactic.hygienic true in
def Zx(j:Ha m d 0 m.length 1=c::a):mE C (.str m) "index" [.str d] f (.int c):=by
 refine wF (T:="str") (id:="str.index") (λG l t w=>?_) Hd PySem.F.slot_str_index PySem.F.type_str_index λG k l aa K n J I q=>?_;cases w;exact⟨HK _ _ _,λp H=>by cases H⟩;cases n;rename_i B n;cases n with
 |cons D n=>
 cases n;cases B;cases D;exact SC.index j<|q _ _ aw.tok<|.int _ _
set_option tactic.hygienic true in
def ZA(j:PN (x5 m).length=av):mE C (.str m) "lower" [] a (.str<|x5 m):=by refine wF (T:="str") (id:="str.lower") (λc l t w=>?_) Hd PySem.F.slot_str_lower PySem.F.type_str_lower λc k l aa B n y f q=>?_;cases w;exact⟨HK _ _ _,λp i=>by cases i⟩;cases n;rename_i d n;cases n;cases d;exact SC.lower j<|q _ _ aw.tok<|.str _ _
set_option tactic.hygienic true in
def Zv:mE C (.int f) "bit_length" [] c (.int<|dn f):=by refine wF (T:="int") (id:="int.bit_length") (λd l t w=>?_) F.plainAttrs_int PySem.F.slot_int_bit_length PySem.F.type_int_bit_length λd k l aa m n h j q=>?_;cases w;exact⟨Qy _ _ _,λp i=>by cases i⟩;cases n;rename_i x n;cases n;cases x;exact call_int_bit_length<|q _ _ aw.tok<|.int _ _
def Zy{m b:au}{d:af}{q:Nat}(j:(match Ha m b 0 m.length 1 with
   |i::Z=>I<|af.int (i:Nat)
   |[]=>ai)=I d):mE C (.str m) "index" [.str b] q d:=by
 induction n:Ha m b 0 m.length 1 using bb with|nil=>rw[n]at j;exact nS j|cons i w=>rw[n]at j;exact aZ j▸Zx n
def Mw:∀f r g d,ma f r g=I d->mE C f r g c d:=by
 intro f r g d j;cases f<;>try exact nS j
 induction g using bb with
 |cons=>exact nS j
 |nil=>
  have i:=cw j;rw[bF i.1];exact i.2▸Zv
 induction g using bb with
 |nil=>
  have i:=cw j;rw[bF (aY i.1).1];exact i.2▸ZA (jt (aY i.1).2)
 |cons p k=>
  cases p<;>try exact nS j
  induction k using bb with
  |cons=>exact nS j
  |nil=>
   have i:=g8 j;rw[bF i.1];exact Zy i.2
  induction k using bb with
  |cons=>exact nS j
  |nil=>
   have i:=g8 j;rw[bF i.1];exact bK i.2 λa6 ag j=>(cw j).2▸Zz ag (cw j).1
 induction g using bb with
 |nil=>exact nS j
 |cons l k=>
 induction k using bb with
 |cons=>exact nS j
 |nil=>
  have i:=g8 j;rw[bF i.1];have aM:=g8 i.2;exact fm aM.2 λy s q=>q▸Zw (eS aM.1) s
end
section
variable{C:bS}{N:Nat}
set_option tactic.hygienic true in
def T'(j:d.length<=1000000):eg C (.builtin "len") [.list d] N (.int d.length):=by
 intro c k F aa D n B t q;cases n;rename_i x n;cases n;cases x;rename_i f aa r w b p;have y:=p.length;refine call_len_list (hS (X:=c) b) (by show((aa.length:Nat):Int)<_;rw[y];exact lA (gR.mpr j) z) ?_;have i:(((⟨aa⟩:Array ar).size:Nat):Int)=d.length:=by show((aa.length:Nat):Int)=_;rw[y]
 rw[i];exact q _ _ aw.tok<|.int _ _
set_option tactic.hygienic true in
def Ub(j:d.length<=1000000):eg C (.builtin "len") [.tuple d] N (.int d.length):=by
 intro c k F aa D n B t q;cases n;rename_i x n;cases n;cases x;rename_i f aa r w b p;have y:=p.length;refine len_tuple ⟨_,b,rfl,r,rfl⟩ (by show((aa.length:Nat):Int)<_;rw[y];exact lA (gR.mpr j) z) ?_;have i:(((⟨aa⟩:Array ar).size:Nat):Int)=d.length:=by show((aa.length:Nat):Int)=_;rw[y]
 rw[i];exact q _ _ aw.tok<|.int _ _
set_option tactic.hygienic true in
def Ua(j:m.length<=1000000):eg C (.builtin "len") [.str m] N (.int m.length):=by intro c k l aa e n d b q;cases n;rename_i a n;cases n;cases a;exact PySem.P.len_str (GH.mpr<|lA (gR.mpr j) z)<|q _ _ aw.tok<|.int _ _
set_option tactic.hygienic true in
def Uh:eg C (.builtin "ord") [.str ⟨#[a]⟩] N (.int a):=by intro b k l aa e n h j q;cases n;rename_i x n;cases n;cases x;exact PySem.P.ord_of_char<|q _ _ aw.tok<|.int _ _
set_option tactic.hygienic true in
def T8(h0:0<=c)(a:c<0x110000):eg C (.builtin "chr") [.int c] N (.str ⟨#[c.toNat]⟩):=by intro b k l aa e n h j q;cases n;rename_i x n;cases n;cases x;refine PySem.P.chr_of_int ?_<|q _ _ aw.tok<|.str _ _;have aJ:¬c<0:=ja.mpr h0;have dV:¬c>0x10FFFF:=ja.mpr<|Int.le_of_lt_add_one a;rw[decide_eq_false aJ,decide_eq_false dV];rfl
set_option tactic.hygienic true in
def T7:eg C (.builtin "abs") [.int f] N (.int<|if f<0 then -f else f):=by intro c k l aa e n h j q;cases n;rename_i x n;cases n;cases x;exact lG (cz l.toks)<|call_abs_int λi b w=>q _ _ (aw.tok w)<|.int _ _
set_option tactic.hygienic true in
def Uc:eg C (.builtin "max") [.int f,.int p] N (.int<|if p>f then p else f):=by intro c k l aa e n h j q;cases n;rename_i x n;cases n;rename_i m n;cases n;cases x;cases m;refine lG (cz l.toks)<|max_two_ints e.handled λd r y i=>?_;by_cases w:p>f;rw[if_pos w];rw[if_pos w]at q;exact q _ _ (aw.of_keep y i)<|.int _ _;rw[if_neg w];rw[if_neg w]at q;exact q _ _ (aw.of_keep y i)<|.int _ _
set_option tactic.hygienic true in
def Ue:eg C (.builtin "min") [.int f,.int p] N (.int<|if p<f then p else f):=by intro c k l aa e n h j q;cases n;rename_i x n;cases n;rename_i m n;cases n;cases x;cases m;refine lG (cz l.toks)<|min_two_ints e.handled λd r y i=>?_;by_cases w:p<f;rw[if_pos w];rw[if_pos w]at q;exact q _ _ (aw.of_keep y i)<|.int _ _;rw[if_neg w];rw[if_neg w]at q;exact q _ _ (aw.of_keep y i)<|.int _ _
set_option tactic.hygienic true in
def T9(d:p≠0)(ax:nr f p=av):eg C (.builtin "divmod") [.int f,.int p] N (.tuple [.int<|f.fdiv p,.int<|f.fmod p]):=by intro c k l aa e n h j q;cases n;rename_i x n;cases n;rename_i m n;cases n;cases x;cases m;exact divmod_int d (q _ _ (aw.push (eV:=l.toks+1+1))<|.tuple e.fresh (fs _ rfl)<|.cons (.int _ _)<|.cons (.int _ _) .nil)<|.inl ax
set_option tactic.hygienic true in
def T_(d:oo a=.fin b r i):eg C (.type "int") [.float a] N (.int<|Hf b r i):=by intro c k l aa p n h j q;cases n;rename_i f n;cases n;cases f;exact call_int_float d<|q _ _ aw.tok<|.int _ _
set_option tactic.hygienic true in
def Ul(G:c.length<=1000000):eg C (.type "tuple") [.list c] N (.tuple c):=by intro D k b aa e n F j q;cases n;rename_i x n;cases n;cases x;rename_i f aa r w i p;have B:=p.length;refine call_tuple_list (hS (X:=D) i) (λd y=>?_) (by show aa.length<=_;rw[hT];exact ao (bQ o)<|ao o z);have ee:aw C b {b with heap:=d}:=aw.of_keep (eV:=b.toks) y;have t:aw C {b with heap:=d} {b with heap:=d.push {cls:=.type "tuple",data:=.seq ⟨aa⟩}}:=aw.push (s:={b with heap:=d}) (eV:=b.toks);exact q _ _ (ee.trans t)<|.tuple (e.ext ee).fresh (fs _ rfl)<|(e.ext ee).gn t<|e.gn ee p
def XS:∀{a6:List Int}{aa:List ar},qZ f=I a6->RzL c j aa f->∃y:List (Int×Tok),aa=y.map (λB=>bN B.1 B.2)/\y.map (·.1)=a6:=by
 induction f with
 |nil=>exactλi w=>w.nK λq=>aZ i▸⟨[],q,rfl⟩
 |cons d f g=>
  intro a6 aa i w;obtain⟨m,E,s,A,bU⟩:=z9 i;refine w.cK λF n C D q=>?_;obtain⟨y,ax,bJ⟩:=g A D;cases d<;>try exact nS s
  exact C.iK λk jk=>⟨(m,k)::y,by rw[q,jk,ax,aZ s];rfl,by rw[bU,<-bJ];rfl⟩
theorem N3:∀a6:List Int,lq a6=a6.sum|[]=>rfl|x::w=>by rw[lq,N3 w,j']
set_option tactic.hygienic true in
def Uk{a6:List Int}(j:qZ d=I a6):eg C (.builtin "sum") [.list d] N (.int<|lq a6):=by intro c k B aa e n K J q;cases n;rename_i x n;cases n;cases x;rename_i f aa G F b p;obtain⟨r,rfl,rfl⟩:=XS j p;have i:B.heap.IsList f (intItems r.toArray):=⟨_,b,rfl,G,by simp[intItems]⟩;refine lG (cz B.toks)<|sum_intListG e.handled i λD H t y w=>?_;rw[preSum_eq,Pq<|by simp];rw[N3]at q;simpa using q (.int (r.map (·.1)).sum t) _ (aw.of_keep y w)<|.int _ _
set_option tactic.hygienic true in
def Ui(d:oo a=.fin b r i):eg C (.builtin "round") [.float a] N (.int<|x1 b r i):=by intro c k l aa p n w t q;cases n;rename_i f n;cases n;cases f;have aC:PySem.Flt.toInt x1 a=x1 b r i:=PySem.Flt.toInt_fin d;refine PySem.Flt.call_round_float p.handled (λj=>?_) (λj=>?_) ?_;unfold af_ at j;rw[d]at j;cases j;unfold gT at j;rw[d]at j;cases j;rw[aC];exactλZ=>q _ _ aw.tok<|.int _ _
def Wn{e:Array ar}{y:Nat->UInt64}(C:∀(c:Nat)(a:ar),e[c]?=I a->∃q:Tok,a=qP (y c) q):CmpOf d n k .Gt (λc a=>e[c]?=I a) (λc B=>gI (y c) (y B)==I G'):=by intro c B bx g l H G b p r;obtain⟨q,rfl⟩:=C c bx b;obtain⟨D,rfl⟩:=C B g p;exact agN (op:=.Gt) (HJ l _ q) (HJ l _ D) PySem.F.slot_float_gt PySem.F.entry_float_gt (PySem.F.args_float_gt_2 _ _) (ag8 _ q _ D) (λm=>nomatch m) r
def Wo{e:Array ar}{y:Nat->UInt64}(C:∀(c:Nat)(a:ar),e[c]?=I a->∃q:Tok,a=qP (y c) q):CmpOf d n k .Lt (λc a=>e[c]?=I a) (λc B=>gI (y c) (y B)==I om):=by intro c B bx g l H G b p r;obtain⟨q,rfl⟩:=C c bx b;obtain⟨D,rfl⟩:=C B g p;exact agN (op:=.Lt) (HJ l _ q) (HJ l _ D) PySem.F.slot_float_lt PySem.F.entry_float_lt (PySem.F.args_float_lt_2 _ _) (ag9 _ q _ D) (λm=>nomatch m) r
set_option tactic.hygienic true in
def Ud:eg C (.builtin "max") [.float f,.float p,.float B] N (.float<|hQ f p B<|x6 (λi Y=>gI (hQ f p B i) (hQ f p B Y)==I G') 2):=by
 intro ad T l aa U J ac ab q;cases J;rename_i P J;cases J;rename_i R J;cases J;rename_i S J;cases J;cases P;rename_i bW mY;cases R;rename_i cn i1;cases S;rename_i e0 tU;have F:∀(i:Nat)(D:ar),(#[qP f bW,.float p cn,.float B e0]:Array ar)[i]?=I D->∃k:Tok,k≠0/\D=qP (hQ f p B i) k:=by intro i D m;match i,m with|0,m=>simp at m;exact⟨bW,mY,m.symm⟩|1,m=>simp at m;exact⟨cn,i1,m.symm⟩|2,m=>simp at m;exact⟨e0,tU,m.symm⟩|i+3,m=>simp at m
 have O:=λi D m=>(F i D m).imp λk V=>V.2;refine lG (cz l.toks) ?_;have K:(l.heap.push {cls:=.type "tuple",data:=.seq #[.float f bW,.float p cn,.float B e0]}).IsTuple l.heap.objs.size #[.float f bW,.float p cn,.float B e0]:=⟨_,fs _ rfl,rfl,0,rfl⟩;refine call_max_three<|QF K ?_;have n:(l.heap.push {cls:=.type "tuple",data:=.seq #[.float f bW,.float p cn,.float B e0]}).objs.size=l.heap.objs.size+1:=qN ..;refine⟨_,[_,l.heap.objs.size],[_],_,_,_,_,rfl,P9 (A:=T.in1) U.handled _ l.heap.objs.size (by rw[n];exact f'<|fS _) #[.float f bW,.float p cn,.float B e0],⟨⟨_,fs _ rfl,rfl,rfl⟩,K.push _⟩,λd r=>?_,by simp,Wn O,λD W Z G y w=>?_⟩;show d<((l.heap.push _).push _).objs.size;rw[qN,n];rcases c9.mp r with rfl|r;rw[n];exact fS _;rcases c9.mp r with rfl|r;exact xS<|fS _;cases r;obtain⟨k,H,rfl⟩:=F _ _ G;refine q _ _ (aw.of_keep (λd M L=>?_) w)<|.float _ _ H;refine y d M (λx=>?_)<|fA _<|fA _ L;rcases c9.mp x with aC|x;have:=il L;rw[aC,n]at this;exact qG _<|G3 this;cases x
set_option tactic.hygienic true in
def Ug:eg C (.builtin "min") [.float f,.float p,.float B] N (.float<|hQ f p B<|x6 (λi Y=>gI (hQ f p B i) (hQ f p B Y)==I om) 2):=by
 intro ad T l aa U J ac ab q;cases J;rename_i P J;cases J;rename_i R J;cases J;rename_i S J;cases J;cases P;rename_i bW mY;cases R;rename_i cn i1;cases S;rename_i e0 tU;have F:∀(i:Nat)(D:ar),(#[qP f bW,.float p cn,.float B e0]:Array ar)[i]?=I D->∃k:Tok,k≠0/\D=qP (hQ f p B i) k:=by intro i D m;match i,m with|0,m=>simp at m;exact⟨bW,mY,m.symm⟩|1,m=>simp at m;exact⟨cn,i1,m.symm⟩|2,m=>simp at m;exact⟨e0,tU,m.symm⟩|i+3,m=>simp at m
 have O:=λi D m=>(F i D m).imp λk V=>V.2;refine lG (cz l.toks) ?_;have K:(l.heap.push {cls:=.type "tuple",data:=.seq #[.float f bW,.float p cn,.float B e0]}).IsTuple l.heap.objs.size #[.float f bW,.float p cn,.float B e0]:=⟨_,fs _ rfl,rfl,0,rfl⟩;refine call_min_three<|QF K ?_;have n:(l.heap.push {cls:=.type "tuple",data:=.seq #[.float f bW,.float p cn,.float B e0]}).objs.size=l.heap.objs.size+1:=qN ..;refine⟨_,[_,l.heap.objs.size],[_],_,_,_,_,rfl,P9 (A:=T.in1) U.handled _ l.heap.objs.size (by rw[n];exact f'<|fS _) #[.float f bW,.float p cn,.float B e0],⟨⟨_,fs _ rfl,rfl,rfl⟩,K.push _⟩,λd r=>?_,by simp,Wo O,λD W Z G y w=>?_⟩;show d<((l.heap.push _).push _).objs.size;rw[qN,n];rcases c9.mp r with rfl|r;rw[n];exact fS _;rcases c9.mp r with rfl|r;exact xS<|fS _;cases r;obtain⟨k,H,rfl⟩:=F _ _ G;refine q _ _ (aw.of_keep (λd M L=>?_) w)<|.float _ _ H;refine y d M (λx=>?_)<|fA _<|fA _ L;rcases c9.mp x with aC|x;have:=il L;rw[aC,n]at this;exact qG _<|G3 this;cases x
inductive vv:Nat->af->PyData->Prop
 |bool (n b):vv n (.bool b) (.bool b)
 |int (n) {i} (h:i.natAbs<2^200):vv n (.int i) (.int i)
 |list {n l bV} (h:hP (iv n) l=some bV):vv (n+1) (.list l) (.list bV)
 |tuple {n l bV} (h:hP (iv n) l=some bV):vv (n+1) (.tuple l) (.tuple bV)
def AZ(i:iv y d=I s):vv y d s:=by induction y using cN<;>cases d<;>first|exact nS i|exact aZ i▸.bool _ _|exact(cw i).2▸.int _ (of_decide_eq_true (cw i).1)|exact fm i λr j i=>i▸.list j|exact fm i λr j i=>i▸.tuple j
def Nh(A:∀d s t,y d=I s->Rz c j t d->∃x,Reads j t s x):∀{a:List BJ}{aa:List ar},hP y b=I a->RzL c j aa b->∃x,ReadsAll j aa a x:=by
 induction b with
 |nil=>exactλi B=>B.nK λq=>by subst q;exact aZ i▸⟨[],.nil⟩
 |cons d b g=>
  exactλi B=>(z9 i).elim λs n=>n.elim λF n=>B.cK λt aa C m q=>(A _ _ _ n.1 C).elim λx D=>(g n.2.1 m).elim λk E=>by rw[n.2.2,q];exact⟨x++k,.cons D E⟩
def abB:∀{d:af}{s:BJ}{t:ar},iv y d=I s->Rz c j t d->∃x,Reads j t s x:=by
 induction y with
 |zero=>
  intro d s t i w;cases AZ i with|bool=>cases w;exact⟨_,.bool _⟩|int=>cases w;exact⟨_,.int _ _⟩
 |succ y g=>
  intro d s t i w;cases AZ i with|bool=>cases w;exact⟨_,.bool _⟩|int=>cases w;exact⟨_,.int _ _⟩|list k=>exact w.lK λf aa B A b q i=>i▸(Nh (λd s t=>g) k q).elim λx l=>⟨_::x,.list b rfl rfl l⟩|tuple k=>exact w.tK λf aa B A b q i=>i▸(Nh (λd s t=>g) k q).elim λx l=>⟨x,.tuple b rfl rfl l⟩
structure yl(n:Nat)(d:af)(p:PyData):Prop where
 NM:p.showable=true
 dict:p.hasDict=false
 deep:p.depth<=n
 len:p.shown.length<=jq n d
theorem F'(j:∀d q,h d=I q->yl y d q):∀{g:List af}{r:List BJ},hP h g=I r->P2 r=ah/\PZ r=av/\PY r<=y/\((Hj r).map (·.length)).sum+2*(Hj r).length+3<=pj (jq y) g
 |[],r,i=>by cases i;exact⟨by simp[P2],by simp[PZ],by simp[PY],by simp[Hj,pj]⟩
 |d::g,r,i=>by
  obtain⟨q,B,s,m,rfl⟩:=z9 i
  obtain⟨w,x,A,i⟩:=F' j m
  have k:=j _ _ s
  refine⟨by simp[P2,w,k.NM],by simp[PZ,x,k.dict],?_,?_⟩
  simp only[PY]
  exact Nat.max_le.mpr ⟨k.deep,A⟩
  have:=k.len
  simp only[Hj,c8,j',gG,pj]
  omega
def Oi(j:c.natAbs<2^200)(r:202<=jq y d):yl y d (.int c):=by
 have a:c.natAbs.log2<201:=by by_cases h0:c.natAbs=0;rw[h0];decide;exact xS<|(G2 h0).mpr j
 refine⟨by simp only[P1,decide_eq_true_eq];exact cq o z,rfl,cO _,?_⟩;have:=int_text_length_le (k:=201) z a;have b:(Hi<|.int c).length=(toString c).length:=by show(bM<|toString c).length=_;exact PySem.ofString_length _
 rw[b];exact ao o o
def Oh(r:202<=jq y d):yl y d (.bool p):=by
 refine⟨rfl,rfl,cO _,?_⟩;have:(Hi<|.bool p).length<=5:=by cases p<;>decide
 exact ao this<|ao z r
def ads:∀{d:af}{s:BJ},iv y d=I s->yl y d s:=by
 induction y with
 |zero=>
  intro d s i;cases AZ i with|bool=>exact Oh (cz 202)|int _ j=>exact Oi j<|cz 202
 |succ y g=>
  intro d s i;cases AZ i with
  |bool=>exact Oh<|cz 202
  |int _ j=>exact Oi j<|cz 202
  |list k=>
   obtain⟨f,l,m,i⟩:=F' (λd s=>g) k;refine⟨by simp[P1,f],by simp[age,l],by simp only[agd];exact hC o,?_⟩;simp only[Hi];exact ao (PySem.listText_len_le _) i
  |tuple k=>
   obtain⟨f,l,m,i⟩:=F' (λd s=>g) k;refine⟨by simp[P1,f],by simp[age,l],by simp only[agd];exact hC o,?_⟩;simp only[Hi];exact ao (PySem.tupleText_len_le _) i
set_option tactic.hygienic true in
def Uj(j:iv 6 (.list d)=I b)(L:jq 6 (.list d)<=16000000):eg C (.type "str") [.list d] N (.str b.shown):=by intro c P O aa G n S R q;cases n;rename_i x n;cases n;obtain⟨H,F⟩:=abB j x;have B:=ads j;cases x;rename_i T aa r K D M;refine lG (cz O.toks)<|str_of_reads F B.NM (PyData.noDict_hsm B.dict) G.guards ?_ (λZ Z i=>i) (λJ U f y w=>q _ _ (aw.of_keep y w)<|.str _ _) ?_;have:=B.deep;exact b4 (hB (ao (qE this 3) z) _)<|G.rR (k:=20) z;have:=B.len;rw[hT];exact ao o<|ao o z
structure je(C:bS):Prop where
 len:cB C "len" (.builtin "len")
 ord:cB C "ord" (.builtin "ord")
 chr:cB C "chr" (.builtin "chr")
 str:cB C "str" (.type "str")
 sum:cB C "sum" (.builtin "sum")
 max:cB C "max" (.builtin "max")
 min:cB C "min" (.builtin "min")
 abs:cB C "abs" (.builtin "abs")
 round:cB C "round" (.builtin "round")
 int:cB C "int" (.type "int")
 tuple:cB C "tuple" (.type "tuple")
 divmod:cB C "divmod" (.builtin "divmod")
 range:cB C "range" (.type "range")
 enum:cB C "enumerate" (.type "enumerate")
 zip:cB C "zip" (.type "zip")
 rev:cB C "reversed" (.type "reversed")
 list:cB C "list" (.type "list")
def kS(C:bS)(N:Nat)(s:au×(List af->Option af)):Prop:=∀g d,s.2 g=I d->∃t,cB C s.1 t/\eO C t/\eg C t g N d
def k7(id:String):eO C (.builtin id):=eO.blt id
def iS(y:String):eO C (.type y):=eO.typ y
def aac(q:je C):kS C N ("len",iB):=by
 intro g d j;induction g using bb with
 |nil=>exact nS j
 |cons f k=>
 cases f<;>try exact nS j
 induction k using bb with|cons=>exact nS j|nil=>have i:=cw j;exact⟨_,q.len,k7 _,i.2▸Ua (eS i.1)⟩
 induction k using bb with|cons=>exact nS j|nil=>have i:=cw j;exact⟨_,q.len,k7 _,i.2▸Ub (eS i.1)⟩
 induction k using bb with|cons=>exact nS j|nil=>have i:=cw j;exact⟨_,q.len,k7 _,i.2▸T' (eS i.1)⟩
set_option tactic.hygienic true in
def aaf(q:je C):kS C N ("ord",Jr):=by
 intro g d j;induction g using bb with
 |nil=>exact nS j
 |cons f k=>
 cases f<;>try exact nS j
 rename_i m;obtain⟨⟨b⟩⟩:=m;induction b using bb with
 |nil=>exact nS j
 |cons e b=>
 induction b using bb with
 |cons=>exact nS j
 |nil=>
 induction k using bb with|cons=>exact nS j|nil=>exact⟨_,q.ord,k7 _,aZ j▸Uh⟩
def Z'(q:je C):kS C N ("chr",y4):=by
 intro g d j;induction g using bb with
 |nil=>exact nS j
 |cons f k=>
 cases f<;>try exact nS j
 induction k using bb with
 |cons=>exact nS j
 |nil=>
 have i:=cw j;exact⟨_,q.chr,k7 _,i.2▸T8 (of_decide_eq_true (aY i.1).1) (of_decide_eq_true (aY i.1).2)⟩
def aah(q:je C):kS C N ("str",lH):=by
 intro g d j;induction g using bb with
 |nil=>exact nS j
 |cons f k=>
 cases f<;>try exact nS j
 induction k using bb with
 |cons=>exact nS j
 |nil=>
 refine bK j λs ax j=>?_;have i:=cw j;exact⟨_,q.str,iS _,i.2▸Uj ax (eS i.1)⟩
def aai(q:je C):kS C N ("sum",vJ):=by
 intro g d j;induction g using bb with
 |nil=>exact nS j
 |cons f k=>
 cases f<;>try exact nS j
 induction k using bb with
 |cons=>exact nS j
 |nil=>
 exact fm j λa6 ag i=>⟨_,q.sum,k7 _,i▸Uk ag⟩
def aad(q:je C):kS C N ("max",Jp):=by
 intro g d j;induction g using bb with
 |nil=>exact nS j
 |cons f k=>
 cases f<;>try exact nS j
 ·induction k using bb with
  |nil=>exact nS j
  |cons p k=>
  cases p<;>try exact nS j
  induction k using bb with|cons=>exact nS j|nil=>exact⟨_,q.max,k7 _,aZ j▸Uc⟩
 induction k using bb with
 |nil=>exact nS j
 |cons p k=>
 cases p<;>try exact nS j
 induction k using bb with
 |nil=>exact nS j
 |cons p k=>
 cases p<;>try exact nS j
 induction k using bb with|cons=>exact nS j|nil=>exact⟨_,q.max,k7 _,aZ j▸Ud⟩
def aae(q:je C):kS C N ("min",Jq):=by
 intro g d j;induction g using bb with
 |nil=>exact nS j
 |cons f k=>
 cases f<;>try exact nS j
 ·induction k using bb with
  |nil=>exact nS j
  |cons p k=>
  cases p<;>try exact nS j
  induction k using bb with|cons=>exact nS j|nil=>exact⟨_,q.min,k7 _,aZ j▸Ue⟩
 induction k using bb with
 |nil=>exact nS j
 |cons p k=>
 cases p<;>try exact nS j
 induction k using bb with
 |nil=>exact nS j
 |cons p k=>
 cases p<;>try exact nS j
 induction k using bb with|cons=>exact nS j|nil=>exact⟨_,q.min,k7 _,aZ j▸Ug⟩
def Z_(q:je C):kS C N ("abs",HV):=by
 intro g d j;induction g using bb with
 |nil=>exact nS j
 |cons f k=>
 cases f<;>try exact nS j
 induction k using bb with
 |cons=>exact nS j
 |nil=>
 exact⟨_,q.abs,k7 _,aZ j▸T7⟩
set_option tactic.hygienic true in
def aag(q:je C):kS C N ("round",kn):=by
 intro g d j;induction g using bb with
 |nil=>exact nS j
 |cons f k=>
 cases f<;>try exact nS j
 induction k using bb with
 |cons=>exact nS j
 |nil=>
 rename_i l;replace j:(match oo l with
  |.fin b r i=>I<|af.int<|x1 b r i
  |_=>ai)=I d:=j
 cases c:oo l with|fin=>rw[c]at j;exact⟨_,q.round,k7 _,aZ j▸Ui c⟩|_=>rw[c]at j;exact nS j
set_option tactic.hygienic true in
def aab(q:je C):kS C N ("int",ym):=by
 intro g d j;induction g using bb with
 |nil=>exact nS j
 |cons f k=>
 cases f<;>try exact nS j
 induction k using bb with
 |cons=>exact nS j
 |nil=>
 rename_i l;replace j:(match oo l with
  |.fin b r i=>I<|af.int<|Hf b r i
  |_=>ai)=I d:=j
 cases c:oo l with|fin=>rw[c]at j;exact⟨_,q.int,iS _,aZ j▸T_ c⟩|_=>rw[c]at j;exact nS j
def aaj(q:je C):kS C N ("tuple",Jt):=by
 intro g d j;induction g using bb with
 |nil=>exact nS j
 |cons f k=>
 cases f<;>try exact nS j
 induction k using bb with
 |cons=>exact nS j
 |nil=>
 have i:=cw j;exact⟨_,q.tuple,iS _,i.2▸Ul (eS i.1)⟩
def aaa(q:je C):kS C N ("divmod",y5):=by
 intro g d j;induction g using bb with
 |nil=>exact nS j
 |cons f k=>
 cases f<;>try exact nS j
 induction k using bb with
 |nil=>exact nS j
 |cons p k=>
 cases p<;>try exact nS j
 induction k using bb with|cons=>exact nS j|nil=>have i:=cw j;exact⟨_,q.divmod,k7 _,i.2▸T9 (bne_iff_ne.mp (aY i.1).1) (jt (aY i.1).2)⟩
def hi{s:Type}{r:s->Prop}{f:s}{d:List s}(j:r f)(k:∀m∈d,r m):∀m∈f::d,r m:=ae2.mpr ⟨j,k⟩
def vD{s:Type}{r:s->Prop}:∀m∈([]:List s),r m:=λm j=>absurd j lE
def T6(q:je C):∀s∈vO,kS C N s:=hi (aac q)<|hi (aaf q)<|hi (Z' q)<|hi (aah q)<|hi (aai q)<|hi (aad q)<|hi (aae q)<|hi (Z_ q)<|hi (aag q)<|hi (aab q)<|hi (aaj q)<|hi (aaa q) vD
def Ju(q:je C):∀y a d,jO y a=I d->∃t,cB C y t/\eO C t/\eg C t a N d:=by intro y a d j;exact bK j λe r j=>T6 q _ (mem_of_lookup r) a d j
structure HQ(C:bS)(c:Addr)(rE:Str->Option Value):Prop where
 obj:∀h,C.fb h->∃nm q N bs sn sub col Ve gO wo d5 ky Yt newId,h.get? c=some (excClassObj nm q c N bs [.type "object"] true sn sub false col Ve gO wo d5 ky Yt newId)/\h.Ns N rE
 ga:rE "__getattribute__"=none
 ge:rE "__getattr__"=none
def RK(C:bS)(b:mJ):Prop:=∀a m d,b.h9 a m=I d->∃t,cB C a t/\∀(c:aF->Prop)(k:ef)(y:Nat)(l:aB),bf C c k y l->∀(h:ar->aB->Prop)(j:ar->aB->Prop),(∀i ae,aw C l ae->Rz c ae.heap i d->h i ae)->aL (aQ C.prog C.w) k (x9 t m ah) h j l
structure nE(C:bS)(L:mJ)(N:Nat)(rE:Str->Option Value):Prop where
 blt:je C
 cls:HQ C L.cls rE
 fns:∀f F,L.fns.lookup f=some F->∃a,cB C f (.ref a)/\eB C a F.sc F.params F.body
 o6:∀m F,L.o6.lookup m=some F->∃a,rE m=some (.ref a)/\eB C a F.sc F.params F.body/\∃y,typeLookup (.type "object") m=pure y
 attrs:∀x,L.attrs.contains x=true->rE x=none/\typeLookup (.type "object") x=pure none
 hand:∀f ds d,L.hand f ds=some d->∃v,cB C f v/\eO C v/\eg C v ds N d
 la:∀f l ds d,L.la f l ds=some d->∃v,cB C f v/\eO C v/\q7 C v l ds N d
 const:∀x d,L.const x=some d->∃v,cB C x v/\∀X h,Rz X h v d
 h9:RK C L
def dh.find{B:aF->Prop}{C:cP}{x:au}{b:List ff}{p:List (au×af)}(q:dh B C b p):match p.lookup x with
  |some d=>∃f,(b.find? λl=>l.key.isStr x).map (·.val)=some f/\Rz B C f d
  |none=>(b.find? λl=>l.key.isStr x).map (·.val)=none:=by
 induction q using dh.ind with
 |n=>rfl
 |@c i a k f b d p w j g=>
  have s:(agu a k).isStr x=(a==x):=rfl;by_cases l:a=x;subst l;simp only[ey,beq_self_eq_true,aeY,s];exact⟨f,rfl,w⟩;have A:(a==x)=av:=by simpa using l
  have m:(x==a)=av:=by simpa usingλq=>l q.symm
  simp only[ey,m,aeY,s,A];exact g
def dh.keys(q:dh k j f p):(∀C∈f,∃n G,C.key=.str n G/\n∈p.map (·.1))/\(o1 (p.map (·.1))=ah->f.Pairwise λH D=>∀n,H.key.isStr n=ah->D.key.isStr n=ah->False):=by
 induction q using dh.ind with
 |n=>exact⟨λC x=>(by cases x),λ_=>aeP⟩
 |@c I g G K f d p w J F=>
  obtain⟨s,l⟩:=F;refine⟨λC x=>?_,λA=>?_⟩;rcases c9.mp x with rfl|x;exact⟨g,G,rfl,by simp⟩;obtain⟨n,B,aC,aM⟩:=s C x;exact⟨n,B,aC,by simp;exact .inr<|by simpa using aM⟩;rw[c8]at A;unfold o1 at A;simp only[bY,ew,hA,decide_eq_false_iff_not]at A;refine ag5 (λD E n aC aM=>?_)<|l A.2;obtain⟨i,B,bU,bJ⟩:=s D E;have aC:(g==n)=ah:=aC;rw[bU]at aM;have aM:(i==n)=ah:=aM;have:=bF aC;have:=bF aM;subst_vars;exact A.1 bJ
def Nv{D cG g:aF}(A:j.get? D=I (mB g cG))(q:j.get? cG=I ⟨.type "dict",ai,.dict ⟨b⟩ y,#[]⟩)(w:dh d j b p)(B:o1 (p.map (·.1))=ah):j.Inst D g (λF=>(b.find? λi=>i.key.isStr F).map (·.val)):=by obtain⟨s,l⟩:=w.keys;refine⟨_,A,rfl,λg i=>(by cases i),.inr ⟨cG,rfl,λi=>?_,_,⟨b⟩,_,q,rfl,λi f=>?_,l B,λC=>?_⟩⟩;rw[i,A]at q;simp[mB]at q;obtain⟨E,k,aC,Z⟩:=s i (by simpa using f);exact⟨E,k,aC⟩;unfold ir findBy;simp
def abX(w:Rz c j t d):handedOut t=bq t:=by cases w<;>rfl
set_option tactic.hygienic true in
def IX(K:nE C b N al):∀f G d,HU b f G=I d->pN C (λt=>x9 t G ah) f d:=by
 intro f G d j;cases f<;>try exact nS j
 rename_i Y ac;obtain⟨w,H⟩:=g8 j;clear j;simp only[bY]at w;have y:Y=b.cls:=Px w.1.1;subst y;intro ap am ar l t e aj ao an q;cases aj with
 |@obj f cG Z ab aq V af J O P D=>
 obtain⟨ag,ai,U,W,ak,gJ,T,aa,gO,ad,d5,ky,ae,p,M,R⟩:=K.cls.obj _ e.ok;obtain⟨k,i⟩:=K.attrs G w.1.2;have B:=D.find (x:=G);rw[H]at B;obtain⟨t,S,F⟩:=B;have ee:aw C l {l with toks:=l.toks+1}:=aw.tok;exact load_attr M R K.cls.ga k i (Nv O P D w.2) S (abX F)<|q t _ ee<|e.mono ee F
def eg.mono(t:eg C y a b d)(x:b<=r):eg C y a r d:=λc k l aa e i p j q=>t c k l aa (e.fuel x) i p j q
def q7.mono(H:q7 C y c b e d)(x:e<=r):q7 C y c b r d:=λD w I F aa t k G aC aM bU i p B j q=>H D w I F aa t k (G.fuel x) aC aM bU i p B j q
def KS(K:nE C d N b){aU:List aP}(t:eB C f j r aU):eO C (.ref f):=eO.fn λc g=>by obtain⟨x,i,aC,aM,Z⟩:=t.cls c g;exact⟨x,i,aC,aM⟩
def Ar(K:nE C a N b):dv C (t6 a) N where
 bin:=yV
 un:=OA
 cmp:=JH
 truth:=Ol
 item:=LX
 slice:=NR
 attr:=IX K
 e':=Mw
 call:=λy g d j=>by have j:gE (jO y g) (a.hand y g)=I d:=j;unfold gE at j;split at j;rename_i i;cases j;exact Ju K.blt y g _ i;exact K.hand y g d j
 const:=K.const
 aug:=I0
 cat:=Jz
 move:=K.la
 h9:=K.h9
 range:=K.blt.range
 enum:=K.blt.enum
 zip:=K.blt.zip
 rev:=K.blt.rev
 list:=K.blt.list
def abS(K:nE C f N as)(R:dv C al k)(D:Ca f al e j p b i=I d):mE C (.obj j p) b i (k+1) d:=by
 unfold Ca at D;split at D;case isFalse=>cases D
 rename_i w;simp only[bY]at w;have G:j=f.cls:=Px w.1.1;subst G;rw[mz]at D;obtain⟨ae,S,D⟩:=D;obtain⟨aE,T,B,aI,W⟩:=K.o6 b ae S;refine⟨[.obj f.cls p],λaD az aF ad aG aW ab ac aB aA q=>?_⟩;have Y:=ac;cases ac with
 |@obj aH cG Z am ao ah ar J ag U M=>
 obtain⟨au,ax,af,aj,ay,gJ,aa,ak,gO,ap,d5,ky,aq,P,l,V⟩:=K.cls.obj _ ab.ok;obtain⟨av,an,aC,aM,bU⟩:=B.cls _ ab.ok;have H:=M.find (x:=b);have t:p.lookup b=ai:=by simpa using w.1.2
 rw[t]at H;exact method_of l V K.cls.ga K.cls.ge T aC bU W (Nv ag U M w.2) H<|q _ _ ad (aw.refl ad) (KS K B) (.cons Y .nil)<|Ft R B D
set_option tactic.hygienic true in
def aaG(K:nE C j N p)(B:N<=k+1)(A:dv C n k):dv C (MO j i n) (k+1)where
 bin:=yV
 un:=OA
 cmp:=JH
 truth:=Ol
 item:=LX
 slice:=NR
 attr:=IX K
 e':=λs r g d q=>by
  cases s;case obj D M=>exact abS K A q
  all_goals exact Mw _ r g d q
 call:=λy g d q=>by have q:gE (jO y g) (gE (j.hand y g)<|(j.fns.lookup y).bind λt=>m4 n t.own t.sc t.params t.body i g)=I d:=q;unfold gE at q;split at q;rename_i G;cases q;exact Ju K.blt y g _ G;split at q;rename_i G;cases q;obtain⟨J,s,E,D⟩:=K.hand y g _ G;exact⟨J,s,E,D.mono B⟩;rw[mz]at q;obtain⟨t,w,q⟩:=q;obtain⟨s,H,x⟩:=K.fns y t w;exact⟨.ref s,H,KS K x,Ft A x q⟩
 const:=K.const
 aug:=I0
 cat:=Jz
 move:=λy P g d q=>by obtain⟨J,s,E,D⟩:=K.la y P g d q;exact⟨J,s,E,D.mono B⟩
 h9:=K.h9
 range:=K.blt.range
 enum:=K.blt.enum
 zip:=K.blt.zip
 rev:=K.blt.rev
 list:=K.blt.list
theorem MP(K:nE C d N a):∀k,dv C (E1 d e k) (N+k)|0=>Ar K|k+1=>aaG K (cv N<|k+1)<|MP K k
end
noncomputable abbrev cH:sv:=ahj
def aU:List aP:=cH.main.body
noncomputable def aN(a:List aP)(c:Nat):aP:=(a.drop c).head?.getD<|Stmt.Pass ie
noncomputable def iC(i:aP):List aP:=if j:i.ctorIdx=2 then ahn (motive_2:=λZ=>List aP) i j λZ Z Z p Z Z Z Z Z Z Z=>p else[]
def k2(i:aP):PK:=(A9 i).elim ie (·.2.1)
def bp(i:aP):List aP:=(A9 i).elim [] (·.2.2.1)
def b9(i:aP):gW:=(A9 i).elim ie (·.2.2.2.2.2.2.1)
def vS(st:aP):List (Option aq):=((i_ st).bind (Gm ·.2.1)).elim [] (·.1)
def vT(st:aP):List aq:=((i_ st).bind (Gm ·.2.1)).elim [] (·.2.1)
def J4(i:aP):List aq:=(i_ i).elim [] (·.1)
def Vd(i:aP):aq:=(i_ i).elim ie (·.2.1)
noncomputable def vG(d:List Int):Bool:=(d.zip d.tail).all λs=>decide (s.1<s.2)
def CA(j:vG (f::p::w)=ah):(decide (f<p)&&vG (p::w))=ah:=j
def Zl{d:List Int}:∀{f:Int},vG (f::d)=ah->∀p∈d,f<p:=by
 induction d with
 |nil=>exactλ_ p q=>nomatch q
 |cons k w g=>
  intro f j p q;have s:=of_decide_eq_true (aY<|CA j).1;exact(c9.mp q).elim (λi=>i▸s) λq=>GC s<|g (aY<|CA j).2 p q
def Z3{l:List Int}(h:vG l=true):l.Nodup:=by
 induction l with
 |nil=>exact List.nodup_nil
 |cons a r tv=>
  refine List.nodup_cons.mpr ⟨λhm=>Int.lt_irrefl a<|Zl h a hm,tv ?_⟩;clear tv;induction r using bb with|nil=>rfl|cons b r=>exact(aY<|CA h).2
def Yu(i:Option aq):Int:=(i.bind wk).getD 0
def QZ(i:aq):au:=(ph i).getD Str.empty
noncomputable def l_:Life:={}
def iV:aP:=aN aU 4
def th:List (Int×au):=((vS iV).zip<|vT iV).map λm=>(Yu m.1,QZ m.2)
def yn(c:Nat):List (Int×au):=(th.drop<|17*c).take 17
def rp:List (Int×au):=yn 0
def jj:List (List<|Int×au):=(aH 37).map λc=>yn<|c+1
def nP:List (Int×au):=th.drop 646
def ji(e:Nat->Option cQ):dQ:=((dQ.mk (c0 e 40<|b3 (eF 263 rp) 17) 41 314 17<|eF 263 rp).run 40 jj).last 40 nP
def te:List ff:=(ji λ_=>ai).bA
def y_:cQ:=b3 te (ji λ_=>ai).k
def J2(c:Nat):cQ:=b3 (eF (263+51*c)<|yn c) 17
def J3:cQ:=b3 (iJ (263+51*38) nP) nP.length
noncomputable def aa(m:String)(k:Nat):ar:=.str (bM m) k
noncomputable def bx(f:Int):ar:=.int f 0
noncomputable def bw(f:Nat):ar:=.ref f
def cF(r:bL)(m:String)(k:Nat)(a:ar):ff:=.mk (P0 r<|bM m) (aa m k) a
noncomputable def Oo(d:Array ar):bL->cQ:=λ_=>gV (gb "tuple") ai (Hc d 0) #[]
noncomputable def p2(d:Array ar):bL->cQ:=λ_=>gV dS ai (lF d) #[]
noncomputable def tf(d:Array ar):bL->cQ:=λ_=>gV (gb "code") ai (lF d) #[]
noncomputable def C9(d:Array ff)(y:Nat):cQ:=gV (gb "dict") ai (Data.dict d y) #[]
def K1(a:ar)(y q:String)(st:aP)(e:Nat)(r k:ar):bL->cQ:=λ_=>gV a ai (Data.func {name:=bM y,qualname:=bM q,params:=k2 st,body:=FuncBody.stmts<|bp st,scope:=b9 st,globals:=e,closure:=[],defaults:=dS,kwdefaults:=dS,doc:=dS,pyModule:=r,annotations:=ai,code:=k,closureTuple:=dS,builtins:=0}) #[]
def fY(y q:String)(st:aP):bL->cQ:=K1 .none y q st 0 .none .none
def fD(y q:String)(st:aP)(r:ar)(k:Nat):bL->cQ:=K1 (.type "function") y q st 3 r<|bw k
def yo(s:String)(h:Nat)(q:String)(p g:Nat)(e k j:Int)(A m:Nat)(B t C:ar)(D:Int)(d:Nat):bL->cQ:=tf #[aa s h,aa q p,aa "/claim/cut.py" g,bx e,bx k,bx 0,bx 0,bx j,bw A,.bool ah,bx 181,bw m,.none,B,t,C,bx D,bx e,aa "/claim/cut.py" d]
def g4(h q:String)(e:Nat)(d c g:Int)(w b:Nat):bL->cQ:=tf #[aa h e,aa q<|e+1,aa "/claim/cut.py"<|e+2,bx d,bx c,bx 0,bx 0,bx g,bw w,.bool ah,bx 181,bw<|w+1,.none,bw<|w+2,bw<|w+3,bw<|w+4,bx b,bx d,aa "/claim/cut.py"<|b+1]
def OC(y:Nat):List String->List ar|[]=>[]|x::d=>aa x y::OC (y+1) d
def a9(y:Nat)(d:List String):bL->cQ:=Oo (OC y d).toArray
def de:=Oo #[]
def cL:=p2 #[]
def ek(c:Nat):bL->cQ:=λ_=>J2 c
noncomputable def hL(x:cQ):bL->cQ:=λ_=>x
def ZI:ar:=aa "__main__" 164
def My:ar:=aa "cpy313.stringprep" 194
def tS:ar:=aa "cpy313._pylong" 2222
def wH:ar:=aa "cpy313.colorsys" 2304
def rF:ar:=aa "cpy313.tabnanny" 2389
def wI:ar:=aa "law_wb0107_02" 2491
def QR(r:bL):List ff:=[cF r "__doc__" 166 dS,cF r "__package__" 167 dS,cF r "__loader__" 168<|sz "__main__.__loader__#opaque",cF r "__spec__" 169 dS,cF r "__annotations__" 170<|bw 6,cF r "__builtins__" 171<|bw 4,cF r "__file__" 173<|aa "/claim/cut.py" 172,cF r "__cached__" 174 dS,cF r "_wall" 193<|bw 21,cF r "b1_set" 255<|bw 29,cF r "in_table_b1" 262<|bw 39,cF r "b3_exceptions" 2213<|bw 40,cF r "map_table_b3" 2221<|bw 85,cF r "_DIV_LIMIT" 2225<|bN 4000 2224,cF r "_div2n1n" 2242<|bw 92,cF r "_div3n2n" 2256<|bw 99,cF r "_int2digits" 2267<|bw 106,cF r "_digits2int" 2278<|bw 113,cF r "_divmod_pos" 2293<|bw 120,cF r "int_divmod" 2303<|bw 127,cF r "ONE_THIRD" 2309<|qP 4599676419421066581 2308,cF r "ONE_SIXTH" 2313<|qP 4595172819793696085 2312,cF r "TWO_THIRD" 2317<|qP 4604180019048437077 2316,cF r "rgb_to_hls" 2336<|bw 134,cF r "hls_to_rgb" 2347<|bw 141,cF r "_v" 2356<|bw 148,cF r "rgb_to_hsv" 2374<|bw 155,cF r "hsv_to_rgb" 2388<|bw 162,cF r "Whitespace" 2490<|bw 224,cF r "_law_deal" 2503<|bw 235,cF r "_law_typed" 2509<|bw 240,cF r "_law_lamp" 2515<|bw 245,cF r "_law_tables" 2521<|bw 250,cF r "law" 2527<|bw 255]
def nR(y:Nat)(t:ar):bL->cQ:=λr=>C9 (cF r "__name__" 165 t::(QR r).take (y -1)).toArray y
def oK(y:Nat):=p2 ([bx 1,bx 0,bw 20,bx 6,bx 0,bw 38,bx 9,bx 0,bw 84,bx 16,bx 0,bw 91,bx 32,bx 0,bw 98,bx 42,bx 0,bw 105,bx 58,bx 0,bw 112,bx 67,bx 0,bw 119,bx 78,bx 0,bw 126,bx 93,bx 0,bw 133,bx 116,bx 0,bw 140,bx 125,bx 0,bw 147,bx 134,bx 0,bw 154,bx 153,bx 0,bw 161,bx 175,bx 0,bw 168,bx 232,bx 0,bw 234,bx 238,bx 0,bw 239,bx 250,bx 0,bw 244,bx 259,bx 0,bw 249,bx 269,bx 0,bw 254].take y).toArray
noncomputable def ab:bL->BT:=λ_=>BT.nil
noncomputable def cg(x:bL->cQ)(f p:bL->BT):bL->BT:=λr=>BT.node (x r) (f r)<|p r
def vj(x:bL->cQ):=cg x ab ab
def Ga(x f p:bL->cQ):=cg x (vj f)<|vj p
def fc(x h p g d i y:bL->cQ):=cg x (Ga h p g)<|Ga d i y
noncomputable def B7:BT->Nat->BT|.nil,_=>.nil|.node x d w,y=>bif y.beq 0 then .nil else .node x (B7 d<|y/2) (B7 w<|(y -1)/2)
noncomputable def n2:=λ(r:bL)=>gV (gb "set") ai (Data.set #[(65024,bN 65024 212),(65025,bN 65025 213),(65026,bN 65026 214),(65027,bN 65027 215),(65028,bN 65028 216),(65029,bN 65029 217),(6150,bN 6150 198),(65030,bN 65030 218),(65031,bN 65031 219),(65032,bN 65032 220),(65033,bN 65033 221),(6155,bN 6155 199),(6156,bN 6156 200),(6157,bN 6157 201),(8203,bN 8203 202),(8204,bN 8204 203),(8205,bN 8205 204),(65034,bN 65034 222),(65035,bN 65035 223),(65036,bN 65036 224),(65037,bN 65037 225),(65038,bN 65038 226),(65039,bN 65039 227),(173,bN 173 196),(847,bN 847 197),(8288,bN 8288 205),(65279,bN 65279 206)] 29 {mask:=127,place:=#[0,1,2,3,4,5,6,7,8,9,10,11,12,13,14,15,16,17,18,19,20,21,22,45,79,96,127],dummies:=#[],finger:=0,led:=!(r.followText "set-order"),moves:=2,plain:=ah}) #[]
def ET:=g4 "in_table_b1" "in_table_b1" 256 6 1 3 33 260
def EU:=fD "in_table_b1" "in_table_b1" (aN aU 3) My 38
def EV:=g4 "map_table_b3" "map_table_b3" 2214 9 1 3 79 2219
def EW:=fD "map_table_b3" "map_table_b3" (aN aU 5) My 84
def EX:=g4 "_div2n1n" "_div2n1n" 2226 16 3 3 86 2240
def EY:=fD "_div2n1n" "_div2n1n" (aN aU 8) tS 91
def EZ:=g4 "_div3n2n" "_div3n2n" 2243 32 6 3 93 2254
def E0:=fD "_div3n2n" "_div3n2n" (aN aU 9) tS 98
def Al:=g4 "_int2digits" "_int2digits" 2257 42 2 3 100 2265
def tY:=fD "_int2digits" "_int2digits" (aN aU 10) tS 105
def Am:=g4 "_digits2int" "_digits2int" 2268 58 2 3 107 2276
def tZ:=fD "_digits2int" "_digits2int" (aN aU 11) tS 112
def El:=g4 "_divmod_pos" "_divmod_pos" 2279 67 2 3 114 2291
def Em:=fD "_divmod_pos" "_divmod_pos" (aN aU 12) tS 119
def En:=g4 "int_divmod" "int_divmod" 2294 78 2 3 121 2301
def Eo:=fD "int_divmod" "int_divmod" (aN aU 13) tS 126
def Ep:=g4 "rgb_to_hls" "rgb_to_hls" 2318 93 3 3 128 2334
def Er:=fD "rgb_to_hls" "rgb_to_hls" (aN aU 18) wH 133
def Es:=g4 "hls_to_rgb" "hls_to_rgb" 2337 116 3 3 135 2345
def Et:=fD "hls_to_rgb" "hls_to_rgb" (aN aU 19) wH 140
def Eu:=g4 "_v" "_v" 2348 125 3 3 142 2354
def Ew:=fD "_v" "_v" (aN aU 20) wH 147
def Ex:=g4 "rgb_to_hsv" "rgb_to_hsv" 2357 134 3 3 149 2372
def Ey:=fD "rgb_to_hsv" "rgb_to_hsv" (aN aU 21) wH 154
def Ez:=g4 "hsv_to_rgb" "hsv_to_rgb" 2375 153 3 3 156 2386
def EA:=fD "hsv_to_rgb" "hsv_to_rgb" (aN aU 22) wH 161
def EB:=g4 "__init__" "Whitespace.__init__" 2408 178 2 3 173 2420
def An:=fD "__init__" "Whitespace.__init__" (aN (iC<|aN aU 24) 1) rF 178
def EC:=g4 "longest_run_of_spaces" "Whitespace.longest_run_of_spaces" 2423 201 1 3 180 2429
def ED:=fD "longest_run_of_spaces" "Whitespace.longest_run_of_spaces" (aN (iC<|aN aU 24) 2) rF 185
def EE:=g4 "indent_level" "Whitespace.indent_level" 2432 205 2 3 187 2441
def EF:=fD "indent_level" "Whitespace.indent_level" (aN (iC<|aN aU 24) 3) rF 192
def EG:=g4 "less" "Whitespace.less" 2460 218 2 3 208 2467
def EH:=fD "less" "Whitespace.less" (aN (iC<|aN aU 24) 6) rF 213
def t4:=λr=>C9 #[cF r "__module__" 2398<|aa "cpy313.tabnanny" 2389,cF r "__firstlineno__" 2402<|bN 175 2401,cF r "S" 2406<|aa " " 2404,cF r "T" 2407<|aa "\t" 2405,cF r "__init__" 2422<|bw 179,cF r "longest_run_of_spaces" 2431<|bw 186,cF r "indent_level" 2443<|bw 193,cF r "equal" 2451<|bw 200,cF r "not_equal_witness" 2459<|bw 207,cF r "less" 2469<|bw 214,cF r "not_less_witness" 2477<|bw 221,cF r "__static_attributes__" 2483<|bw 222,cF r "__dict__" 2485<|bw 225,cF r "__weakref__" 2487<|bw 226,cF r "__doc__" 2488 dS] 4
def Ao:=hL<|gV (gb "type") ai (Data.cls {name:=(bM "Whitespace"),bases:=[gb "object"],mro:=[bw 224,gb "object"],ns:=223,qualname:=(bM "Whitespace"),hasDict:=ah,slotNames:=[],subclasses:=[],abstract:=av,collection:=ai,hasDel:=av}) #[ai,ai,I<|aa "Whitespace" 2391,I<|aa "Whitespace" 2399,I<|sz "object.__new__",I<|sy ah]
def rM:=nR 35<|aa "law_wb0107_02" 2491
def EI:=g4 "_law_deal" "_law_deal" 2493 232 3 3 229 2501
def EJ:=fD "_law_deal" "_law_deal" (aN aU 26) wI 234
def EK:=yo "_law_typed" 2504 "_law_typed" 2505 2506 238 2 3 236 237 dS dS (bw 238) 2507 2508
def EL:=fD "_law_typed" "_law_typed" (aN aU 27) wI 239
def EM:=yo "_law_lamp" 2510 "_law_lamp" 2511 2512 250 4 3 241 242 dS dS (bw 243) 2513 2514
def EN:=fD "_law_lamp" "_law_lamp" (aN aU 28) wI 244
def EO:=yo "_law_tables" 2516 "_law_tables" 2517 2518 259 3 3 246 247 dS dS (bw 248) 2519 2520
def t5:=fD "_law_tables" "_law_tables" (aN aU 29) wI 249
def EP:=yo "law" 2522 "law" 2523 2524 269 1 3 251 252 dS dS (bw 253) 2525 2526
def ER:=fD "law" "law" (aN aU 30) wI 254
def Tg(g d:bL->cQ):bL->BT:=cg u0 (cg Hp (cg g (cg boot_o_7 (cg de (cg de (cg (ek 23) (cg Eo (vj ER) ab)<|vj<|fY "indent_level" "Whitespace.indent_level"<|aN (iC<|aN aU 24) 3)<|Ga (a9 2246 ["a12","a3","b","b1","b2","n","q","r"]) de t4)<|fc (ek 7) de cL (fD "not_equal_witness" "Whitespace.not_equal_witness" (aN (iC<|aN aU 24) 5) rF 206) (fY "_digits2int" "_digits2int"<|aN aU 11) (a9 2411 ["self","ws","S","T","count","b","n","nt","ch"]) EK)<|cg (hL<|gV (gb "range") ai (lF #[bN 65024 207,bN 65040 208,bN 1 209]) #[]) (fc EU (ek 31) de (g4 "equal" "Whitespace.equal" 2444 212 2 3 194 2449) (a9 2262 ["n","a_digits","inner"]) (p2 #[bx 178,bx 4,bw 178,bx 201,bx 4,bw 185,bx 205,bx 4,bw 192,bx 212,bx 4,bw 199,bx 215,bx 4,bw 206,bx 218,bx 4,bw 213,bx 229,bx 4,bw 220])<|a9 2496 ["pool","number","count","dealt","size"])<|fc (ek 15) cL (a9 2360 ["r","g","b","maxc","minc","rangec","v","s","rc","gc","bc","h"]) de El de cL)<|cg de (cg (fY "_wall" "_wall"<|aN aU 0) (fc (a9 259 ["code"]) (ek 27) de cL E0 de<|hL<|gV (gb "super") ai (lF #[bw 224,bw 224,bw 224]) #[])<|fc (ek 11) (fY "map_table_b3" "map_table_b3"<|aN aU 5) Eu de cL An<|fY "_law_lamp" "_law_lamp"<|aN aU 28)<|cg (hL<|gV (gb "StopIteration") ai (lF #[bw 26,dS,dS,dS,sy av,dS]) #[]) (fc (ek 3) (ek 35) (fY "hls_to_rgb" "hls_to_rgb"<|aN aU 19) (a9 2455 ["self","other"]) de de EJ)<|fc (ek 19) EX Ey (fY "not_less_witness" "Whitespace.not_less_witness"<|aN (iC<|aN aU 24) 7) (a9 2297 ["a","b","q","r"]) de de)<|cg boot_o_5 (cg boot_o_9 (cg (a9 190 ["k"]) (fc de (ek 25) cL EF (fY "_div3n2n" "_div3n2n"<|aN aU 9) Ez<|hL<|gV (gb "getset_descriptor") ai (lF #[aa "__dict__" 2484,bw 224,sz "function.__dict__",sz "function.__dict__#set"]) #[])<|fc (ek 9) (a9 2217 ["code","r"]) de cL tZ (fY "__init__" "Whitespace.__init__"<|aN (iC<|aN aU 24) 1) de)<|cg (hL<|gV (gb "range_iterator") ai (lF #[bx 65040,bx 0,bx 1]) #[]) (fc (ek 1) (ek 33) (a9 2340 ["h","l","s","m2","m1"]) de Al (hL<|gV (gb "frame") ai afO #[I<|bw 168,I<|bw 3,I<|bw 165,ai,I<|aa "cpy313.tabnanny" 2389,ai,I<|bw 0])<|fY "_law_deal" "_law_deal"<|aN aU 26)<|fc (ek 17) de (fY "rgb_to_hsv" "rgb_to_hsv"<|aN aU 21) (a9 2473 ["self","other"]) de EC EO)<|cg (tf #[aa "<module>" 182,aa "<module>" 183,aa "/claim/cut.py" 184,bx 1,bx 0,bx 0,bx 0,bx 0,bw 11,sy av,bx 181,bw 12,dS,dS,dS,dS,bx 185,bx 1,aa "/claim/cut.py" 186]) (cg (fD "_wall" "_wall" (aN aU 0) ZI 20) (fc (fY "in_table_b1" "in_table_b1"<|aN aU 3) (ek 29) Ep de cL (λr=>C9 #[cF r "__module__" 2398<|aa "cpy313.tabnanny" 2389,cF r "__qualname__" 2400<|aa "Whitespace" 2399,cF r "__firstlineno__" 2402<|bN 175 2401,cF r "S" 2406<|aa " " 2404,cF r "T" 2407<|aa "\t" 2405,cF r "__init__" 2422<|bw 179,cF r "longest_run_of_spaces" 2431<|bw 186,cF r "indent_level" 2443<|bw 193,cF r "equal" 2451<|bw 200,cF r "not_equal_witness" 2459<|bw 207,cF r "less" 2469<|bw 214,cF r "not_less_witness" 2477<|bw 221,cF r "__static_attributes__" 2483<|bw 222] 13) de)<|fc (ek 13) EW de EG de cL EN)<|cg n2 (fc (ek 5) (ek 37) Et (fY "not_equal_witness" "Whitespace.not_equal_witness"<|aN (iC<|aN aU 24) 5) (a9 2271 ["digits","n"]) de cL)<|fc (ek 21) de cL (fD "not_less_witness" "Whitespace.not_less_witness" (aN (iC<|aN aU 24) 7) rF 220) (fY "int_divmod" "int_divmod"<|aN aU 13) (a9 2435 ["self","tabsize","count","trailing","il","i"])<|fY "law" "law"<|aN aU 30)<|cg sF (cg boot_o_4 (cg boot_o_8 (cg cL (fc (hL<|gV (gb "StopIteration") ai (lF #[bw 31,dS,dS,dS,sy av,dS]) #[]) (ek 24) de EE de (fY "hsv_to_rgb" "hsv_to_rgb"<|aN aU 22) Ao)<|fc (ek 8) cL (a9 2351 ["m1","m2","hue"]) de Am de EL)<|cg (hL<|gV (gb "list") ai (Hc #[bN 65024 212,bN 65025 213,bN 65026 214,bN 65027 215,bN 65028 216,bN 65029 217,bN 65030 218,bN 65031 219,bN 65032 220,bN 65033 221,bN 65034 222,bN 65035 223,bN 65036 224,bN 65037 225,bN 65038 226,bN 65039 227] 18) #[]) (fc (hL y_) (ek 32) cL (fD "equal" "Whitespace.equal" (aN (iC<|aN aU 24) 4) rF 199) (fY "_int2digits" "_int2digits"<|aN aU 10) (tf #[aa "Whitespace" 2393,aa "Whitespace" 2394,aa "/claim/cut.py" 2395,bx 175,bx 0,bx 0,bx 0,bx 0,bw 166,sy av,bx 181,bw 167,dS,dS,dS,dS,bx 2396,bx 175,aa "/claim/cut.py" 2397]) de)<|fc (ek 16) (a9 2229 ["a","b","n","pad","half_n","mask","b1","b2","q1","r","q2"]) de cL Em (fY "longest_run_of_spaces" "Whitespace.longest_run_of_spaces"<|aN (iC<|aN aU 24) 2)<|fY "_law_tables" "_law_tables"<|aN aU 29)<|cg d (cg (g4 "_wall" "_wall" 187 1 1 3 15 191) (fc de (ek 28) (fY "rgb_to_hls" "rgb_to_hls"<|aN aU 18) (a9 2447 ["self","other"]) de (hL<|gV (gb "builtin_function_or_method") ai (lF #[sz "type.__prepare__",gb "type"]) #[])<|hL<|gV (gb "builtin_function_or_method") ai (lF #[sz "object.__init_subclass__",bw 224]) #[])<|fc (ek 12) EV Ew (fY "less" "Whitespace.less"<|aN (iC<|aN aU 24) 6) (a9 2282 ["a","b","n","a_digits","r","q_digits","a_digit","q_digit","q"]) de EM)<|cg (hL<|gV (gb "list") ai (Hc #[bN 173 196,bN 847 197,bN 6150 198,bN 6155 199,bN 6156 200,bN 6157 201,bN 8203 202,bN 8204 203,bN 8205 204,bN 8288 205,bN 65279 206,bN 65024 212,bN 65025 213,bN 65026 214,bN 65027 215,bN 65028 216,bN 65029 217,bN 65030 218,bN 65031 219,bN 65032 220,bN 65033 221,bN 65034 222,bN 65035 223,bN 65036 224,bN 65037 225,bN 65038 226,bN 65039 227] 0) #[]) (fc (ek 4) (ek 36) Es de cL (hL<|gV (gb "StopIteration") ai (lF #[bw 171,dS,dS,dS,sy av,dS]) #[]) de)<|fc (ek 20) EY de (g4 "not_less_witness" "Whitespace.not_less_witness" 2470 229 2 3 215 2475) de cL cL)<|cg boot_o_6 (cg boot_o_10 (cg de (fc cL (ek 26) (a9 2321 ["r","g","b","maxc","minc","sumc","rangec","l","s","rc","gc","bc","h"]) de EZ EA<|hL<|gV (gb "getset_descriptor") ai (lF #[aa "__weakref__" 2486,bw 224,sz "ExceptionGroup.__weakref__",dS]) #[])<|fc (ek 10) de (fY "_v" "_v"<|aN aU 20) (a9 2463 ["self","other","n","ts"]) de EB cL)<|cg de (fc (ek 2) (ek 34) de cL tY (hL<|gV (gb "str_ascii_iterator") ai (lF #[dS,bx 2]) #[]) EI)<|fc (ek 18) (fY "_div2n1n" "_div2n1n"<|aN aU 8) Ex de cL ED t5)<|cg (hL<|gV (gb "frame") ai afO #[I<|bw 13,I<|bw 3,I<|bw 3,ai,I<|aa "__main__" 164,ai,I<|bw 0]) (cg (hL<|gV (gb "list") ai (Hc #[bN 173 196,bN 847 197,bN 6150 198,bN 6155 199,bN 6156 200,bN 6157 201,bN 8203 202,bN 8204 203,bN 8205 204,bN 8288 205,bN 65279 206] 0) #[]) (fc ET (ek 30) Er (fY "equal" "Whitespace.equal"<|aN (iC<|aN aU 24) 4) (a9 2260 ["a","n"]) de cL)<|fc (ek 14) de cL EH (fY "_divmod_pos" "_divmod_pos"<|aN aU 12) (a9 2426 ["self","count","trailing"]) de)<|cg (hL<|gV (gb "list_iterator") ai (lF #[dS,bx 27]) #[]) (fc (ek 6) (hL J3) de (g4 "not_equal_witness" "Whitespace.not_equal_witness" 2452 215 2 3 201 2457) (a9 2273 ["digits","n","inner"]) cL<|fY "_law_typed" "_law_typed"<|aN aU 27)<|fc (ek 22) cL (a9 2378 ["h","s","v","i","f","p","q","t"]) (a9 2478 ["is_simple","n","norm","nt","raw"]) En de EP
def ob(y:Nat)(g d:bL->cQ):bL->BT:=λr=>B7 (Tg g d r) y
def vf:bL->BT:=ob 15 boot_o_3 cL
def yK:bL->BT:=ob 22 (nR 10<|aa "cpy313.stringprep" 194)<|oK 3
def gz:bL->BT:=ob 33 (nR 11<|aa "cpy313.stringprep" 194)<|oK 3
def mK:bL->BT:=ob 40 (nR 12<|aa "cpy313.stringprep" 194)<|oK 6
def R3:bL->BT:=ob 79 (nR 13<|aa "cpy313.stringprep" 194)<|oK 6
def R4:bL->BT:=ob 128 (nR 21<|aa "cpy313.colorsys" 2304)<|oK 27
def R5:bL->BT:=ob 163 (nR 29<|aa "cpy313.tabnanny" 2389)<|oK 42
def R6:bL->BT:=ob 229 (nR 30<|aa "cpy313.tabnanny" 2389)<|oK 45
def gA:bL->BT:=ob 256 rM<|oK 60
def sZ:bL->BT:=ob 79 (nR 12<|aa "cpy313.stringprep" 194)<|oK 6
noncomputable def M5:Nat:=12
noncomputable def M6:a8:=⟨0,0,0,0⟩
noncomputable def hq:a8:=⟨0,0,0,0⟩
def gL:Option ar:=(I<|bw 6)
noncomputable def gw:Nat:=11
def eC:kQ:={scope:=cH.main.scope,locals:=mainNs,globals:=mainNs,cells:=[],code:=(bw 13),frame:=(I 14)}
noncomputable def Jd:Nat:=0
noncomputable def Je:a8:=⟨0,0,0,0⟩
def Cj(n:ba)(os:ke):pE:=⟨vf n.params,15,l_,#[],iQ,187,os⟩
def ra(n:ba)(os:ke):pE:=⟨yK n.params,22,l_,#[],iQ,196,os⟩
noncomputable def mY:Nat:=38
noncomputable def dO:Pos:=⟨4,0,4,8⟩
def df:List aP:=(aU.drop 0).take 2
def rb(n:ba)(os:ke):pE:=⟨gz n.params,33,l_,#[],iQ,256,os⟩
noncomputable def i1:Nat:=998
noncomputable def ej:Pos:=⟨5,0,5,6⟩
def b7:List aP:=(aU.drop 2).take 1
def Ck(n:ba)(os:ke):pE:=⟨mK n.params,40,l_,#[],iQ,263,os⟩
noncomputable def tU:Nat:=29
noncomputable def o9:a8:=⟨6,0,7,30⟩
def lI:List aP:=(aU.drop 3).take 1
def Cm(n:ba)(os:ke):pE:=⟨R3 n.params,79,l_,#[],iQ,2214,os⟩
noncomputable def mb:Nat:=12524
noncomputable def Ff:a8:=⟨8,0,8,13⟩
def jU:List aP:=(aU.drop 4).take 1
def Iq(n:ba)(os:ke):pE:=⟨R4 n.params,128,l_,#[],iQ,2306,os⟩
noncomputable def MA:Nat:=267
noncomputable def M9:a8:=⟨89,0,89,8⟩
def K6:List aP:=(aU.drop 5).take 10
def vt(n:ba)(os:ke):pE:=⟨R5 n.params,163,l_,#[],iQ,2391,os⟩
noncomputable def da:Nat:=235
noncomputable def w1:a8:=⟨174,0,174,8⟩
def K8:List aP:=(aU.drop 15).take 9
def vu(n:ba)(os:ke):pE:=⟨R6 n.params,229,l_,#[],iQ,2491,os⟩
noncomputable def wJ:Nat:=492
noncomputable def w2:a8:=⟨175,0,230,16⟩
def wc:List aP:=(aU.drop 24).take 1
def Ir(n:ba)(os:ke):pE:=⟨gA n.params,256,l_,#[],iQ,2528,os⟩
noncomputable def MB:Nat:=146
noncomputable def M_:a8:=⟨269,0,318,154⟩
def K':List aP:=(aU.drop 25).take 6
noncomputable def KL:Nat:=1
def d8:Code:=Code.body (Ho cH) eC
noncomputable def Im(n:ba)(os:ke):aB:=⟨sE n.params,#[],iQ,boot_toks,os⟩
def abl(n:ba):(λos=>topGo hh cH n gw gL M5 (Im n os)<|topStub cH)=λos=>I ((⟨⟨(BT.list (vf n.params) 15).toArray,l_⟩,#[],iQ,187,os⟩:aB),(⟨Hx hh d8,d8,M6,[hX hq]⟩:Hm)):=by kernel_rfl
def TF(n:ba):(λos=>segRun hh cH n gw gL 1 (Jd+1) (Cj n os).abs<|blockOf (Ho cH) eC d8 M6 [hX hq])=λos=>I (gU,(Cj n os).abs,d8,Je):=by kernel_rfl
def aaU(n:ba):(λos=>sH hh cH n gw gL 1 (mY+1) (Cj n os)<|jG df eC d8 Je [hX hq])=λos=>I (gU,ra n os,d8,dO):=by kernel_rfl
def vq(n:ba):Prop:=(λos=>sA sC cH n gw gL 1 (i1+1) (ra n os)<|jG b7 eC d8 dO [hX hq])=λos=>I (gU,rb n os,d8,ej)
def aaW(n:ba):(λos=>sA sC cH (fg (fg n "special-get-raises" av) "set-order" av) gw gL 1 (i1+1) (ra (fg (fg n "special-get-raises" av) "set-order" av) os)<|jG b7 eC d8 dO [hX hq])=λos=>I (gU,rb (fg (fg n "special-get-raises" av) "set-order" av) os,d8,ej):=by kernel_rfl
def aaY(n:ba):(λos=>sA sC cH (fg (fg n "special-get-raises" av) "set-order" ah) gw gL 1 (i1+1) (ra (fg (fg n "special-get-raises" av) "set-order" ah) os)<|jG b7 eC d8 dO [hX hq])=λos=>I (gU,rb (fg (fg n "special-get-raises" av) "set-order" ah) os,d8,ej):=by kernel_rfl
def aaX(n:ba):(λos=>sA sC cH (fg (fg n "special-get-raises" ah) "set-order" av) gw gL 1 (i1+1) (ra (fg (fg n "special-get-raises" ah) "set-order" av) os)<|jG b7 eC d8 dO [hX hq])=λos=>I (gU,rb (fg (fg n "special-get-raises" ah) "set-order" av) os,d8,ej):=by kernel_rfl
def aaZ(n:ba):(λos=>sA sC cH (fg (fg n "special-get-raises" ah) "set-order" ah) gw gL 1 (i1+1) (ra (fg (fg n "special-get-raises" ah) "set-order" ah) os)<|jG b7 eC d8 dO [hX hq])=λos=>I (gU,rb (fg (fg n "special-get-raises" ah) "set-order" ah) os,d8,ej):=by kernel_rfl
def aa8(n:ba):vq n:=BK "set-order" (P:=vq) (λn=>BK "special-get-raises" (P:=λn=>vq<|fg n "set-order" av) (λn=>aaW n) (λn=>aaX n) n) (λn=>BK "special-get-raises" (P:=λn=>vq<|fg n "set-order" ah) (λn=>aaY n) (λn=>aaZ n) n) n
def aaV(n:ba):(λos=>sH hh cH n gw gL 1 (i1+1) (ra n os)<|jG b7 eC d8 dO [hX hq])=λos=>I (gU,rb n os,d8,ej):=by have j:=aa8 n;unfold vq at j;rw[<-agx,<-agw]at j;exact j
def aa0(n:ba):(λos=>sH hh cH n gw gL 1 (tU+1) (rb n os)<|jG lI eC d8 ej [hX hq])=λos=>I (gU,Ck n os,d8,o9):=by kernel_rfl
def Cn(n:ba)(os:ke):pE:=⟨sZ n.params,79,l_,#[],iQ,2213,os⟩
def nQ:a8:=((i_ iV).bind (Gm ·.2.1)).elim ie (·.2.2)
def Kg:th=rp++(jj.flatten++nP):=by kernel_rfl
def Vp:vG (th.map (·.1))=ah:=by kernel_rfl
def Vq:(th.all λm=>decide (0<=m.1)&&decide (m.1<2^31))=ah:=by kernel_rfl
def U_:rp.length=17:=by kernel_rfl
def Vb:(jj.all λg=>g.length==17)=ah:=by kernel_rfl
def C5:nP.length=4:=by kernel_rfl
def Yj:(HA (vS iV) eC).zip ((sL (vT iV) eC).map λt=>do let m<-t;gs nQ;bq m)=th.map (nY nQ):=by kernel_rfl
def U5(e):(ji e).n=79:=by kernel_rfl
def U6(e):(ji e).t=2213:=by kernel_rfl
def Va(r:bL):(aH 40).map (mK r).get=(aH 40).map (sZ r).get:=by kernel_rfl
def Vc(r:bL):(aH 37).map (λw=>(sZ r).get<|41+w)=(aH 37).map (λw=>I<|J2<|w+1):=by kernel_rfl
def U1(r:bL):(sZ r).get 78=I J3:=by kernel_rfl
def U2(r:bL):(sZ r).get 40=I y_:=by kernel_rfl
def C6:jj.length=37:=by show((aH 37).map _).length=_;simp
def IW{a j:Nat->Option cQ}(g:(aH y).map a=(aH y).map j)(b:c<y):a c=j c:=by have:=congrArg (λd=>d[c]?) g;simpa[b]using this
def pl(e:Nat->Option cQ):dQ:=dQ.mk (c0 e 40<|b3 (eF 263 rp) 17) 41 314 17<|eF 263 rp
theorem Nq(d:Nat):∀(aS:List (List<|Int×au))(m b:dQ),m.bA=b.bA->m.t=b.t->m.k=b.k->(m.run d aS).bA=(b.run d aS).bA/\(m.run d aS).k=(b.run d aS).k/\(m.run d aS).t=(b.run d aS).t|[]=>@λm b s l a=>⟨s,a,l⟩|c::aS=>@λm b s l a=>Nq d aS (m.next d c) (b.next d c) (by show m.bA++eF m.t c=b.bA++eF b.t c;rw[s,l]) (by show m.t+51=b.t+51;rw[l]) (by show m.k+17=b.k+17;rw[a])
def U3(e j):(ji e).bA=(ji j).bA/\(ji e).k=(ji j).k:=by obtain⟨f,p,d⟩:=Nq 40 jj (pl e) (pl j) rfl rfl rfl;refine⟨?_,?_⟩;show((pl e).run 40 jj).bA++iJ ((pl e).run 40 jj).t nP=((pl j).run 40 jj).bA++iJ ((pl j).run 40 jj).t nP;rw[f,d];show((pl e).run 40 jj).k+_=((pl j).run 40 jj).k+_;rw[p]
def U4(r:bL):ax (ji (mK r).get).g 79=ax (sZ r).get 79:=by refine dQ.S3 (x:=pl (mK r).get) (by show 40<41;decide) (by rw[C6];rfl) ?_ ?_ ?_ ?_;intro c d l;have d:c<41:=d;show c0 _ _ _ c=_;rw[oc l];exact IW (Va r)<|sq (ni d) l;intro w p;rw[C6]at p;have:=IW (Vc r) p;refine this.trans ?_;show I (b3 (eF (263+51*(w+1))<|yn<|w+1) 17)=I (b3 (eF (314+51*w) jj[w]) 17);rw[show 263+51*(w+1)=314+51*w from(afa 263 (51*w) 51).trans (e6 ..)];simp[jj];rw[C6];exact U1 r;refine(U2 r).trans ?_;obtain⟨f,e⟩:=U3 (mK r).get λ_=>ai;show I (b3 (ji λ_=>ai).bA (ji λ_=>ai).k)=I (b3 (ji (mK r).get).bA (ji (mK r).get).k);rw[f,e]
def U9:gv [] (rp++(jj.flatten++nP)):=by rw[<-Kg];refine⟨by simpa using Z3 Vp,λm ag=>?_⟩;have:=bG.mp Vq m ag;simpa using this
def y'(t:ar):cA nt:=do assignStores eC t (<-sP (J4 iV) (Vd iV) eC) ((Ht (J4 iV) eC).map (·.2))
def U8:ep jU eC=(gs (iV.pos)>>=λ_=>gs nQ>>=λ_=>(BQ ((HA (vS iV) eC).zip ((sL (vT iV) eC).map λt=>do let m<-t;gs nQ;bq m))>>=y'))>>=λf=>match f with|.next=>ep [] eC|f=>bq f:=by kernel_rfl
def U7:ep jU eC=((gs (iV.pos)>>=λ_=>gs nQ>>=λ_=>BQ ((HA (vS iV) eC).zip ((sL (vT iV) eC).map λt=>do let m<-t;gs nQ;bq m)))>>=λt=>y' t>>=λf=>match f with|.next=>ep [] eC|f=>bq f):=by rw[U8];simp only[uK]
def U'(n:ba):(λos=>sH hh cH n gw gL 1 8 (Cn n os) ⟨(y' (.ref 40)>>=λf=>match f with|.next=>ep [] eC|f=>bq f).wrap doneF deadEnd id id,d8,nQ,[hX hq]⟩)=λos=>I (gU,Cm n os,d8,Ff):=by kernel_rfl
def aa1(a:ba)(os:ke):segRun hh cH a gw gL 1 (mb+1) (Ck a os).abs (jG jU eC d8 o9 [hX hq])=I (gU,(Cm a os).abs,d8,Ff):=by
 have j:ay cH a gw gL (gs (iV.pos)>>=λ_=>gs nQ>>=λ_=>BQ ((HA (vS iV) eC).zip ((sL (vT iV) eC).map λb=>do let m<-b;gs nQ;bq m)))
   (Ck a os).abs o9 (.ref 40) (Cn a os).abs nQ (1+(1+(223+(330*jj.length+(6+19*nP.length))))):=by
  refine ay.bind (n:=1) ay.at_<|ay.bind (n:=1) ay.at_ ?_
  rw[Yj,Kg]
  have i:(Cn a os).abs=⟨ax (ji (mK a.params).get).g (ji (mK a.params).get).n,#[],iQ,(ji (mK a.params).get).t,os⟩:=by rw[U5,U6,U4 a.params];rfl
  rw[i]
  exact ay.display (p:=cH) (g:=(mK a.params).get) (n:=40) (t:=263) z z U_ (λr q=>by simpa using bG.mp Vb r q) (by rw[C5];decide) (by intro j;have:=C5;rw[j]at this;cases this)
   U9 (by show 17*((aH 37).map _).length<_;simp) rfl
 have d:=j (λb=>(y' b>>=λf=>match f with|.next=>ep [] eC|f=>bq f).wrap doneF deadEnd id id) deadEnd id id d8<|hX hq;have y:=congrFun (U' a) os;have A:=seg_go d<|sI y;unfold jG;rw[U7,agf,Hk];have k:mb+1=1+(1+(223+(330*jj.length+(6+19*nP.length))))+8:=by rw[C5];show 12524+1=1+(1+(223+(330*((aH 37).map _).length+_)))+8;simp
 rw[k];exact A
def aa2(n:ba):(λos=>sH hh cH n gw gL 1 (MA+1) (Cm n os)<|jG K6 eC d8 Ff [hX hq])=λos=>I (gU,Iq n os,d8,M9):=by kernel_rfl
def aa3(n:ba):(λos=>sH hh cH n gw gL 1 (da+1) (Iq n os)<|jG K8 eC d8 M9 [hX hq])=λos=>I (gU,vt n os,d8,w1):=by kernel_rfl
def Ce(n:ba):Prop:=(λos=>sA sC cH n gw gL 1 (wJ+1) (vt n os)<|jG wc eC d8 w1 [hX hq])=λos=>I (gU,vu n os,d8,w2)
def aa5(n:ba):(λos=>sA sC cH (fg n "special-get-raises" av) gw gL 1 (wJ+1) (vt (fg n "special-get-raises" av) os)<|jG wc eC d8 w1 [hX hq])=λos=>I (gU,vu (fg n "special-get-raises" av) os,d8,w2):=by kernel_rfl
def aa6(n:ba):(λos=>sA sC cH (fg n "special-get-raises" ah) gw gL 1 (wJ+1) (vt (fg n "special-get-raises" ah) os)<|jG wc eC d8 w1 [hX hq])=λos=>I (gU,vu (fg n "special-get-raises" ah) os,d8,w2):=by kernel_rfl
def aa9(n:ba):Ce n:=BK "special-get-raises" (P:=Ce) (λn=>aa5 n) (λn=>aa6 n) n
def aa4(n:ba):(λos=>sH hh cH n gw gL 1 (wJ+1) (vt n os)<|jG wc eC d8 w1 [hX hq])=λos=>I (gU,vu n os,d8,w2):=by have j:=aa9 n;unfold Ce at j;rw[<-agx,<-agw]at j;exact j
def aa7(n:ba):(λos=>sH hh cH n gw gL 1 (MB+1) (vu n os)<|jG K' eC d8 w2 [hX hq])=λos=>I (gU,Ir n os,d8,M_):=by kernel_rfl
def h1(r:bL):cP:=absHeap (gA r) 256 l_
def Wj(n:ba):(λos=>topRun hh cH n gw gL (KL+1) (Ir n os).abs ⟨doneF .next,d8,M_,[hX hq]⟩)=λos=>I (⟨h1 n.params,#[],iQ,2528,os⟩:aB):=z
def TP:Ho cH=df++(b7++(lI++(jU++(K6++(K8++(wc++(K'++[]))))))):=z
def yB:Nat:=M5+((Jd+1)+((mY+1)+((i1+1)+((tU+1)+((mb+1)+((MA+1)+((da+1)+((wJ+1)+((MB+1)+(KL+1))))))))))
def abU(n:ba)(os:ke):topRun hh cH n gw gL yB (Im n os) (topStub cH)=I ⟨h1 n.params,#[],iQ,2528,os⟩:=by refine go_top (congrFun (abl n) os) ?_;refine piece_block (b:=Ho cH) (congrFun (TF n) os) ?_;rw[TP];refine sG (sI<|congrFun (aaU n) os) ?_;refine sG (sI<|congrFun (aaV n) os) ?_;refine sG (sI<|congrFun (aa0 n) os) ?_;refine sG (aa1 n os) ?_;refine sG (sI<|congrFun (aa2 n) os) ?_;refine sG (sI<|congrFun (aa3 n) os) ?_;refine sG (sI<|congrFun (aa4 n) os) ?_;refine sG (sI<|congrFun (aa7 n) os) ?_;exact piece_nil<|congrFun (Wj n) os
def Ay:sv:={cH with main:={cH.main with body:=[aN aU 30]}}
def z5:List au:=cH.boundNames.filter λy=>y !=("law":au)
def aaF:∀n:ba,(fencedOpening hh cH n<|yB+600).map (λl=>(l.heap,l.gens,l.drawn,l.toks))=I (sE n.params,#[],iQ,boot_toks):=boot_open z z (λl=>by kernel_rfl)
def acg(n:ba):((sE n.params).isNs x_&&(#[]:Array GenState).size==0,(sE n.params).objs.size,(sE n.params).nsMap x_ "__annotations__")=(ah,gw,gL):=z
def Za(n:ba):(λos=>(staticsOk (agG cH.main.body) (sE n.params) (h1 n.params)&&namesBound cH (h1 n.params)&&gensDone ⟨h1 n.params,#[],iQ,2528,os⟩&&laidKept (sE n.params) (h1 n.params)))=λ(os:ke)=>ah:=z
def Zb(n:ba):(λos=>openSeen Ay z5 (agG cH.main.body) (λZ=>ah) ah ⟨h1 n.params,#[],iQ,2528,os⟩)=λ(os:ke)=>openGood Ay z5:=z
noncomputable def vB(l:aB):cP×Nat:=(l.heap,l.toks)
def vA(n:ba):cP×Nat:=(h1 n.params,2528)
def YJ:LeftO cH Ay z5 (λZ=>ah) vB vA (yB+600):=LeftO.of_pieces (H₀:=sE) (H₁:=h1) (gs₁:=#[]) (d₁:=iQ) (k₁:=2528) aaF acg abU z λn=>funext λos=>Prod.ext (congrFun (Za n) os)<|Prod.ext (congrFun (Zb n) os) rfl
def jH(f:aF):Prop:=f=101\/f=108
def r2(j:cP)(i:a8)(q:au)(r:Array ar):Prop:=TriplesOk r.toList/\(codeAmong i r.toList=ai\/∃g x aa k,codeAmong i r.toList=I (.ref g)/\j.get? g=I x/\fO x/\x.data=.fields aa/\aa[1]?=I (.str q k))
def C8(i:aP):a8:=(A9 i).elim ⟨0,0,0,0⟩ (·.2.2.2.2.2.2.2.2.2)
def zO(c w:Nat):aP:=aN (bp<|aN aU c) w
def E9:a8:=C8<|zO 10 1
def E_:a8:=C8<|zO 11 0
def e5(n:ba)(j:cP):Prop:=(∀f x,f<256->¬jH f->(h1 n.params).get? f=I x->j.get? f=I x)/\(∃r,j.get? 101=I (sD r)/\r2 j E9 "_int2digits.<locals>.inner" r)/\(∃r,j.get? 108=I (sD r)/\r2 j E_ "_digits2int.<locals>.inner" r)
def r2.m9{q:au}(k:∀p x,fO x->j.get? p=I x->d.get? p=I x)(e:r2 j i q r):r2 d i q r:=by obtain⟨f,p⟩:=e;refine⟨f,p.imp id ?_⟩;rintro⟨l,x,aa,m,aC,aM,bU,bJ⟩;exact⟨l,x,aa,m,aC,k _ _ bU aM,bU,bJ⟩
def zE(j:a<256)(e:(gA r).get a=I x):(h1 r).get? a=ot x:=abs_get j e
def vg(x:cQ):Array ff:=match x.data with|.dict b _=>b|_=>#[]
def acQ(j:(b.all λi=>u5 i.key)=ah):StrKeys b:=by
 intro i f;have:=aen.mp j i f;obtain⟨a,y,t⟩:=i;cases y<;>try exact fT this
 exact⟨_,_,rfl⟩
def Ak{j:cP}(i:j.get? f=I b)(d:b.data=.dict bA n)(k:(bA.all λi=>u5 i.key)=ah):j.Ns f (λm=>ir bA m):=⟨b,bA,n,i,d,acQ k,λZ=>rfl⟩
def zq(r:bL):Array ff:=vg<|u0 r
def v3(r:bL):Array ff:=vg<|sF r
def lY(r:bL):Array ff:=vg<|rM r
def lM(r:bL):(gA r).get 0=I (u0 r):=z
def bW(r:bL):(gA r).get 1=I (Hp r):=z
def cn(r:bL):(gA r).get 2=I (sF r):=z
def e0(r:bL):(gA r).get 3=I (rM r):=z
def gO(r:bL):((zq r).all λi=>u5 i.key)=ah:=z
def d5(r:bL):((v3 r).all λi=>u5 i.key)=ah:=z
def ky(r:bL):((lY r).all λi=>u5 i.key)=ah:=z
def zm(x:cQ):Nat:=match x.data with|.dict _ y=>y|_=>0
def C1(r:bL):(u0 r).data=.dict (zq r) (zm<|u0 r):=z
def vR(r:bL):(sF r).data=.dict (v3 r) (zm<|sF r):=z
def U0(r:bL):(rM r).data=.dict (lY r) (zm<|rM r):=z
def aV(r:bL):ot (u0 r)=I (u0 r):=z
def aJ(r:bL):ot (Hp r)=I (Hp r):=z
def dV(r:bL):ot (sF r)=I (sF r):=z
def fi(r:bL):ot (rM r)=I (rM r):=z
section
variable{w:ba}{h:cP}
def gB{a:Nat}(k:e5 w h)(n:a<256)(y:(nf a 101||nf a 108)=av)(e:(gA w.params).get a=I x)(b:ot x=I x):h.get? a=I x:=by refine k.1 a x n (λq=>?_)<|(zE n e).trans b;rcases q with rfl|rfl<;>simp at y
def Z4(k:e5 w h):h.Ns 0 (λm=>ir (zq w.params) m):=Ak (gB k z rfl (lM _)<|aV _) (C1 _)<|gO _
def MI(k:e5 w h):h.Ns 2 (λm=>ir (v3 w.params) m):=Ak (gB k z rfl (cn _)<|dV _) (vR _)<|d5 _
def wN(k:e5 w h):h.Ns 3 (λm=>ir (lY w.params) m):=Ak (gB k z rfl (e0 _)<|fi _) (U0 _)<|ky _
def ZZ(r:bL):ir (v3 r) sharingNotToldKey=ai:=z
def Z1(r:bL):ir (v3 r) "sys.recursionlimit"=ai:=z
def TQ(k:e5 w h):uY h:=⟨_,MI k,ZZ _⟩
def Eh(k:e5 w h):h.NoLimit:=⟨_,MI k,Z1 _⟩
end
noncomputable def H5(k:BT)(f:Nat):Bool:=match k.get f with|some x=>(ot x).isSome|none=>av
def Ss(r:bL):((aH 256).all λf=>H5 (gA r) f)=ah:=z
def Sn(j:ot x=I a):a=x:=by obtain⟨g,d,b,r⟩:=x;cases b<;>first|exact nS j|exact(aZ j).symm
def Te{f:Nat}(k:e5 n j)(b:f<256)(y:¬jH f):∃x,j.get? f=some x:=by
 have:=bG.mp (Ss n.params) f<|bl.mpr b;unfold H5 at this;induction r:(gA n.params).get f using b6 with
 |none=>rw[r]at this;cases this
 |some x=>
  rw[r]at this;dsimp only at this;induction c:ot x using b6 with
  |none=>rw[c]at this;cases this
  |some d=>
   have:=Sn c;subst this;exact⟨_,k.1 f _ b y<|(zE b r).trans c⟩
def aR(A:ba):bS where
 prog:=cH
 w:=A
 T:=jH
 P:=λf=>f<256/\¬jH f
 G:=3
 B:=0
 fb:=e5 A
 m9:=λj d m k=>by obtain⟨bW,⟨l,aC,df⟩,⟨s,aM,b7⟩⟩:=m;refine⟨λf x n y i=>k f x (.inr<|.inl ⟨n,y⟩)<|bW f x n y i,⟨l,k _ _ (.inl<|.inl rfl) aC,df.m9 λq x g i=>k q x (.inr<|.inr g) i⟩,⟨s,k _ _ (.inl<|.inr rfl) aM,b7.m9 λq x g i=>k q x (.inr<|.inr g) i⟩⟩
 MU:=λj f m r=>Te m r.1 r.2
 booked:=λj m=>TQ m
 N_:=λj m=>⟨_,gB m z rfl (bW _)<|aJ _⟩
def gh(i:ir (lY n.params) m=I a):cB (aR n) m a:=λj k=>⟨_,wN k,.inl i⟩
def iD(y:ir (lY a.params) m=ai)(i:ir (zq a.params) m=I b):cB (aR a) m b:=λj k=>⟨_,wN k,.inr ⟨y,_,Z4 k,i⟩⟩
def CK(n:ba):je (aR n)where
 len:=iD z z
 ord:=iD z z
 chr:=iD z z
 str:=iD z z
 sum:=iD z z
 max:=iD z z
 min:=iD z z
 abs:=iD z z
 round:=iD z z
 int:=iD z z
 tuple:=iD z z
 divmod:=iD z z
 range:=iD z z
 enum:=iD z z
 zip:=iD z z
 rev:=iD z z
 list:=iD z z
def bH(l:aP):List au:=(k2 l).args.map (·.arg)
def gf(l:aP)(f:List au):vc:=⟨b9 l,bH l,bp l,f⟩
def fN(x:cQ):x2:=match x.data with|.func i=>i|_=>ie
def g5(x:cQ):Array ar:=match x.data with|.fields aa=>aa|_=>#[]
def g6{a cd:Nat}{aa:Array ar}(A:a<256)(y:(nf a 101||nf a 108)=av)(e:(gA n.params).get a=I a4)(b:ot a4=I a4)(d:a4.data=.func fd)(f:a4.cls=.type "function")(E:cd<256)(x:(nf cd 101||nf cd 108)=av)(c:(gA n.params).get cd=I f3)(i:ot f3=I f3)(p:fd.code=.ref cd)(tf:f3.data=.fields aa)(F:aa[1]?=I (.str fd.qualname t))(s:fd.scope=j)(l:fd.body=.stmts m)(B:fd.closure=[])(C:fd.globals=3)(D:fd.builtins=0)(q:∀k:List ar,k.length=r.length->BN fd ⟨k,[]⟩=bq (r.zip k)):eB (aR n) a j r m:=⟨⟨a4,fd,d,λG t=>⟨gB t A y e b,cd,f3,aa,_,p,gB t E x c i,tf,F⟩,s,l,B,C,D,q⟩,λG t=>Eh t,λG t=>⟨a4,fd,gB t A y e b,d,f⟩⟩
def tG{s:Type}{d:List s}(j:d.length=y+1):∃f k,d=f::k/\k.length=y:=by induction d using bb with|nil=>exact Nat.noConfusion j|cons f k=>exact⟨f,k,rfl,Nat.succ.inj j⟩
def wt{s:Type}{d:List s}(j:d.length=1):∃f,d=[f]:=by obtain⟨f,k,rfl,q⟩:=tG j;exact⟨f,congrArg _<|Pl.mp q⟩
def o3{s:Type}{d:List s}(j:d.length=2):∃f p,d=[f,p]:=by obtain⟨f,k,rfl,q⟩:=tG j;exact(wt q).elim λp i=>⟨f,p,congrArg _ i⟩
def o4{s:Type}{d:List s}(j:d.length=3):∃f p g,d=[f,p,g]:=by obtain⟨f,k,rfl,q⟩:=tG j;obtain⟨p,g,i⟩:=o3 q;exact⟨f,p,g,congrArg _ i⟩
def L8{s:Type}{m:List s}(j:m.length=4):∃f p g d,m=[f,p,g,d]:=by obtain⟨f,k,rfl,q⟩:=tG j;obtain⟨p,g,d,i⟩:=o4 q;exact⟨f,p,g,d,congrArg _ i⟩
def YK{s:Type}{x:List s}(j:x.length=6):∃m p g d i y,x=[m,p,g,d,i,y]:=by obtain⟨m,k,rfl,q⟩:=tG j;obtain⟨p,B,rfl,A⟩:=tG q;obtain⟨g,d,i,y,n⟩:=L8 A;exact⟨m,p,g,d,i,y,by rw[n]⟩
def n_:aP:=(aN aU 3)
def KC(n:ba):eB (aR n) 39 (b9 n_) (bH n_) (bp n_):=by refine g6 (a:=39) (cd:=38) (a4:=EU n.params) (f3:=ET n.params) (fd:=fN<|EU n.params) (aa:=g5<|ET n.params) (t:=257) z rfl z z z z z rfl z z z z z z z z z z λk m=>?_;have r:(bH n_).length=1:=z;obtain⟨f,rfl⟩:=wt<|m.trans r;kernel_rfl
def W6(n:ba):cB (aR n) "in_table_b1" (.ref 39):=gh z
def fx:aP:=(aN aU 5)
def KD(n:ba):eB (aR n) 85 (b9 fx) (bH fx) (bp fx):=by refine g6 (a:=85) (cd:=84) (a4:=EW n.params) (f3:=EV n.params) (fd:=fN<|EW n.params) (aa:=g5<|EV n.params) (t:=2215) z rfl z z z z z rfl z z z z z z z z z z λk m=>?_;have r:(bH fx).length=1:=z;obtain⟨f,rfl⟩:=wt<|m.trans r;kernel_rfl
def W8(n:ba):cB (aR n) "map_table_b3" (.ref 85):=gh z
def ll:aP:=(aN aU 8)
def V'(n:ba):eB (aR n) 92 (b9 ll) (bH ll) (bp ll):=by refine g6 (a:=92) (cd:=91) (a4:=EY n.params) (f3:=EX n.params) (fd:=fN<|EY n.params) (aa:=g5<|EX n.params) (t:=2227) z rfl z z z z z rfl z z z z z z z z z z λk m=>?_;have r:(bH ll).length=3:=z;obtain⟨f,p,g,rfl⟩:=o4<|m.trans r;kernel_rfl
def W9(n:ba):cB (aR n) "_div2n1n" (.ref 92):=gh z
def xh:aP:=(aN aU 9)
def Wa(n:ba):eB (aR n) 99 (b9 xh) (bH xh) (bp xh):=by refine g6 (a:=99) (cd:=98) (a4:=E0 n.params) (f3:=EZ n.params) (fd:=fN<|E0 n.params) (aa:=g5<|EZ n.params) (t:=2244) z rfl z z z z z rfl z z z z z z z z z z λk m=>?_;have r:(bH xh).length=6:=z;obtain⟨h,p,g,d,i,y,rfl⟩:=YK<|m.trans r;kernel_rfl
def W_(n:ba):cB (aR n) "_div3n2n" (.ref 99):=gh z
def m6:aP:=(aN aU 10)
def Kx(n:ba):eB (aR n) 106 (b9 m6) (bH m6) (bp m6):=by refine g6 (a:=106) (cd:=105) (a4:=tY n.params) (f3:=Al n.params) (fd:=fN<|tY n.params) (aa:=g5<|Al n.params) (t:=2258) z rfl z z z z z rfl z z z z z z z z z z λk m=>?_;have r:(bH m6).length=2:=z;obtain⟨f,p,rfl⟩:=o3<|m.trans r;kernel_rfl
def WQ(n:ba):cB (aR n) "_int2digits" (.ref 106):=gh z
def m7:aP:=(aN aU 11)
def Ky(n:ba):eB (aR n) 113 (b9 m7) (bH m7) (bp m7):=by refine g6 (a:=113) (cd:=112) (a4:=tZ n.params) (f3:=Am n.params) (fd:=fN<|tZ n.params) (aa:=g5<|Am n.params) (t:=2269) z rfl z z z z z rfl z z z z z z z z z z λk m=>?_;have r:(bH m7).length=2:=z;obtain⟨f,p,rfl⟩:=o3<|m.trans r;kernel_rfl
def WR(n:ba):cB (aR n) "_digits2int" (.ref 113):=gh z
def me:aP:=(aN aU 12)
def VX(n:ba):eB (aR n) 120 (b9 me) (bH me) (bp me):=by refine g6 (a:=120) (cd:=119) (a4:=Em n.params) (f3:=El n.params) (fd:=fN<|Em n.params) (aa:=g5<|El n.params) (t:=2280) z rfl z z z z z rfl z z z z z z z z z z λk m=>?_;have r:(bH me).length=2:=z;obtain⟨f,p,rfl⟩:=o3<|m.trans r;kernel_rfl
def WS(n:ba):cB (aR n) "_divmod_pos" (.ref 120):=gh z
def mf:aP:=(aN aU 13)
def VY(n:ba):eB (aR n) 127 (b9 mf) (bH mf) (bp mf):=by refine g6 (a:=127) (cd:=126) (a4:=Eo n.params) (f3:=En n.params) (fd:=fN<|Eo n.params) (aa:=g5<|En n.params) (t:=2295) z rfl z z z z z rfl z z z z z z z z z z λk m=>?_;have r:(bH mf).length=2:=z;obtain⟨f,p,rfl⟩:=o3<|m.trans r;kernel_rfl
def WT(n:ba):cB (aR n) "int_divmod" (.ref 127):=gh z
def mg:aP:=(aN aU 18)
def VZ(n:ba):eB (aR n) 134 (b9 mg) (bH mg) (bp mg):=by refine g6 (a:=134) (cd:=133) (a4:=Er n.params) (f3:=Ep n.params) (fd:=fN<|Er n.params) (aa:=g5<|Ep n.params) (t:=2319) z rfl z z z z z rfl z z z z z z z z z z λk m=>?_;have r:(bH mg).length=3:=z;obtain⟨f,p,g,rfl⟩:=o4<|m.trans r;kernel_rfl
def WU(n:ba):cB (aR n) "rgb_to_hls" (.ref 134):=gh z
def mh:aP:=(aN aU 19)
def V0(n:ba):eB (aR n) 141 (b9 mh) (bH mh) (bp mh):=by refine g6 (a:=141) (cd:=140) (a4:=Et n.params) (f3:=Es n.params) (fd:=fN<|Et n.params) (aa:=g5<|Es n.params) (t:=2338) z rfl z z z z z rfl z z z z z z z z z z λk m=>?_;have r:(bH mh).length=3:=z;obtain⟨f,p,g,rfl⟩:=o4<|m.trans r;kernel_rfl
def WV(n:ba):cB (aR n) "hls_to_rgb" (.ref 141):=gh z
def mi:aP:=(aN aU 20)
def V1(n:ba):eB (aR n) 148 (b9 mi) (bH mi) (bp mi):=by refine g6 (a:=148) (cd:=147) (a4:=Ew n.params) (f3:=Eu n.params) (fd:=fN<|Ew n.params) (aa:=g5<|Eu n.params) (t:=2349) z rfl z z z z z rfl z z z z z z z z z z λk m=>?_;have r:(bH mi).length=3:=z;obtain⟨f,p,g,rfl⟩:=o4<|m.trans r;kernel_rfl
def WW(n:ba):cB (aR n) "_v" (.ref 148):=gh z
def mj:aP:=(aN aU 21)
def V2(n:ba):eB (aR n) 155 (b9 mj) (bH mj) (bp mj):=by refine g6 (a:=155) (cd:=154) (a4:=Ey n.params) (f3:=Ex n.params) (fd:=fN<|Ey n.params) (aa:=g5<|Ex n.params) (t:=2358) z rfl z z z z z rfl z z z z z z z z z z λk m=>?_;have r:(bH mj).length=3:=z;obtain⟨f,p,g,rfl⟩:=o4<|m.trans r;kernel_rfl
def WX(n:ba):cB (aR n) "rgb_to_hsv" (.ref 155):=gh z
def ml:aP:=(aN aU 22)
def V3(n:ba):eB (aR n) 162 (b9 ml) (bH ml) (bp ml):=by refine g6 (a:=162) (cd:=161) (a4:=EA n.params) (f3:=Ez n.params) (fd:=fN<|EA n.params) (aa:=g5<|Ez n.params) (t:=2376) z rfl z z z z z rfl z z z z z z z z z z λk m=>?_;have r:(bH ml).length=3:=z;obtain⟨f,p,g,rfl⟩:=o4<|m.trans r;kernel_rfl
def WY(n:ba):cB (aR n) "hsv_to_rgb" (.ref 162):=gh z
def mm:aP:=(aN (iC<|aN aU 24) 1)
def V4(n:ba):eB (aR n) 179 (b9 mm) (bH mm) (bp mm):=by refine g6 (a:=179) (cd:=178) (a4:=An n.params) (f3:=EB n.params) (fd:=fN<|An n.params) (aa:=g5<|EB n.params) (t:=2409) z rfl z z z z z rfl z z z z z z z z z z λk m=>?_;have r:(bH mm).length=2:=z;obtain⟨f,p,rfl⟩:=o3<|m.trans r;kernel_rfl
def xe:aP:=(aN (iC<|aN aU 24) 2)
def V5(n:ba):eB (aR n) 186 (b9 xe) (bH xe) (bp xe):=by refine g6 (a:=186) (cd:=185) (a4:=ED n.params) (f3:=EC n.params) (fd:=fN<|ED n.params) (aa:=g5<|EC n.params) (t:=2424) z rfl z z z z z rfl z z z z z z z z z z λk m=>?_;have r:(bH xe).length=1:=z;obtain⟨f,rfl⟩:=wt<|m.trans r;kernel_rfl
def xf:aP:=(aN (iC<|aN aU 24) 3)
def V6(n:ba):eB (aR n) 193 (b9 xf) (bH xf) (bp xf):=by refine g6 (a:=193) (cd:=192) (a4:=EF n.params) (f3:=EE n.params) (fd:=fN<|EF n.params) (aa:=g5<|EE n.params) (t:=2433) z rfl z z z z z rfl z z z z z z z z z z λk m=>?_;have r:(bH xf).length=2:=z;obtain⟨f,p,rfl⟩:=o3<|m.trans r;kernel_rfl
def xg:aP:=(aN (iC<|aN aU 24) 6)
def V7(n:ba):eB (aR n) 214 (b9 xg) (bH xg) (bp xg):=by refine g6 (a:=214) (cd:=213) (a4:=EH n.params) (f3:=EG n.params) (fd:=fN<|EH n.params) (aa:=g5<|EG n.params) (t:=2461) z rfl z z z z z rfl z z z z z z z z z z λk m=>?_;have r:(bH xg).length=2:=z;obtain⟨f,p,rfl⟩:=o3<|m.trans r;kernel_rfl
def i6:aP:=(aN aU 26)
def V8(n:ba):eB (aR n) 235 (b9 i6) (bH i6) (bp i6):=by refine g6 (a:=235) (cd:=234) (a4:=EJ n.params) (f3:=EI n.params) (fd:=fN<|EJ n.params) (aa:=g5<|EI n.params) (t:=2494) z rfl z z z z z rfl z z z z z z z z z z λk m=>?_;have r:(bH i6).length=3:=z;obtain⟨f,p,g,rfl⟩:=o4<|m.trans r;kernel_rfl
def WZ(n:ba):cB (aR n) "_law_deal" (.ref 235):=gh z
def mn:aP:=(aN aU 27)
def V9(n:ba):eB (aR n) 240 (b9 mn) (bH mn) (bp mn):=by refine g6 (a:=240) (cd:=239) (a4:=EL n.params) (f3:=EK n.params) (fd:=fN<|EL n.params) (aa:=g5<|EK n.params) (t:=2505) z rfl z z z z z rfl z z z z z z z z z z λk m=>?_;have r:(bH mn).length=2:=z;obtain⟨f,p,rfl⟩:=o3<|m.trans r;kernel_rfl
def W0(n:ba):cB (aR n) "_law_typed" (.ref 240):=gh z
def mq:aP:=(aN aU 28)
def V_(n:ba):eB (aR n) 245 (b9 mq) (bH mq) (bp mq):=by refine g6 (a:=245) (cd:=244) (a4:=EN n.params) (f3:=EM n.params) (fd:=fN<|EN n.params) (aa:=g5<|EM n.params) (t:=2511) z rfl z z z z z rfl z z z z z z z z z z λk m=>?_;have r:(bH mq).length=4:=z;obtain⟨f,p,g,d,rfl⟩:=L8<|m.trans r;kernel_rfl
def W2(n:ba):cB (aR n) "_law_lamp" (.ref 245):=gh z
def m8:aP:=(aN aU 29)
def Kz(n:ba):eB (aR n) 250 (b9 m8) (bH m8) (bp m8):=by refine g6 (a:=250) (cd:=249) (a4:=t5 n.params) (f3:=EO n.params) (fd:=fN<|t5 n.params) (aa:=g5<|EO n.params) (t:=2517) z rfl z z z z z rfl z z z z z z z z z z λk m=>?_;have r:(bH m8).length=3:=z;obtain⟨f,p,g,rfl⟩:=o4<|m.trans r;kernel_rfl
def W3(n:ba):cB (aR n) "_law_tables" (.ref 250):=gh z
def hy:aP:=(aN aU 30)
def KA(n:ba):eB (aR n) 255 (b9 hy) (bH hy) (bp hy):=by refine g6 (a:=255) (cd:=254) (a4:=ER n.params) (f3:=EP n.params) (fd:=fN<|ER n.params) (aa:=g5<|EP n.params) (t:=2523) z rfl z z z z z rfl z z z z z z z z z z λk m=>?_;have r:(bH hy).length=1:=z;obtain⟨f,rfl⟩:=wt<|m.trans r;kernel_rfl
def W4(n:ba):cB (aR n) "law" (.ref 255):=gh z
noncomputable def vQ:List (au×af):=[("ONE_THIRD",.float 4599676419421066581),("ONE_SIXTH",.float 4595172819793696085),("TWO_THIRD",.float 4604180019048437077),("_DIV_LIMIT",.int 4000)]
def CX:∀m d,vQ.lookup m=I d->∃t,cB (aR n) m t/\∀c j,Rz c j t d:=by
 intro m d j;have a:=mem_of_lookup j;have all:∀s∈vQ,∃t,cB (aR n) s.1 t/\∀c j,Rz c j t s.2:=by intro s ax;unfold vQ at ax;simp only[c9,lE,or_false]at ax;rcases ax with rfl|rfl|rfl|rfl;exact⟨.float 4599676419421066581 2308,gh z,λc j=>.float _ _ z⟩;exact⟨.float 4595172819793696085 2312,gh z,λc j=>.float _ _ z⟩;exact⟨.float 4604180019048437077 2316,gh z,λc j=>.float _ _ z⟩;exact⟨.int 4000 2224,gh z,λc j=>.int _ _⟩
 exact all _ a
def tM(r:bL)(m:au):Option ar:=ir (vg<|t4 r) m
def CP(b:ba):HQ (aR b) 224 (tM b.params)where
 obj:=λj k=>by have i:=gB (a:=224) k z rfl (show(gA b.params).get 224=I (Ao b.params)by kernel_rfl) z;have g:=gB (a:=223) k z rfl (show(gA b.params).get 223=I (t4 b.params)by kernel_rfl) z;exact⟨_,_,223,_,_,_,_,_,_,_,_,_,_,_,i,Ak (bA:=vg<|t4 b.params) (n:=zm<|t4 b.params) g z z⟩
 ga:=by show ir _ _=ai;kernel_rfl
 ge:=by show ir _ _=ai;kernel_rfl
def z2:mJ:={fns:=[],o6:=[],attrs:=[],cls:=224,hand:=λ_ _=>ai,la:=λ_ _ _=>ai,const:=λm=>vQ.lookup m,h9:=λ_ _=>ai}
def L'(n:ba)(q:Nat):nE (aR n) z2 q (tM n.params)where
 blt:=CK n
 cls:=CP n
 fns:=λy t j=>by cases j
 o6:=λy t j=>by cases j
 attrs:=λm j=>by cases j
 hand:=λy g d j=>by cases j
 la:=λy a g d j=>by cases j
 const:=CX
 h9:=λy m d j=>by cases j
def ct:cY:=t6 z2
def eh(n:ba)(q:Nat):dv (aR n) ct q:=Ar<|L' n q
def w_(x:cQ):Array (Int×ar):=match x.data with|.set b _ _=>b|_=>#[]
def ab8(x:cQ):Nat:=match x.data with|.set _ s _=>s|_=>0
def ab_(x:cQ):SetTable:=match x.data with|.set _ _ k=>k|_=>SetTable.fresh 0 0 av
noncomputable def wj(t:ar):Option Int:=if j:t.ctorIdx=4 then agr (motive:=λ_=>Option Int) t j λc _=>I c else ai
def LH(j:wj a=I k):∃b,a=.int k b:=by by_cases w:a.ctorIdx=4;exact agr (motive:=λa=>wj a=I k->∃b,a=.int k b) a w (λc b j=>aZ j▸⟨b,rfl⟩) j;exact nS<|(dif_neg w).symm.trans j
noncomputable def oB:List Int:=[65024,65025,65026,65027,65028,65029,6150,65030,65031,65032,65033,6155,6156,6157,8203,8204,8205,65034,65035,65036,65037,65038,65039,173,847,8288,65279]
def S7(r:bL):((w_<|n2 r).all λi=>(wj i.2).elim av λt=>i.1==hashInt t&&i.2.scannable)=ah:=z
def S8(r:bL):(w_<|n2 r).toList.filterMap (λi=>wj i.2)=oB:=z
def S9(n:ba)(f:e5 n j):j.SetOf (ow cH n) 29 (λk=>oB.contains k) 27:=by
 have i:=gB (a:=29) f z rfl (show(gA n.params).get 29=I (n2 n.params)by kernel_rfl) z;have c:=aen.mp<|S7 n.params;have b:∀m∈(w_<|n2 n.params).toList,∃d f,m.2=.int d f/\m.1=hashInt d/\m.2.scannable=ah:=by intro m ag;obtain⟨d,s,l⟩:=eU<|c m<|aer.mp ag;obtain⟨f,i⟩:=LH s;exact⟨d,f,i,bF (aY l).1,(aY l).2⟩
 refine⟨n2 n.params,w_<|n2 n.params,ab8<|n2 n.params,ab_<|n2 n.params,i,⟨z,z,z⟩,z,λm ag=>?_,λk=>?_,by rw[(z:(w_<|n2 n.params).size=27)];decide,?_,z⟩;obtain⟨d,f,aC,aM,bU⟩:=b m ag;exact⟨⟨d,by rw[aC];simp[ow,qQ],aM⟩,bU⟩;show oB.contains k=ah↔_;rw[<-S8 n.params,hA,decide_eq_true_eq,ae8];constructor;rintro⟨m,ag,y⟩;obtain⟨d,f,aC,Z⟩:=b m ag;rw[aC]at y;obtain rfl:=aZ (y:I d=I k);exact⟨m,ag,by rw[aC];simp[ow,qQ]⟩;rintro⟨m,ag,y⟩;obtain⟨d,f,aC,Z⟩:=b m ag;refine⟨m,ag,?_⟩;rw[aC]at y ⊢;simp[ow,qQ]at y;exact congrArg I y;kernel_rfl
def aO(i:aP):aq:=((xy i).bind (·.1)).getD (((i_ i).map (·.2.1)).getD ((pn i).elim (.Constant .none 0 ⟨0,0,0,0⟩) (·.1)))
def f7(i:aP):a8:=((xy i).map (·.2)).getD (((i_ i).map (·.2.2)).getD ((pn i).elim ⟨0,0,0,0⟩ (·.2.2.2)))
def CR(i:aq):aq:=(r6 i).elim i (·.1)
def CS(i:aq):aq:=((r6 i).bind (·.2.2.1.head?)).getD i
def ho(i:aq):a8:=((r6 i).map (·.2.2.2)).getD (((fo i).map (·.2)).getD (((kM i).map (·.2.2.2)).getD ((uv i).elim ⟨0,0,0,0⟩ (·.2.2))))
def rq:aq:=aO<|aN (bp n_) 0
def TN:bp n_=[.Return (I<|.Compare (CR rq) [.In] [.Name "b1_set"<|ho<|CS rq]<|ho rq)<|f7<|aN (bp n_) 0]:=z
def RT:a0:=a0.fn<|b9 n_
def VE(g:Nat):bh ct 9 RT [("code",.str ⟨#[g]⟩)] (CR rq)=I (.int g):=z
def W5(n:ba):cB (aR n) "b1_set" (.ref 29):=gh z
set_option tactic.hygienic true in
def XG(n:ba)(b:Nat):eg (aR n) (.ref 39) [.str ⟨#[b]⟩] (N+1) (.bool<|oB.contains (b:Int)):=by refine Jy (r:=.ret<|.bool<|oB.contains (b:Int)) (KC n) z z (.inl rfl) λoJ i l A j=>?_;rw[TN];refine cc.ret<|NV λy C ak=>?_;intro ae m e h B q;have a:=ak.ev (eh n N) (rwL i<|cz _)<|show bh ct 9 (a0.fn<|b9 n_) (aG.plus<|c4 (bH n_) [.str ⟨#[b]⟩]) (CR rq)=I (.int b)from VE b;rw[agA];refine aA<|a ae m e _ _ λF p d f=>?_;rw[show sL [PR "b1_set"<|ho<|CS rq] oJ.env=[cx (.Name "b1_set"<|ho<|CS rq) oJ.env]from rfl,z' rfl];rw[JF];refine aA<|du<|kx ak.borrow z (W5 n) p (e.ext d) _ _<|aA<|dT<|qs ?_;cases f;rename_i D;exact wpAny_inSet_of (knd:=ow cH n) (k:=(b:Int)) (by simp[ow,qQ]) rfl (S9 n (e.ext d).ok)<|q _ _ (d.trans aw.tok)<|.bool _
noncomputable def xj(t:ar):Option au:=if j:t.ctorIdx=6 then agv (motive:=λ_=>Option au) t j λm _=>I m else ai
def acP(j:xj a=I m):∃k,a=.str m k:=by by_cases w:a.ctorIdx=6;exact agv (motive:=λa=>xj a=I m->∃k,a=.str m k) a w (λm k j=>aZ j▸⟨k,rfl⟩) j;exact nS<|(dif_neg w).symm.trans j
def vH(g:Int):Option au:=(te.find? λi=>qQ g i.key).bind λi=>xj i.val
def I3:(te.all λi=>(wj i.key).elim av λt=>i.hash==hashInt t&&(xj i.val).isSome)=ah:=z
def I4(n:ba)(d:e5 n j):j.MapOf (ow cH n) 40 (λk=>(te.find? λb=>qQ k b.key).map (·.val)):=by have b:=gB (a:=40) d z rfl (show(gA n.params).get 40=I y_ by kernel_rfl) z;refine⟨y_,te.toArray,_,b,⟨rfl,rfl,rfl⟩,rfl,λm ag=>?_,λk=>?_⟩;obtain⟨c,s,l⟩:=eU<|bG.mp I3 m<|aer.mpr ag;obtain⟨d,b⟩:=LH s;exact⟨c,by rw[b];simp[ow,qQ],bF (aY l).1⟩;unfold findBy;simp[ow]
def Ea(i:aq):aq:=(pq i).elim i (·.1)
def D'(i:aq):a8:=(pq i).elim ⟨0,0,0,0⟩ (·.2.2.1)
def vF(i:aq):aq:=((kM i).bind (·.2.1.head?)).getD i
def F9(st:aP):a8:=(((i_ st).bind (·.1.head?)).bind fo).elim ⟨0,0,0,0⟩ (·.2)
def LA(i:aP):List aP:=(pn i).elim [] (·.2.1)
def kY:aq:=aO<|aN (bp fx) 0
def TO:bp fx=[.Assign [.Name "r"<|F9<|aN (bp fx) 0] (.Call (.Attribute (.Name "b3_exceptions"<|ho<|Ea kY) "get"<|D' kY) [vF kY] []<|ho kY)<|f7<|aN (bp fx) 0,.If (aO<|aN (bp fx) 1) (LA<|aN (bp fx) 1) []<|f7<|aN (bp fx) 1,.Return (I<|aO<|aN (bp fx) 2)<|f7<|aN (bp fx) 2]:=z
def q':a0:=a0.fn<|b9 fx
def VF(g:Nat):bh ct 9 q' (aG.plus<|c4 (bH fx) [.str ⟨#[g]⟩]) (vF kY)=I (.int g):=z
def NX:eM (vF kY)=av:=z
def YW:((D' kY).endLine==(ho kY).line)=ah:=z
def W7(n:ba):cB (aR n) "b3_exceptions" (.ref 40):=gh z
def oC(g:Nat):af:=match vH g with|some m=>.str m|none=>.none
def NP(g:Nat):aG:=aG.vals (c4 (bH fx) [.str ⟨#[g]⟩]) [(bM "r",oC g)]
def Tw(d:af):eR q' (.Name "r"<|F9<|aN (bp fx) 0) d []=I [(bM "r",d)]:=z
def js(g:Nat):Option af:=match vH g with|some m=>some (.str m)|none=>if !PN (x5 ⟨#[g]⟩).length then some (.str<|x5 ⟨#[g]⟩)else none
def adl(g:Nat)(m:au):fB ct 9 q' (aG.plus<|aG.vals (c4 (bH fx) [.str ⟨#[g]⟩]) [(bM "r",.str m)]) (aO<|aN (bp fx) 1)=I ah:=z
def adk(g:Nat):fB ct 9 q' (aG.plus<|aG.vals (c4 (bH fx) [.str ⟨#[g]⟩]) [(bM "r",.none)]) (aO<|aN (bp fx) 1)=I av:=z
def ado(g:Nat)(m:au):a6 ct q' [] 9 (aG.vals (c4 (bH fx) [.str ⟨#[g]⟩]) [(bM "r",.str m)]) (LA<|aN (bp fx) 1)=I (.ret<|.str m):=z
def Zh(g:Nat):bh ct 9 q' (aG.plus<|aG.vals (c4 (bH fx) [.str ⟨#[g]⟩]) [(bM "r",.none)]) (aO<|aN (bp fx) 2)=ma (.str ⟨#[g]⟩) "lower" []:=z
set_option tactic.hygienic true in
def Zs(n:ba)(a:Nat)(d:af)(j:js a=some d):eg (aR n) (.ref 85) [.str ⟨#[a]⟩] (N+1) d:=by
 refine Jy (r:=.ret d) (KD n) z z (.inl rfl) λoJ K L aj ai=>?_;have h:N<=oJ.fuel:=rwL K<|cz _;rw[TO];have first:cc (aR n) oJ q' (dY (.Assign [.Name "r"<|F9<|aN (bp fx) 0] (.Call (.Attribute (.Name "b3_exceptions"<|ho<|Ea kY) "get"<|D' kY) [vF kY] []<|ho kY)<|f7<|aN (bp fx) 0) oJ.env) (c4 (bH fx) [.str ⟨#[a]⟩]) (.next<|NP a):=by
  refine acD (d:=oC a) (hz:=[(bM "r",oC a)]) rfl (λap ar ak=>?_) (by unfold oC;cases vH a<;>rfl)<|Tw _;intro ae m H ao an q;have p:=ak.ext m;refine ye (T:="dict") (id:="dict.get") rfl (by rw[r1 NX];rfl) YW F.plainAttrs_dict af4 PySem.F.type_dict_get ?_;refine kx p.borrow z (W7 n) ae H _ _ ?_;obtain⟨U,ah,ad,D,B,I,Z⟩:=I4 n H.ok;refine⟨⟨U,D,B.1⟩,λaa J=>by cases J;exact⟨U,D,B.2.1⟩,?_⟩;have G:fv (aR n) oJ [vF kY] ae [.int a]:=rg (p.ev (eh n N) h<|VF a) NX;refine vL (G _).2 (G _).1 (aw.refl ae) H λam Y A f=>?_;cases f;rename_i V X;cases X;cases V;rename_i al;refine call_meetsIn af4 ⟨U,A.keep _ _ D (λab=>by rcases ab with ab|ab<;>cases ab),B.1⟩ PySem.F.entry_dict_get (PySem.F.args_dict_get_2 _ _) (meets_dict_get (ow cH n) (k:=(a:Int)) 40 (by simp[ow,qQ]) rfl) ?_;refine⟨_,I4 n (H.ext A).ok,?_⟩;refine q _ _ (A.trans aw.tok) ?_;unfold oC vH;induction O:te.find? λb=>qQ (a:Int) b.key using b6 with
  |none=>exact .none
  |some b=>
   have R:=List.mem_of_find?_eq_some O;obtain⟨aq,Z,l⟩:=eU<|bG.mp I3 b R;obtain⟨m,ag⟩:=qL.mp (aY l).2;obtain⟨al,S⟩:=acP ag;show Rz _ _ b.val (match xj b.val with|some m=>af.str m|none=>.none);rw[ag,S];exact .str _ _
 refine cc.cons first ?_
 unfold js at j;unfold NP;induction C:vH a using b6 with
 |some ac=>
  rw[C]at j;cases j;have b:oC a=.str ac:=by unfold oC;rw[C]
  rw[b];exact cc.ret<|ug (eh n N) h (adl a ac) (λZ=>cc.Ap (M:=[]) (eh n N) h<|ado a ac) λq=>nomatch q
 |none=>
  rw[C]at j;have b:oC a=.none:=by unfold oC;rw[C]
  rw[b];dsimp only at j;split at j;rename_i P;cases j;refine cc.cons (aX:=aG.vals (c4 (bH fx) [.str ⟨#[a]⟩]) [(bM "r",.none)]) (ug (eh n N) h (adk a) (λq=>nomatch q) λZ=>cc.nil)<|cc.ret<|FP (eh n N) h<|(Zh a).trans ?_;unfold ma;simp only[beq_self_eq_true,Bh];rw[if_pos P];cases j
def rt(r:bL):Frag:=[(224,Ao r),(223,t4 r),(2,sF r)]
theorem Cu{g:Type}:∀{d:List (aF×g)}{f:aF}{p:g},d.lookup f=I p->(f,p)∈d
 |[],Z,t,j=>by cases j
 |(m,c)::d,f,p,j=>by
  rw[ey]at j
  induction q:f==m using bz with|true=>rw[q]at j;cases j;rw[bF q];exact dA .. |false=>rw[q]at j;exact dt _<|Cu j
def KX(k:e5 n j):(rt n.params).In j:=by intro f b i;have x:=Cu i;unfold rt at x;simp only[c9,lE,or_false]at x;rcases x with x|x|x<;>injection x with s l<;>subst s<;>subst l;exact gB (a:=224) k z rfl z z;exact gB (a:=223) k z rfl z z;exact gB (a:=2) k z rfl (cn _)<|dV _
noncomputable def zD(y m:au):Option af:=if y==("Whitespace":au)then(if m==("S":au)then I (.str " ")else if m==("T":au)then I (.str "\t")else ai)else ai
def K3(n:ba):cB (aR n) "Whitespace" (.ref 224):=gh z
def Ng(r:bL):readsIn (rt r) 224 (.type "type")=ah:=z
def QS(r:bL):findCls (rt r) (.ref 224) (.type "type") "S"=I (.val<|.str " " 2404):=z
def Wm(r:bL):findCls (rt r) (.ref 224) (.type "type") "T"=I (.val<|.str "\t" 2405):=z
def Lb(p:ba):∀r m d,zD r m=I d->∃t,cB (aR p) r t/\∀(c:aF->Prop)(k:ef)(y:Nat)(l:aB),bf (aR p) c k y l->∀(a:ar->aB->Prop)(j:ar->aB->Prop),(∀i ae,aw (aR p) l ae->Rz c ae.heap i d->a i ae)->aL (aQ (aR p).prog (aR p).w) k (x9 t m ah) a j l:=by
 intro r m d b;unfold zD at b;split at b;case isFalse=>cases b
 rename_i B;rw[bF B];refine⟨_,K3 p,λc k y l e a j q=>?_⟩;split at b;rename_i ag;cases b;rw[bF ag];exact cls_value (KX e.ok) (Ng _) (QS _) rfl<|q _ _ aw.tok<|.str _ _;split at b;rename_i ag;cases b;rw[bF ag];exact cls_value (KX e.ok) (Ng _) (Wm _) rfl<|q _ _ aw.tok<|.str _ _;cases b
def Ed(a:Nat)(y:au)(d g:List af):Option af:=if y==("_law_deal":au)then w6 ct ["dealt"] (b9 i6) "pool" ["number","count"] (bp i6) a d g else ai
def ZP(c:ba)(q:1<=e):∀m s g d,Ed y m s g=I d->∃A,cB (aR c) m A/\eO (aR c) A/\q7 (aR c) A s g e d:=by
 intro m s g d j;unfold Ed at j;split at j;rename_i r;rw[bF r];have B:eB (aR c) 235 (b9 i6) ("pool"::["number","count"]) (bp i6):=by have:=V8 c;rwa [(z:bH i6=([bM "pool",bM "number",bM "count"]:List au))]at this
 refine⟨_,WZ c,eO.fn λj k=>(by obtain⟨x,i,C,p,Z⟩:=B.cls j k;exact⟨x,i,C,p⟩),(abT (M:=["dealt"]) (eh c 0) B j).mono q⟩;cases j
def v7{x:Model}{k:ef}{d:ar->aB->Prop}{c:kQ}{p:List aP}{m:nt->aB->Prop}:∀{a:List aP}{l:aB},aL x k (ep a c) (λf ae=>match f with|.next=>aL x k (ep p c) m d ae|f=>m f ae) d l->aL x k (ep (a++p) c) m d l:=by
 intro a;have i:ep (a++p) c=(ep a c>>=λf=>match f with|.next=>ep p c|f=>bq f):=by
  induction a with
  |nil=>show ep p c=(bq gU>>=_);rw[uL]
  |cons st w g=>
   show(dY st c>>=λf=>match f with|.next=>ep (w++p) c|f=>bq f)=((dY st c>>=λf=>match f with|.next=>ep w c|f=>bq f)>>=_);rw[uK];congr 1;funext f;cases f<;>first|(dsimp only;exact g)|(dsimp only;rw[uL])
 intro l j;rw[i];refine aA<|fh j (λf ae q=>?_) λZ Z ab=>ab;cases f<;>first|exact q|exact a' q
def mR(r:bL):Frag:=(179,An r)::rt r
def tr(k:e5 n j):(mR n.params).In j:=by intro f b i;have x:=Cu i;unfold mR rt at x;simp only[c9,lE,or_false]at x;rcases x with x|x|x|x<;>injection x with s l<;>subst s<;>subst l;exact gB (a:=179) k z rfl z z;exact gB (a:=224) k z rfl z z;exact gB (a:=223) k z rfl z z;exact gB (a:=2) k z rfl (cn _)<|dV _
def ZG(r:bL):makesIn (mR r) 224=ah:=z
def XH(r:bL):Hq (mR r) (.ref 224) "__init__"=I (I<|.ref 179):=z
def Ww(r:bL):typeIn (mR r) (.ref 179)=I (.type "function"):=z
def abZ(r:bL):Hq (mR r) (.ref 224) "__setattr__"=I (I<|.builtin "object.__setattr__"):=z
def abf(r:bL):P8 (mR r) 224=ah:=z
def Xt(r:bL):P7 (mR r) 224=ah:=z
def Yy(n:ba):eO (aR n) (.ref 224):=λj k=>by refine⟨.machine,.inr rfl,(agy (part:=ai)<|tr k 224 (Ao n.params) z).andThen ?_⟩;exact(looks_specialIn (K:=mR n.params) (r:=I<|.builtin "type.__call__") (tr k) z).andThen .now
def D5:mJ:={z2 with attrs:=["raw"],h9:=zD}
def YV(n:ba)(q:Nat):nE (aR n) D5 q (tM n.params)where
 blt:=CK n
 cls:=CP n
 fns:=λy t j=>by cases j
 o6:=λy t j=>by cases j
 attrs:=λm j=>by
  have:m=("raw":au):=by simpa[D5]using j
  subst this;exact⟨z,z⟩
 hand:=λy g d j=>by cases j
 la:=λy a g d j=>by cases j
 const:=CX
 h9:=Lb n
def pM:cY:=t6 D5
def Ii(n:ba)(q:Nat):dv (aR n) pM q:=Ar<|YV n q
def s7(i:aP):aq:=(i_ i).elim ie (·.2.1)
def s8(st:aP):a8×a8×a8:=((i_ st).bind λf=>(f.1.head?.bind uv).bind λab=>(fo ab.1).map λy=>(y.2,ab.2.2,f.2.2)).getD (⟨0,0,0,0⟩,⟨0,0,0,0⟩,⟨0,0,0,0⟩)
def t_(st:aP)(g:au):aP:=.Assign [.Attribute (.Name "self" (s8 st).1) g (s8 st).2.1] (s7 st) (s8 st).2.2
def iy(c:Nat):aP:=aN (bp mm) c
def Ab:List aP:=[iy 1,iy 2,iy 3,iy 4]
def TL:bp mm=t_ (iy 0) "raw"::(Ab++[t_ (iy 5) "n",t_ (iy 6) "nt",t_ (iy 7) "norm",t_ (iy 8) "is_simple"]):=z
def kU:a0:={a0.fn (b9 mm)with own:=(a0.fn<|b9 mm).own.filter λm=>!(m==("self":au))}
def aW(σ:aG):aG:=σ.filter λs=>FL s.2
noncomputable def xa(y:au):aG:=[("self",.val<|.obj 224 []),("ws",.val<|.str y)]
noncomputable def AO(y:au):aG:=[("self",.val<|.obj 224 [("raw",.str y)]),("ws",.val<|.str y)]
noncomputable def ace:Option h3->Option aG|some (.next σ)=>some σ|_=>ai
def tj(σ:aG)(c:Nat):Option af:=(bh pM 20 kU σ.plus<|s7<|iy c).bind λd=>if eD d then I d else ai
def qt(y:au):Option af:=(ace<|a6 pM kU ["count"] 4000 (AO y) Ab).bind λσ=>(tj σ 5).bind λx=>(tj (aW σ) 6).bind λc=>(tj (aW<|aW σ) 7).bind λd=>(tj (aW<|aW<|aW σ) 8).bind λf=>
  I (.obj 224 [("raw",.str y),("n",x),("nt",c),("norm",d),("is_simple",f)])
theorem zx:∀{σ:aG},dM (σ.map (·.1))=true->(σ.filter s).lookup m=I t->σ.lookup m=I t
 |[]=>@λZ a=>a
 |(ab,i)::w=>@λj a=>by
  rw[c8]at j
  unfold dM at j
  simp only[bY,ew,hA,decide_eq_false_iff_not]at j
  rw[iM]at a
  rw[ey]
  induction q:m==ab using bz with
  |true=>
   have l:=bF q;subst l;split at a;rw[ey,q]at a;exact a;have:=zx j.2 a;exact absurd (lD (f:=(·.1))<|mem_of_lookup this) j.1
  |false=>
   split at a;rw[ey,q]at a;exact zx j.2 a;exact zx j.2 a
def abb(j:dM (σ.map (·.1))=ah):∀m t,(aW σ).lookup m=I t->σ.lookup m=I t:=λm t i=>zx j i
def aa_(j:dM (σ.map (·.1))=ah):dM ((aW σ).map (·.1))=ah:=s6 j
def aa'(σ:aG):vk (aW σ)=ah:=bG.mpr λs ax=>(dP.mp ax).2
def zr(j:tj σ c=I d):bh pM 20 kU σ.plus (s7<|iy c)=I d/\eD d=ah:=by unfold tj at j;rw[mz]at j;obtain⟨f,s,l⟩:=j;split at l;cases l;exact⟨s,by assumption⟩;cases l
def wZ{R cG:aF}(D:h5 (aR w) e kU "self" R cG 224 p σ y b r k l)(B:bh pM 20 kU σ.plus (s7<|iy f)=I d)(J:eD d=ah)(C:mC (s7<|iy f) (I<|.Attribute (.Name "self" (s8<|iy f).1) g (s8<|iy f).2.1) (s8<|iy f).2.2.line e.env=bq av)(M:takerIn (mR w.params) 224 g=I ai)(F:b.any (·.key.isStr g)=av)(G:b.any (·.refKey)=av)(N:b.length<1000)(q:∀L P S O ae,h5 (aR w) e kU "self" R cG 224 p (aW σ) y (b++[⟨L,.str g P,S⟩]) O (k++[(g,d)]) ae->aL (aQ cH w) e.A (ep a e.env) n j ae):aL (aQ cH w) e.A (ep (t_ (iy f) g::a) e.env) n j l:=gX<|D.put (K:=mR w.params) (λT P=>tr P) (D.sim.ev (Ii w 0) (cO _) B) J C z (abZ _) (abf _) M (Xt _) F G N (abb D.sim.keys) (aa_ D.sim.keys) (aa' σ) q
def Aw:bH mm=[("self":au),("ws":au)]:=z
def aby(y:au):bh pM 20 kU (xa y).plus (s7<|iy 0)=I (.str y):=z
def aba(y:au):(aW<|xa y).set "self" (.val<|.obj 224<|([]:List (au×af))++[(bM "raw",af.str y)])=AO y:=z
set_option tactic.hygienic true in
set_option maxHeartbeats 1000000 in
def adM(n:ba)(aq:qt f=some d):eg (aR n) (.ref 224) [.str f] 2 d:=by
 intro aG a1 l aa R aW bv bu q;cases aW;rename_i aV aE;cases aE;cases aV;rename_i k;simp only[qt,mz,BH]at aq;obtain⟨σ,H,a8,am,a9,an,a',ao,bb,ap,rfl⟩:=aq;have H:a6 pM kU ["count"] 4000 (AO f) Ab=some (.next σ):=by induction aB:a6 pM kU ["count"] 4000 (AO f) Ab using b6 with|none=>rw[aB]at H;exact nS H|some aV=>rw[aB]at H;cases aV<;>first|exact nS H|exact congrArg _<|congrArg _<|aZ H
 refine B0 ?_;have aT:=makes_of (M:=aQ cH n) (tr R.ok)<|ZG n.params;refine make_core (h:=l.heap) (g:=l.gens) (d:=l.drawn) (t:=l.toks) (os:=l.os) aT (looks_findIn (tr R.ok)<|XH _) (λas=>bind_fn (tr R.ok) as<|Ww _) (.inl rfl) ?_;have V:aw (aR n) l {l with heap:=(l.heap.push BL).push (mB 224 l.heap.objs.size)}:=aw.of_keep λm aD P=>fA _<|fA _ P;have N:((l.heap.push BL).push<|mB 224 l.heap.objs.size).get? (l.heap.objs.size+1)=some (mB 224 l.heap.objs.size):=by heap_get
 have L:((l.heap.push BL).push<|mB 224 l.heap.objs.size).get? l.heap.objs.size=some (PySem.W.dictOf [] 0):=by heap_get
 have U:∀m,l.heap.get? m=none->¬aG m:=λm P I=>by obtain⟨aD,D,Z⟩:=R.cI m I;rw[P]at D;cases D
 have ae:l.heap.get? (l.heap.objs.size+1)=none:=lb<|pB _;have J:l.heap.get? l.heap.objs.size=none:=lb<|cz _;have aP:=R.gg J;have al:bf (aR n) aG (a1.under<|.builtin "type.__call__" ⟨.ref 224::[.str f k],[]⟩) (0+1) {l with heap:=(l.heap.push BL).push (mB 224 l.heap.objs.size)}:=by have F:=R.ext V;have aq:=F.depth;have bd:=F.units;exact⟨F.handled,by show a1.depth+1+1<1000;assumption,b4 (hB (z:1+4<=4*2) a1.units) o,F.guards,F.cI,F.a_,F.ok,F.tok⟩
 have ac:ju (b9 mm) (bH mm)=ah:=z;refine KY (C:=aR n) (V4 n) ac (by rw[Aw];rfl) al λj x B a7=>?_;have aF:RzL aG ((l.heap.push BL).push<|mB 224 l.heap.objs.size) [.ref<|l.heap.objs.size+1,.str f k] [.obj 224 [],.str f]:=
  .cons (.obj (U _ ae) (U _ J) N L .nil) (.cons (.str _ _) .nil)
 have ak:=B.sim ac (by rw[Aw];rfl) al aF;have K:∀m,j.X m↔aG m\/j.Y m:=λm=>by rw[B.xs]
 have S:bD (aR n) x.heap j.env "self" (.ref<|l.heap.objs.size+1):=B.vars "self" _ (by rw[Aw];rfl);rw[show c4 (bH mm) [.obj 224 [],.str f]=xa f by rw[Aw];rfl]at ak;have av:=ak.E8 (p:=λi=>if i==("self":au)then some (.ref<|l.heap.objs.size+1)else none) (Au:=kU.own) (λi bx P=>by
  split at P;rename_i O;cases P;rw[bF O];exact S;cases P) λi O=>by
  unfold kU at O;rw[hA]at O;have:=dP.mp<|of_decide_eq_true O;refine⟨by rw[hA];exact decide_eq_true this.1,?_⟩;have ay:=this.2;simp only[ew]at ay;simp only[ay,j8,if_false]
 have af:¬j.X (l.heap.objs.size+1):=λab=>((K _).mp ab).elim (U _ ae) λi=>by have:=B.fresh _ i;dsimp only at this;rw[N]at this;cases this
 have ad:¬j.X l.heap.objs.size:=λab=>((K _).mp ab).elim (U _ J) λi=>by have:=B.fresh _ i;dsimp only at this;rw[L]at this;cases this
 have aC:∀m,¬j.X m->¬(aR n).T m:=λm ab k=>ab<|(K m).mpr<|.inl<|R.a_ m k;have ag:h5 (aR n) {j with pin:=λi=>if i==("self":au)then some (.ref<|l.heap.objs.size+1)else none} kU "self" (l.heap.objs.size+1) l.heap.objs.size 224 x (xa f) [] [] 0 [] x:=
  ⟨av,rfl,B.ext.keep _ _ N<|aC _ af,B.ext.keep _ _ L<|aC _ ad,af,ad,aP.2.1,.nil,(aw.refl x).bt,λbw bc=>by cases bc⟩
 obtain⟨G,ar,aS,az,aA,ag⟩:∃G:b_,G.env=j.env/\G.A=j.A/\G.X=j.X/\G.Y=j.Y/\h5 (aR n) G kU "self" (l.heap.objs.size+1) l.heap.objs.size 224 x (xa f) [] [] 0 [] x:=⟨{j with pin:=λi=>if i==("self":au)then some (.ref<|l.heap.objs.size+1)else none},rfl,rfl,rfl,rfl,ag⟩;rw[<-ar,<-aS,TL];refine wZ (w:=n) ag (aby f) rfl (by rfl) z rfl rfl z λaY bW bo be dg h1=>?_;have h1:=h1.set;rw[aba]at h1;refine v7 ?_;refine cc.Ap (Ii n 0) (cO _) H [] dg h1.sim _ _ λa2 dx ax b7=>?_;have aH:=h1.Lc ax b7;obtain⟨am,aL⟩:=zr am;obtain⟨an,aM⟩:=zr an;obtain⟨ao,aN⟩:=zr ao;obtain⟨ap,aO⟩:=zr ap;refine wZ aH am aL (by rfl) z rfl rfl (by simp) λa0 bk bp bg mH aI=>?_;refine wZ aI an aM (by rfl) z rfl rfl (by simp) λa3 bl bq bh rU aJ=>?_;refine wZ aJ ao aN (by rfl) z rfl rfl (by simp) λa4 bm br bi AG aK=>?_;refine wZ aK ap aO (by rfl) z rfl rfl (by simp) λa5 bn bs bj w8 ai=>?_;refine pF ?_;refine⟨rfl,q _ _ ?_<|ai.obj.less λm I=>.inl<|rwL az<|(K m).mpr<|.inl I⟩;have aX:dd (aR n) G (l.heap.objs.size::a2) l w8:=(V.trans B.ext).bt.trans ai.bt;have aj:∀m,x.heap.get? m=none->l.heap.get? m=none:=λm P=>by
  induction cD:l.heap.get? m using b6 with
  |none=>rfl
  |some aD=>
   by_cases k:(aR n).T m;obtain⟨aU,D,Z⟩:=B.good.cI m<|(K m).mpr<|.inl<|R.a_ m k;rw[P]at D;cases D;have:=(V.trans B.ext).keep m aD cD k;rw[P]at this;cases this
 refine aX.ext (λm i=>?_) λm I=>?_;rw[aA]at i;induction cD:l.heap.get? m using b6 with
 |none=>rfl
 |some aD=>
  have:=V.keep m aD cD λk=>by have ab:=B.fresh m i;obtain⟨aU,D,Z⟩:=al.cI m<|R.a_ m k;rw[ab]at D;cases D
  have ab:=B.fresh m i;rw[ab]at this;cases this
 rcases c9.mp I with rfl|I;exact J;exact aj m<|ai.new m I
structure yC(w:World)(c P:Addr)(pos:Pos)(qual:Str):Prop where
 wm:jH P
 hd:∀h,e5 w h->CodeHd h c P
 tab:∀h,e5 w h->∃bV,h.get? P=some (tableObj bV)/\r2 h pos qual bV
 put:∀h hr bV,e5 w h->(∀b a4,b≠P->h.get? b=some a4->hr.get? b=some a4)->hr.get? P=some (tableObj bV)->r2 hr pos qual bV->e5 w hr
def Ob{j:cP}(p:j.get? r=I (sD a))(w:j.get? g=I x)(n:fO x):g≠r:=λq=>by rw[q,p]at w;cases w;obtain⟨s,Z⟩:=n;cases s
def Ef(A:ba):yC A 105 101 E9 "_int2digits.<locals>.inner"where
 wm:=.inl rfl
 hd:=λj m=>by have i:=gB (a:=105) m z rfl (show(gA A.params).get 105=I (Al A.params)by kernel_rfl) z;exact⟨_,_,_,_,_,_,_,_,_,i,rfl,rfl,rfl,rfl,rfl,rfl,rfl,rfl,z⟩
 tab:=λj m=>m.2.1
 put:=λj d r m k i C=>by obtain⟨bW,⟨l,aC,df⟩,⟨s,aM,b7⟩⟩:=m;refine⟨λf x n y q=>k f x (λab=>y<|.inl ab)<|bW f x n y q,⟨r,i,C⟩,⟨s,k _ _ z aM,?_⟩⟩;exact b7.m9 λp x B q=>k p x (Ob aC q B) q
def Eg(A:ba):yC A 112 108 E_ "_digits2int.<locals>.inner"where
 wm:=.inr rfl
 hd:=λj m=>by have i:=gB (a:=112) m z rfl (show(gA A.params).get 112=I (Am A.params)by kernel_rfl) z;exact⟨_,_,_,_,_,_,_,_,_,i,rfl,rfl,rfl,rfl,rfl,rfl,rfl,rfl,z⟩
 tab:=λj m=>m.2.2
 put:=λj d r m k i C=>by obtain⟨bW,⟨l,aC,df⟩,⟨s,aM,b7⟩⟩:=m;refine⟨λf x n y q=>k f x (λab=>y<|.inr ab)<|bW f x n y q,⟨l,k _ _ z aC,?_⟩,⟨r,i,C⟩⟩;exact df.m9 λp x B q=>k p x (Ob aM q B) q
def TZ(k:e5 n j)(p:jH r):j.BuiltinsAt (λm=>ir (lY n.params) m) r:=by have i:=gB (a:=4) k z rfl (show(gA n.params).get 4=I (boot_o_4 n.params)by kernel_rfl) z;refine⟨4,_,z,z,z,?_,i,rfl,rfl,rfl⟩;rcases p with rfl|rfl<;>decide
structure lP(h:Heap)(f:Addr)(name qual:Str)(params:Arguments)(aU:List Stmt)(scope:Scope)(Ur:List (Str×Addr)):Prop where
 obj:∃doc pm Jk UU,h.get? f=some ⟨.type "function",none,.func<|fnX name qual params aU scope Ur .none .none doc pm none (.ref Jk) UU,#[]⟩/\∃a4 aa t,h.get? Jk=some a4/\fO a4/\a4.data=.fields aa/\aa[1]?=some (.str qual t)
def KU(k:e5 n j)(i:j.get? p=I x)(s:x.cls≠.none):¬jH p:=λq=>by obtain⟨Z,⟨l,aC,Z⟩,⟨a,aM,Z⟩⟩:=k;rcases q with rfl|rfl;rw[aC]at i;cases i;exact s rfl;rw[aM]at i;cases i;exact s rfl
def gK(j d:cP):Prop:=∀p x,j.get? p=I x->¬jH p->(∀aa y,x.data≠.seq aa y)->d.get? p=I x
def gK.trans(m:gK j d)(g:gK d a):gK j a:=λp f i k c=>g p f (m p f i k c) k c
def gK.kB(m:aw (aR n) l ae):gK l.heap ae.heap:=λp a i k Z=>m.keep p a i k
def Ic(j d:cP):Prop:=∀p x,j.get? p=I x->¬jH p->((∃i,x.data=.func i)\/fO x)->d.get? p=I x
def gK.gO(m:gK j d):Ic j d:=λp f i g y=>m p f i g λaa k q=>by rcases y with⟨a,y⟩|⟨_,c,y⟩<;>(rw[y]at q;cases q)
def lP.L4{aU:List aP}(r:lP j y g p a aU l s)(k:e5 n j)(E:Ic j d):lP d y g p a aU l s:=by obtain⟨A,C,B,b,i,D,aa,c,aC,aM,bU,bJ⟩:=r.obj;have mY:D.cls≠.none:=rwL aM.1 (λq=>by cases q);exact⟨A,C,B,b,E _ _ i (KU k i λq=>by cases q)<|.inl ⟨_,rfl⟩,D,aa,c,E _ _ aC (KU k aC mY)<|.inr aM,aM,bU,bJ⟩
def lP.kept{aU:List aP}(r:lP j y g p a aU l s)(k:e5 n j)(b:gK j d):lP d y g p a aU l s:=r.L4 k b.gO
def rm(k:e5 n j)(i:j.IsCell p a):¬jH p:=λq=>by obtain⟨Z,⟨l,aC,Z⟩,⟨s,aM,Z⟩⟩:=k;obtain⟨x,c,d⟩:=i;rcases q with rfl|rfl;rw[aC]at c;cases c;cases d;rw[aM]at c;cases c;cases d
def tc(k:e5 c j)(i:j.IsCell p a)(m:gK j d):d.IsCell p a:=by have y:=rm k i;obtain⟨l,g,f⟩:=i;exact⟨l,m _ _ g y (λaa r q=>by rw[f]at q;cases q),f⟩
set_option maxHeartbeats 1000000 in
def Zp(as:yC n bi a1 i p){aU:List aP}(aS:e5 n D.heap)(af:x7 l y=bq (x::m))(ai:y.globals=x_)(L:y.code=.ref bi)(a8:∀aX ae,aw (aR n) D ae->D.heap.get? aX=none->lP ae.heap aX g p k aU l (x::m)->be (.ref aX) ae):aL (aQ cH n) bs (makeFunction g p k (.stmts aU) l y [] [] [] i bn) be bv D:=by
 refine lG (cz D.toks) ?_;obtain⟨bd,K,W,aG⟩:=as.tab _ aS;obtain⟨aW,a5,aa,T,ay,U,ac,S,O,M⟩:=TZ aS as.wm;have aB:x_≠a1:=by rcases as.wm with rfl|rfl<;>decide
 have C:=as.hd _ aS;rw[makeFunction_eq];simp only[List.zip_nil_right,List.filterMap_nil,List.isEmpty_nil,if_true,uL];rcases aG with aj|⟨a,a4,aV,a6,aZ,aF,am,az,aH⟩;unfold makeTail;rw[af,ai];refine aA<|a' ?_;simp only[List.isEmpty_cons,j8,if_false];refine aA<|wpAny_newTextTuple ?_;refine aA<|wpAny_functionCodeX L ((C.keeps λF H I=>fA _ I).code (fA _ K) W) ((C.keeps λF H I=>fA _ I).tab<|fA _ K) aj λa R B ag aC aE aD ap aJ an=>?_;have ah:=((wN aS).push _).extBut ag aB;have al:∀F H,F≠a1->D.heap.get? F=some H->R.get? F=some H:=λF H ax I=>ag F H ax<|fA _ I;refine aA<|wpAny_builtinsFor ah aa T (al _ _ U ac) S O M ?_;refine aA<|wpAny_nsGet ah ?_;have Y:∀(j r:ar)(B:Tok),D.toks<=B->be (.ref R.objs.size) {D with heap:=R.push<|Hr g p k aU l (x::m) j ((ir (lY n.params) "__name__").getD .none) a r,toks:=B}:=by
  intro j r B aK;obtain⟨bf,a9,a0,aq⟩:=an;obtain⟨⟨aN,aT,ak,ad,G,Z⟩,Z⟩:=aq;obtain⟨bg,t2,bc,cn,aM,b7,X,aO⟩:=ap;cases aM;rw[ak]at b7;cases(b7);have J:TriplesOk (bd++#[rawInt i.line,rawInt i.col,ags a]).toList:=by obtain⟨Z,Z,Z,Z,Z,Z,Z,Z,Z,Z,Z,Z,Z,Z,Z,Z,Z,a_,ba,J,Z⟩:=aD;exact J
  have kp:∀F H,F≠a1->D.heap.get? F=some H->(R.push<|Hr g p k aU l (x::m) j ((ir (lY n.params) "__name__").getD .none) a r).get? F=some H:=λF H q I=>fA _<|al F H q I;have av:=fA (Hr g p k aU l (x::m) j ((ir (lY n.params) "__name__").getD .none) a r) aJ.2;have au:=fA (Hr g p k aU l (x::m) j ((ir (lY n.params) "__name__").getD .none) a r) ak;refine a8 _ _ ⟨⟨_,_,rfl⟩,λF H I a3=>kp F H (λab=>a3<|ab▸as.wm) I,λF bh bb I=>?_,λa7=>as.put _ _ _ a7 kp av ⟨J,.inr ⟨a,aN,aT,cn,?_,au,⟨ad,_,G⟩,G,?_⟩⟩,aK⟩ ?_ ⟨_,_,a,_,fs _ rfl,aN,aT,cn,au,⟨ad,_,G⟩,G,?_⟩;by_cases q:F=a1;subst q;rw[K]at I;cases I;exact⟨_,av⟩;exact⟨#[],by simpa using kp F _ q I⟩;rw[aet];exact codeAmong_snoc _ W aj;rw[G]at X;cases X;exact aO;exact lb (d_<|b4 (ao (by rw[qN];exact pB _) aC) aE);rw[G]at X;cases X;exact aO
 induction aY:docOf aU using b6 with|none=>exact aA (a'<|QC (λV=>Y .none _ _ V)<|by size_fits)|some d=>exact aA (u'<|QC (λV=>Y _ _ _ V)<|by size_fits)
 refine makeTail_hit af ai (wN aS) L C K W aZ ⟨aW,a5,aa,T,ay,U,ac,S,O,M⟩ λr j R B a2 aI V=>?_;have kp:∀F H,D.heap.get? F=some H->(R.push {cls:=.type "function",data:=.func (fnX g p k aU l (x::m) .none .none j ((ir (lY n.params) "__name__").getD .none) none (.ref a) r)}).get? F=some H:=λF H I=>fA _<|a2 F H I;exact a8 _ _ (aw.of_keep (C:=aR n) kp V) (lb aI) ⟨_,_,a,_,fs _ rfl,a4,aV,a6,kp _ _ aF,am,az,aH⟩
def nX{m k:Nat}(j:m<2^k):dn (m:Int)<=k:=by
 unfold dn;split;exact cO _;rename_i ag;have ag:m≠0:=by simpa using ag
 have:=(G2 ag).mpr j;simp only[GF];exact G7 o
def D7(m:Nat):m<2^dn (m:Int):=by
 unfold dn;split;rename_i ag;have ag:m=0:=by simpa using ag
 subst ag;decide;rename_i ag;have ag:m≠0:=by simpa using ag
 exact(G2 ag).mp (by simp)
def NO(m k:Nat):(if((k:Nat):Int)>=((dn (m:Int):Nat):Int)then(if(m:Int)<0 then(-1:Int)else 0)else(m:Int).fdiv (2^((k:Nat):Int).toNat))=((m/2^k:Nat):Int):=by
 split;rename_i j;have j:dn (m:Int)<=k:=by omega
 have:=cq (D7 m)<|fp z j;rw[uQ this,if_neg<|by omega];rfl;rw[sh,Bi _<|OX<|Int.pow_pos z];rw[Bl];simp
def Su(m k:Nat):m&&&(m/2^k*2^k)=m/2^k*2^k:=by rw[<-Nat.shiftLeft_eq,<-afA];apply afh;intro c;rw[Nat.testBit_and,Nat.testBit_shiftLeft,Nat.testBit_shiftRight];by_cases j:c>=k;simp only[j,decide_true,Bh];rw[show k+(c -k)=c by exact qF o];simp;simp[j]
def IK(f p:Nat):xW (f:Int) (p:Int)=((f&&&p:Nat):Int):=by unfold xW;simp
def aeh(m k:Nat):PO (m:Int) (((m/2^k*2^k:Nat)):Int)=((m%2^k:Nat):Int):=by rw[ag7];rw[IK,Su];exact(congrArg (λx:Nat=>(x:Int)+_-_)<|Nat.div_add_mod' m (2^k)).symm.trans<|(λa b=>by omega:∀a b:Nat,((a+b:Nat):Int)+a-2*a=b) _ _
def ZJ(m:Nat)(j:p+g<=f):m%2^f/2^p%2^g=m/2^p%2^g:=by apply afh;intro e;simp only[Nat.testBit_mod_two_pow,Nat.testBit_div_two_pow];by_cases d:e<g;have:e+p<f:=cq (e6 e p▸xQ d p) j;simp[d,this];simp[d]
noncomputable def ks(y m a e:Nat)(g:List af):List af:=g.mapIdx λw d=>if a<=w/\w<e then .int ((m/2^(y*(w -a))%2^y:Nat):Int)else d
def Wf:(ks y m d e g).length=g.length:=by simp[ks]
def Wg(a:m<2^y):g.set d (.int (m:Nat))=ks y m d (d+1) g:=by apply Pa;intro w;rw[Bq,List.getElem?_set];by_cases p:d=w;subst p;simp only[if_true,cz,fS,and_self,afC,BC,afz,afg,qH a];split;rename_i r;rw[hb r];rfl;rename_i r;rw[xK<|nj o];rfl;rw[if_neg p];have:¬(d<=w/\w<d+1):=λq=>p<|nh q.1<|ni q.2;simp only[this,if_false];cases g[w]?<;>rfl
def Wh(s:a<=r)(h:r<=e):ks y (b/2^((r -a)*y)) r e (ks y (b%2^((r -a)*y)) a r g)=ks y b a e g:=by
 apply Pa;intro w;rw[Bq,Bq,Bq];induction g[w]?using b6 with
 |none=>rfl
 |some d=>
  simp only[kc,BH];by_cases f:r<=w/\w<e;rw[if_pos f,if_pos ⟨ao s f.1,f.2⟩];rw[BA,<-pC,qI (r -a) y,<-uR,e6<|r -a,G6 f.1 s];rw[if_neg f];by_cases c:a<=w/\w<r;rw[if_pos c,if_pos ⟨c.1,cq c.2 h⟩];rw[ZJ];rw[<-uS,qI (r -a) y];exact iN _<|Nat.sub_lt_sub_right c.1 c.2;rw[if_neg c,if_neg λq=>(G4 w r).elim (λi=>c ⟨q.1,i⟩) λi=>f ⟨i,q.2⟩]
def bR(r:Nat->Nat->Prop):Prop:=∃q,∀t y,q<=t->q<=y->r t y
def bR.mono(j:bR r)(k:∀t y,r t y->c t y):bR c:=j.imp λq j t y f p=>k t y<|j t y f p
def bR.and(j:bR r)(k:bR c):bR λt y=>r t y/\c t y:=by obtain⟨q,j⟩:=j;obtain⟨x,k⟩:=k;exact⟨max q x,λt y f p=>⟨j t y (ao (Pz _ _) o)<|ao (Pz _ _) o,k t y (ao (afj _ _) o)<|ao (afj _ _) o⟩⟩
def bR.succ(j:bR r)(k:∀t y,r t y->c t (y+1)):bR c:=by obtain⟨q,j⟩:=j;refine⟨q+1,λt y f p=>?_⟩;obtain⟨d,rfl⟩:∃d,y=d+1:=⟨y -1,(oj<|ao (cy ..) ‹q+1<=y›).symm⟩;exact k t d<|j t d (G0 o)<|Nat.le_of_succ_le_succ o
def bR.of(K:Nat)(j:∀t y,r (t+K)<|y+K):bR r:=⟨K,λt y f p=>by
 obtain⟨c,rfl⟩:∃c,y=c+K:=⟨y -K,by exact(oj o).symm⟩;obtain⟨l,rfl⟩:∃l,t=l+K:=⟨t -K,by exact(oj o).symm⟩;exact j l c⟩
def bR.all{s:Type}{d:List s}{c:s->Nat->Nat->Prop}(j:∀f∈d,bR<|c f):bR λt y=>∀f∈d,c f t y:=by
 induction d with
 |nil=>exact⟨0,λt y Z Z f b=>by cases b⟩
 |cons m w g=>
  refine((j m dA).and<|g λf b=>j f<|dt _ b).mono λt y q f b=>?_;rcases c9.mp b with rfl|b;exact q.1;exact q.2 f b
section
variable(O:Nat->cY)
def aj(a:a0)(f:cf)(i:aq)(d:af):Prop:=bR λt y=>bh (O t) y a f i=I d
def aD(a:a0)(f:cf)(b:List aq)(g:List af):Prop:=bR λt y=>fj (O t) y a f b=I g
def bO(a:a0)(f:cf)(i:aq)(k:Bool):Prop:=bR λt y=>fB (O t) y a f i=I k
def dZ(a:a0)(f:cf)(g:uU)(b:List aq)(k:Bool):Prop:=bR λt y=>oG (O t) y a f g b=I k
def ck(a:a0)(f:cf)(k i:aq)(g:List af):Prop:=bR λb y=>er (O b) y a f k i=I g
def eJ(a:a0)(f:cf)(p k:aq)(q:List aq)(c:List mA)(g x:List af):Prop:=bR λb y=>pK (O b) y a f p k q c g=I x
def aE(a:a0)(x:List au)(σ:aG)(aU:List aP)(w:h3):Prop:=bR λt y=>a6 (O t) a x y σ aU=I w
def az(a:a0)(x:List au)(σ:aG)(st:aP)(w:h3):Prop:=bR λt y=>ee (O t) a x y σ st=I w
def gc(a:a0)(x:List au)(σ:aG)(k:aq)(p:List aP)(g:List af)(w:h3):Prop:=bR λc y=>uA (O c) a x y σ k p g=I w
end
def LI(g:iP)(i:aq):Bool:=(qu i).elim av λab=>ab.2.1==g
def vi(i:aq):List aq:=(((qu i).map λab=>[ab.1,ab.2.2.1]).or<|((r6 i).map λab=>ab.1::ab.2.2.1).or<|((qw i).map λab=>[ab.2.1,ab.2.2.1,ab.1]).or<|((ps i).map λab=>[ab.1,ab.2.1]).or<|((xA i).map λab=>[ab.2.1]).or<|((uv i).map λab=>[ab.1]).or<|((j7 i).map λab=>ab.1).or<|((ux i).map λab=>ab.1).or<|((kM i).map λab=>ab.2.1).or<|(qv i).map λab=>[ab.1]).getD []
noncomputable def cU(i:aq):aq:=(vi i).head?.getD i
def dy(i:aq):aq:=(vi i)[1]?.getD i
def s9(i:aq):aq:=(vi i)[2]?.getD i
def HY(i:aq):Bool:=(qw i).isSome
def zP(g:su)(i:aq):Bool:=(r6 i).elim av λab=>(i2 ab.2.1).elim av λx=>(i2 ab.2.2.1).elim av λw=>x==g&&!nu x w
def B9(i:aq):Bool:=(xc i).isSome
def LR(i:aq):Bool:=(ps i).elim av λab=>!B9 ab.2.1
def cZ(i:aq):List aq:=vi i
def zQ(i:aq):Bool:=(j7 i).isSome
def HZ(i:aq):Bool:=(ux i).isSome
def l6(i:aq):Bool:=(qv i).elim av λab=>ab.2.1.head?.elim av λa=>a.is_async==0
def b8(i:aq):aq:=cU i
def cb(i:aq):mA:=((qv i).bind (·.2.1.head?)).getD ⟨i,i,[],1⟩
def jP(i:aq):List mA:=(qv i).elim [] (·.2.1.tail)
def d1(i:aq):gW:=(qv i).elim ie (·.2.2.1)
def zu(i:aq):Option (au×List aq):=(kM i).bind λab=>(fo ab.1).bind λy=>if ab.2.2.1.isEmpty=ah then I (y.1,ab.2.1)else ai
def Dr{ab}(j:zu i=I ab):∃q a,i=.Call (.Name ab.1 q) ab.2 [] a:=bK j λg w j=>bK j λy s j=>⟨y.2,g.2.2.2,by
  rw[A7 w,jy s,pz.mp (cw j).1,<-(cw j).2]⟩
def sT(i:aq):Bool:=(zu i).elim av λab=>(o_ ab.1 ab.2).isNone&&(mW ab.2).isNone&&(n' ab.2).isNone
def mN(i:aq):au:=((kM i).bind λab=>fo ab.1).elim "" (·.1)
def bo(i:aq):List aq:=vi i
section
variable{O:Nat->cY}{S vr:a0}{aK:cf}
theorem aj.of(K:Nat)(j:∀t y,bh (O<|t+K) (y+K) S aK i=I d):aj O S aK i d:=bR.of K j
def XU(j:LI g i=ah):∃d a s,i=.BinOp d g a s:=(eU j).elim λab n=>⟨_,_,_,bF n.2▸OH n.1⟩
def X0(j:HY i=ah):∃k f c s,i=.IfExp k f c s:=(mT j).elim λab n=>⟨_,_,_,_,aec n⟩
def X9(j:LR a=ah):∃t c s,a=.Subscript t c s/\B9 c=av:=(eU j).elim λab n=>⟨_,_,_,OL n.1,jt n.2⟩
def Z2(j:B9 c=av):xc c=ai:=Option.not_isSome_iff_eq_none.mp<|rG j
def XY(j:l6 i=ah):∃a d n q k c b s,i=.ListComp a (⟨d,n,q,k⟩::c) b s/\(k==0)=ah:=by obtain⟨ab,l,j⟩:=eU j;obtain⟨⟨d,n,q,k⟩,r,j⟩:=eU j;obtain⟨c,aC⟩:=List.head?_eq_some_iff.mp r;exact⟨_,d,n,q,k,c,_,_,aC▸ad' l,j⟩
def LS(j:zQ i=ah):∃b k s,i=.Tuple b k s:=(mT j).elim λab n=>⟨_,_,_,uz n⟩
def X2(j:HZ i=ah):∃b s,i=.List b s:=(mT j).elim λab n=>⟨_,_,OK n⟩
def XX(j:sT i=ah):∃y q k s,i=.Call (.Name y q) k [] s/\o_ y k=ai/\mW k=ai/\n' k=ai:=(eU j).elim λab n=>(Dr n.1).elim λq a=>a.elim λs i=>⟨ab.1,q,ab.2,s,i,rH (aY (aY n.2).1).1,rH (aY (aY n.2).1).2,rH (aY n.2).2⟩
def LJ(j:zP g i=ah):∃d w s,i=.Compare d [g] [w] s/\nu g w=av:=by obtain⟨ab,a,j⟩:=eU j;obtain⟨x,n,j⟩:=eU j;obtain⟨w,c,j⟩:=eU j;obtain rfl:=bF (aY j).1;exact⟨_,w,_,m2 n▸m2 c▸ad_ a,jt (aY j).2⟩
theorem aj.bin(f:LI op i=ah)(k:aj O S aK (cU i) a)(c:aj O S aK (dy i) b)(g:∀t,(O t).bin op a b=I d):aj O S aK i d:=by obtain⟨m,w,s,rfl⟩:=XU f;exact(k.and c).succ λt y j=>b' j.1<|b' j.2<|g t
def aj.ite(f:HY i=true)(w:bO O S aK (s9 i) k)(c:k=true->aj O S aK (cU i) d)(q:k=false->aj O S aK (dy i) d):aj O S aK i d:=by obtain⟨r,l,m,s,rfl⟩:=X0 f;induction k using bz with|true=>exact(w.and<|c rfl).succ λg y j=>b' j.1 j.2|false=>exact(w.and<|q rfl).succ λg y j=>b' j.1 j.2
def aj.sub(f:LR c=ah)(r:aj O S aK (cU c) a)(k:aj O S aK (dy c) b)(g:∀t,(O t).item a b=I d):aj O S aK c d:=by obtain⟨q,m,s,rfl,l⟩:=X9 f;exact(r.and k).succ λt y j=>oN (Z2 l)<|b' j.1<|b' j.2<|g t
theorem aj.comp(f:l6 i=ah)(r:S.comp (d1 i)=I vr)(b:ck O S aK (cb i).target (cb i).iter ds)(w:eJ O vr (eK (d1 i) aK) (b8 i) (cb i).target (cb i).ifs (jP i) ds x)(a:x.length<=1000000):aj O S aK i (.list x):=by obtain⟨d,B,g,q,k,c,l,s,rfl,y⟩:=XY f;exact(b.and w).succ λm A j=>fE y<|b' r<|b' j.1<|b' j.2<|fE (gH.mpr a) rfl
theorem aj.tuple(f:zQ i=ah)(j:aD O S aK (cZ i) ds)(r:ds.length<=1000000):aj O S aK i (.tuple ds):=by obtain⟨b,k,s,rfl⟩:=LS f;exact j.succ λt y j=>b' j<|fE (gH.mpr r) rfl
theorem aj.list{i:aq}{ds:List af}(f:HZ i=ah)(j:aD O S aK (cZ i) ds)(r:ds.length<=1000000):aj O S aK i (.list ds):=by obtain⟨b,s,rfl⟩:=X2 f;exact j.succ λt y j=>b' j<|fE (gH.mpr r) rfl
def bR.rQ(j:∀t y,r t<|y+1):bR r:=⟨1,λt y Z f=>by induction y using cN with
 |zero=>exact absurd f z
 |succ y=>exact j t y⟩
def aD.nil:aD O S aK [] []:=bR.rQ λt y=>rfl
def aD.cons{i:aq}{b:List aq}{d:af}{g:List af}(a:eM i=av)(j:aj O S aK i d)(c:aD O S aK b g):aD O S aK (i::b) (d::g):=(j.and c).succ λt y j=>p9 (rG a)<|b' j.1<|b' j.2 rfl
theorem aj.call(g:sT i=ah)(r:(S.global (mN i)&&(aK.lookup<|mN i).isNone)=ah)(c:aD O S aK (bo i) ds)(a:bR λt Z=>(O t).call (mN i) ds=I d):aj O S aK i d:=by obtain⟨y,q,k,w,rfl,s,l,b⟩:=XX g;exact(c.and a).succ λt m j=>fE r<|oN b<|oN s<|oN l<|b' j.1 j.2
theorem bO.cmp(f:zP op i=ah)(m:aj O S aK (cU i) a)(c:aj O S aK (dy i) b)(g:∀t,(O t).cmp op a b=I k):bO O S aK i k:=by obtain⟨d,w,s,rfl,q⟩:=LJ f;exact(m.and c).succ λt y j=>p9 (rG q)<|b' j.1<|b' j.2<|g t
def dZ.nil:dZ O S aK .And [] ah:=bR.rQ λt y=>rfl
def dZ.one(j:bO O S aK i k):dZ O S aK .And [i] k:=(j.and<|dZ.nil (O:=O) (S:=S) (aK:=aK)).succ λt y j=>b' j.1 (by cases k;rfl;exact j.2)
def eJ.nil:eJ O S aK p k a c [] []:=bR.rQ λb y=>rfl
def eJ.cons{p f:aq}{q:List aq}{d:af}{g a:List af}{c:cf}{k:Bool}{m:af}(b:fw S f d aK=I c)(y:dZ O S c .And q k)(ag:k=true->aj O S c p m)(e:eJ O S aK p f q [] g a):eJ O S aK p f q [] (d::g) (if k then m::a else a):=by induction k using bz with|true=>exact((y.and<|ag rfl).and e).succ λi l j=>b' b (b' j.1.1<|b' (fE rfl<|n0 j.1.2 rfl)<|b' j.2 rfl)|false=>exact(y.and e).succ λi l j=>b' b<|b' j.1<|b' (p9 (rG rfl) rfl)<|b' j.2 rfl
theorem eJ.map{s:Type}(i:s->af)(e:s->af)(k:s->Bool):∀(d:List s),(∀a∈d,∃c,fw S t (i a) aK=I c/\dZ O S c .And ifs (k a)/\(k a=true->aj O S c elt (e a)))->eJ O S aK elt t ifs [] (d.map i) ((d.filter k).map e)
 |[]=>@λZ=>eJ.nil
 |a::w=>@λj=>by
  obtain⟨c,m,n,x⟩:=j a dA
  have:=eJ.cons m n x<|eJ.map i e k w λp q=>j p<|dt _ q
  rw[c8,iM]
  induction y:k a using bz with|true=>rw[y,if_pos rfl]at this;rw[if_pos rfl,c8];exact this|false=>rw[y,if_neg z]at this;rw[if_neg z];exact this
def eJ.UO{f l a6 x:List af}(q:fw S k d aK=I c)(y:dZ O S c .And a ah)(m:ck O S c g b l)(ag:eJ O S c p g i e l a6)(r:eJ O S aK p k a (⟨g,b,i,0⟩::e) f x):eJ O S aK p k a (⟨g,b,i,0⟩::e) (d::f) (a6++x):=(((y.and m).and ag).and r).succ λs w j=>b' q<|b' j.1.1.1<|b' (fE rfl<|fE rfl<|b' j.1.1.2 j.1.2)<|b' j.2 rfl
theorem eJ.flat{s:Type}(y:s->af)(e:s->List af):∀(d:List s),(∀a∈d,∃c i,fw S t (y a) aK=I c/\dZ O S c .And ifs ah/\ck O S c AX DN i/\eJ O S c elt AX Dq DH i (e a))->eJ O S aK elt t ifs (⟨AX,DN,Dq,0⟩::DH) (d.map y) (d.flatMap e)
 |[]=>@λZ=>eJ.nil
 |a::w=>@λj=>by
  obtain⟨c,i,k,m,x,n⟩:=j a dA
  exact eJ.UO k m x n<|eJ.flat y e w λp q=>j p<|dt _ q
end
section
variable{C:bS}{O:cY}{N n:Nat}{M:List au}
def Xf{g:b_}{c6 y:List aF}:g.grow (c6++y)=(g.grow c6).grow y:=by unfold b_.grow;have:(λf=>g.X f\/f∈c6++y)=λf=>(g.X f\/f∈c6)\/f∈y:=funext λf=>propext ⟨λq=>q.elim (λab=>.inl<|.inl ab) λab=>(jD.mp ab).elim (λab=>.inl<|.inr ab) .inr,λq=>q.elim (λab=>ab.elim .inl λab=>.inr<|mx _ ab) λab=>.inr<|my _ ab⟩;rw[this]
theorem RzL.refs:∀{aa:List ar}{x:List aF},RzL c j aa (x.map af.ref)->RzL s j aa (x.map af.ref)
 |Z,[]=>@λw=>by cases w;exact .nil
 |Z,f::x=>@λw=>by cases w with|cons w b=>cases w;exact .cons (.ref f) b.refs
def acG{V:List aF->cf}(aC:dv C O N)(aY:N<=g.fuel)(ak:bg C g a2 σ [] a1)
  (aI:mC (.ListComp (.List [] bn) [⟨i,k,[],0⟩] h bs) (some<|.Name ca cd) bv.line g.env=bq ah) (a0:a2.comp h=some ce) (a4:er O n a2 σ.strict i k=some D) (G:∀d∈D,∃aR,fw ce i d (eK h σ.strict)=some aR) (a6:D.length<=1000)
  (aH:∀f:List aF,eR a2 (.Name ca cd) (.list<|f.map af.ref) []=some (V f)) 
  (q:∀(f:List aF) ae,f.length=D.length->f.Nodup->(∀I∈f,a1.heap.get? I=ai/\ae.heap.get? I=some pY)->bg C (g.grow f) a2 (σ.vals<|V f) [] ae->dd C g [] a1 ae->ci .next ae):
  aL (aQ C.prog C.w) g.A (dY (.Assign [.Name ca cd] (.ListComp (.List [] bn) [⟨i,k,[],0⟩] h bs) bv) g.env) ci cK a1:=by
 have aB:b1 C g a2 σ.strict a1:=by have:=ak.ok;rwa [DG]at this
 rw[agC _ _ _ _ aI]
 refine aA<|dT<|aA ?_
 show aL _ _ (do let _<-Hw (.ListComp (.List [] bn) [⟨i,k,[],0⟩] h bs) h g.env _ (HD []) av (cx k g.env) (some<|hE (.Name ca cd) g.env)) _ _ a1
 refine aA (JM aC (eN aC n) aB aY a0 a4 (aw.refl a1) ak.dD (λaj ae aa=>∃f:List aF,RzL aj.X ae.heap aa (f.map af.ref)/\f.length=D.length/\f.Nodup/\(∀I∈f,¬aj.X I/\a1.heap.get? I=ai/\ae.heap.get? I=some pY))
  (λaj P bH bx bD bG St bA bC bu bB aJ bz st ax bp bw aS aX aZ aT aB aD bI ba=>?_) λaj J bd B bE aa eY aG au ay bi az ax W bF=>?_)
 refine Vw (a5:=P) rfl rfl bz ax bp bw aS (.inr aX) aZ G a6 (λae f br a8 aq aV aW ar=>?_) D.length 0 P [] (ij _) rfl st aT aB aD Bv (λbd ay=>by cases ay) (aw.refl P).bt
 obtain⟨aa,eY,W,bl⟩:=aq.at'
 exact ba ae aa eY br a8 W ⟨f,bl,aV,aW,λI G=>⟨(ar I G).1,bu.old ak.dD (ar I G).2.1,(ar I G).2.2⟩⟩
 obtain⟨f,aN,bh,bj,K⟩:=bF
 show aL _ _ (hE (.Name ca cd) g.env<|.ref bd) _ _ J
 have aJ:∀I∈f++[B],a1.heap.get? I=ai:=λI G=>(jD.mp G).elim (λab=>(K I ab).2.1) λab=>by simp at ab;exact ab▸au
 have a3:∀I∈f++[B],∃Y,J.heap.get? I=some Y:=λI G=>(jD.mp G).elim (λab=>⟨_,(K I ab).2.2⟩) λab=>by simp at ab;subst ab;obtain⟨Y,Z,Z,W,Z⟩:=az;exact⟨Y,W⟩
 have ad:=ak.yN aG aJ a3
 have ap:∀I∈f,I≠B:=λI G q=>(K I G).1<|ax I<|.inr q
 have bm:bd∉f:=λG=>by
  have aE:=(K bd G).2.2;rw[W]at aE;have a7:aa=[]:=by simpa[pY]using congrArg (λY:Option cQ=>match Y with|some ⟨Z,cl,.seq ⟨cs⟩ co,cr⟩=>cs|Z=>[]) aE
  have:=aN.length;rw[a7]at this;induction f using bb with|nil=>cases G|cons ca al=>simp at this
 have ch:=ak.dD.gg ay
 have bk:RzL ((g.grow<|f++[B]).grow []).X J.heap aa (f.map af.ref):=aN.refs
 have bc:Rz ((g.grow<|f++[B]).grow []).X J.heap (.ref bd) (.list<|f.map af.ref):=.list (λq=>by
  rcases q with(q|q)|q;exact ch.2.2 q;rcases jD.mp q with q|q;exact bm q;simp at q;exact bi q;cases q) W bk
 have am:=ak.dD.gg au
 have an:¬g.X B:=am.2.2
 have aK:¬(g.grow f).X B:=λq=>q.elim an λab=>ap _ ab rfl
 refine ad.eR bc (aH f) λj H M=>?_
 rw[Xf]at H
 have ao:∀Y,J.heap.get? B=some Y->j.heap.get? B=some Y:=λY W=>M.bt.keep _ Y W am.1 (λal=>an<|ak.cE _ al) (by simp)
 refine⟨bE,mc az ao,λbe aP=>?_⟩
 have ac:dB C [B] j {j with heap:=be}:=dB.of (dE am.1) (dE am.2.1) (dE<|Ag<|mc az ao) λI Y G W=>(aP.2 I<|by simpa using G).trans W
 have aM:iu C ((g.grow f).grow [B]) [B]:=⟨λq=>by simp at q;exact an<|q▸ak.cE _ ak.ok.loc.e_,λa9 I G q=>by simp at q;exact an<|q▸ak.eE a9 I G,λI G=>.inr G⟩
 have aO:=(H.pd.only aM (λI G U=>by cases U) ac).drop (λI bo=>.inl<|ak.a_ I bo) (λI al=>.inl<|ak.cE I al) λn I W=>.inl<|ak.eE n I W
 have b7:bf C ((g.grow f).grow []).X g.A g.fuel j:=⟨H.good.handled,H.good.depth,H.good.units,H.good.guards,λI G=>H.good.cI I<|G.elim (λab=>.inl<|.inl ab) .inr,λI bo=>.inl<|.inl<|ak.a_ I bo,H.good.ok,H.good.tok⟩
 have aU:bf C ((g.grow f).grow []).X g.A g.fuel {j with heap:=be}:=b7.bt (c:=g) (ac.bt (gZ:=[B]) λZ U=>U) λI U ag=>by replace U:=c_.mp U;subst U;exact(ag.elim aK λab=>by cases ab).elim
 refine a'<|a'<|q f _ bh bj (λI G=>⟨(K I G).2.1,?_⟩) (aO.sim aU) ?_
 refine(aP.2 I<|ap I G).trans (M.bt.keep _ _ (K I G).2.2 ?_ ?_<|by simp)
 exact(ak.dD.gg (K I G).2.1).1
 exactλal=>(ak.dD.gg (K I G).2.1).2.2<|ak.cE _ al
 exact((aG.bt.trans<|M.bt.lr.cut (λZ al=>al) λI U=>by cases U).trans<|ac.bt (gZ:=[B]) λI U=>U).cut (λZ al=>al) λI U=>.inr (by replace U:=c_.mp U;exact U▸au)
end
def Jv(B:d.any (·.1)=av)(H:jL C b d a m)(J:aw C a e)(G:bf C b.X b.A b.fuel e)(D:∀ae,aw C e ae->∃k,(k=uW\/k=uX)/\uZ (aQ C.prog C.w) ae.heap (qS n) k)(q:∀aa ae,aw C e ae->RzL b.X ae.heap aa m->aL (aQ C.prog C.w) b.A (fu n aa []) p j ae):aL (aQ C.prog C.w) b.A (hc i n [] d []) p j e:=by exact vK (first:=[]) B<|zt B H J G λaa t F I=>⟨rfl,D t F,q aa t F I⟩
def Dp(K:bD C b.heap e.env m (.ref B))(ag:(m==("__debug__":au))=av)(J:∀ae,aw C b ae->∃k,(k=uW\/k=uX)/\uZ (aQ C.prog C.w) ae.heap (qS<|.ref B) k)(H:fv C e l b n)(F:∀aa ae,aw C b ae->bf C e.X e.A e.fuel ae->RzL e.X ae.heap aa n->∀(i:ar->aB->Prop)(j:ar->aB->Prop),(∀G dj,aw C ae dj->Rz e.X dj.heap G d->i G dj)->aL (aQ C.prog C.w) e.A (fu (.ref B) aa []) i j ae)(D:cx (.Call (.Name m t) l [] h) e.env=(cx (.Name m t) e.env>>=λG=>hc h G [] (jd h<|hg l e.env)<|ou h<|ox [] e.env)):bu C e (.Call (.Name m t) l [] h) b d:=by intro P I N i j q;show aL _ _ (cx (.Call (.Name m t) l [] h) e.env) _ _ _;rw[D];refine aA<|BY (bD.load (K.ext I) ?_) ag;exact Jv (H h).2 (H h).1 I N (λae ab=>J ae<|I.trans ab) λaa ae ab O=>F aa ae (I.trans ab) (N.ext ab) O i j λG dj M L=>q G dj (ab.trans M) L
def iA(i:aq):aq:=((qu i).map (·.1)).getD ((qw i).elim i (·.2.1))
def nL(i:aq):aq:=((qu i).map (·.2.2.1)).getD ((qw i).elim i (·.2.2.1))
def g9(i:aq):aq:=(qw i).elim i (·.1)
def jN(i:aq):List aq:=(kM i).elim [] (·.2.1)
def tb(i:aq):a8:=(kM i).elim ⟨0,0,0,0⟩ (ho ·.1)
def kW(i:aq):a8:=((qu i).map (·.2.2.2)).getD (((qw i).map (·.2.2.2)).getD (((kM i).map (·.2.2.2)).getD ((fo i).elim ⟨0,0,0,0⟩ (·.2))))
def kL(st:aP):aq:=((i_ st).bind (i2 ·.1)).getD ie
def ht:aP:=zO 11 0
def fX(c:Nat):aP:=aN (bp ht) c
def jR:aq:=aO<|fX 3
def Vs:jR=.BinOp (.BinOp (.Call (.Name "inner"<|tb<|iA<|iA jR) (jN<|iA<|iA jR) []<|kW<|iA<|iA jR) .LShift (nL<|iA jR)<|kW<|iA jR) .Add (.Call (.Name "inner"<|tb<|nL jR) (jN<|nL jR) []<|kW<|nL jR) (kW jR):=z
def TJ:bp ht=[fX 0,fX 1,fX 2]++[.Return (I jR)<|f7<|fX 3]:=z
noncomputable def cJ(y:Nat):List Nat->Nat|[]=>0|d::w=>d+2^y*cJ y w
theorem zb(y:Nat):∀f p,cJ y (f++p)=cJ y f+2^(y*f.length)*cJ y p
 |[]=>@λp=>by simp[cJ]
 |d::w=>@λp=>by
  simp only[GK,cJ,zb y w p,gG,uR,afv]
  rw[jE,<-PB,<-pC,e6 (y*w.length) y]
theorem Kb(b:1<=y):∀{l:List Nat},(∀d∈l,d<2^B)->cJ y l+2^B<=2^(B+1+y*l.length)
 |[]=>@λZ=>by simp[cJ];exact fp z<|cv _ _
 |d::w=>@λj=>by
  have g:=Kb b (l:=w) λm ag=>j m<|dt _ ag
  have a:=j d dA
  simp only[cJ,gG]
  have i:2^(B+1+y*(w.length+1))=2^y*2^(B+1+y*w.length):=by rw[<-pC,uS,e6 y<|B+1+y*w.length,jE<|B+1]
  have s:=iN (2^y) g
  rw[<-i,uR]at s
  have c:2*2^B<=2^y*2^B:=qJ _<|fp (n:=2) z b
  rw[e7,e6]
  exact ao (hB (ao (d_<|Pt a _)<|afH (2^B)▸c) _) s
noncomputable def ea(b:List Nat):List af:=b.map λ(d:Nat)=>af.int ((d:Nat):Int)
def ki:a0:=a0.loc<|b9 ht
noncomputable def lk(d e y:Int)(g:List af):aG:=[("L",.val<|.int d),("R",.val<|.int e),("digits",.val<|.list g),("n",.val<|.int y)]
def c2(i:aP):List aP:=(pn i).elim [] (·.2.1)
def Lz:fX 0=.If (aO<|fX 0) [.Return (I<|aO<|aN (c2<|fX 0) 0)<|f7<|aN (c2<|fX 0) 0] [] (f7<|fX 0):=z
def Ji(d e y:Int)(g:List af):fB ct 9 ki (lk d e y g).plus (aO<|fX 0)=I (d+1==e):=z
def abG(d e y:Int)(g:List af):bh ct 9 ki (lk d e y g).plus (aO<|aN (c2<|fX 0) 0)=c7 (.list g) (.int d):=z
noncomputable def wG(d e y r d7:Int)(g:List af):aG:=[("shift",.val<|.int d7),("mid",.val<|.int r),("L",.val<|.int d),("R",.val<|.int e),("digits",.val<|.list g),("n",.val<|.int y)]
def abQ(d e y:Int)(g:List af):bh ct 9 ki (lk d e y g).plus (aO<|fX 1)=aI .RShift (.int<|d+e) (.int 1):=z
def abR(d e y r:Int)(g:List af):bh ct 9 ki ((lk d e y g).vals [("mid",.int r)]).plus (aO<|fX 2)=aI .Mult (.int<|r -d) (.int y):=z
def aca(d e y r d7:Int)(g:List af):((lk d e y g).vals [("mid",.int r)]).vals [("shift",.int d7)]=wG d e y r d7 g:=z
def SU:fX 1=.Assign [.Name "mid"<|ho<|kL<|fX 1] (aO<|fX 1) (f7<|fX 1):=z
def SV:fX 2=.Assign [.Name "shift"<|ho<|kL<|fX 2] (aO<|fX 2) (f7<|fX 2):=z
def SK(d e y r d7:Int)(g:List af):fj ct 9 ki (wG d e y r d7 g).plus (jN<|iA<|iA jR)=I [.int r,.int e]:=z
def SM(d e y r d7:Int)(g:List af):fj ct 9 ki (wG d e y r d7 g).plus (jN<|nL jR)=I [.int d,.int r]:=z
def acd(d e y r d7:Int)(g:List af):bh ct 9 ki (wG d e y r d7 g).plus (nL<|iA jR)=I (.int d7):=z
def Tv(j n a d:ar)(f:List (au×aF))(k e:ar):BN (fnX "inner" "_digits2int.<locals>.inner" (k2 ht) (bp ht) (b9 ht) f .none .none j n ai a d) ⟨[k,e],[]⟩=bq ([bM "L",bM "R"].zip [k,e]):=z
def Z9:y7 (b9 ht) ["L","R"] ["n","inner","digits"]=ah:=z
def aaJ:ki.own.all (λm=>!(m==("inner":au)))=ah:=z
def Dx:(b9 ht).names.lookup (bM "n")=I kR/\(b9 ht).names.lookup (bM "inner")=I kR/\(b9 ht).names.lookup (bM "digits")=I kR:=by refine⟨?_,?_,?_⟩<;>kernel_rfl
def zo(j:decide (d+1=e)=p):I (((d:Nat):Int)+1==((e:Nat):Int))=I p:=by subst j;congr 1;rw[gQ,beq_iff_eq,decide_eq_true_iff];exact⟨uI,congrArg Int.ofNat⟩
def wx{s:Type}{r:au->s->Prop}:∀b t,([]:List (au×s)).lookup b=I t->r b t:=λZ Z i=>nS i
def hO{s:Type}{P:au->s->Prop}{k:au}{f:s}{d:List (au×s)}(j:P k f)(w:∀b t,d.lookup b=I t->P b t):∀b t,((k,f)::d).lookup b=I t->P b t:=λb t i=>by rw[ey]at i;induction c:b==k using bz with|true=>rw[c]at i;cases i;exact bF c▸j|false=>rw[c]at i;exact w b t i
def H3{m i ab:au}{f e g:aF}(s:f≠e)(l:f≠g)(d:e≠g):List.Pairwise (λh q=>h.2≠q.2) [(m,f),(i,e),(ab,g)]:=.cons (hi s<|hi l vD)<|.cons (hi d vD)<|.cons vD .nil
def mD.sim{aa:List ar}(B:mD C g h k a j f w aa i p)(K:dM (σ.map (·.1))=ah) (m:∀O r,σ.lookup O=I r->∃d,r=.val d/\∃P,bD C p.heap g.env O P/\Rz g.X p.heap P d):bg C g (a0.loc j) σ [] p:=by have J:=B.good.a_;have F:=B.ok.loc;refine⟨⟨B.good.handled,B.good.depth,B.good.units,B.good.guards,λE D=>?_,λE S=>.inl<|J E S,B.good.ok,B.good.tok⟩,⟨B.ok.sc,B.ok.glob,B.ok.blt,λE S=>.inl<|J E S,B.ok.own,B.ok.cells,λO x G=>?_,⟨F.kind,F.ns,F.cell,F.apart,F.e_,λE D=>.inl<|F.cE E D,F.hV,F.jz,λM E G=>⟨(F.dC M E G).1,(F.dC M E G).2.1,.inl (F.dC M E G).2.2⟩,F.pin⟩⟩,K,λE D=>(by cases D),λO T G=>?_,λO ab T U E G Z Z Z=>?_,J,F.cE,λM E G=>(F.dC M E G).2.2⟩;rcases(D:g.X E\/E∈([]:List aF))with D|D;exact B.good.cI E D;cases D;have G:=(gq K).mp G;obtain⟨d,H,P,Q,R⟩:=m _ _ G;cases H;exact⟨P,Q,R.less λE q=>q.elim id λq=>by cases q⟩;obtain⟨d,H,Z⟩:=m _ _ G;cases H;obtain⟨d,H,Z⟩:=m _ _ G;cases H
structure vn(h:Heap)(f cd ci oI:Addr)(n:Nat)(adI:Value):Prop where
 made:lP h f "inner" "_digits2int.<locals>.inner" (k2 ht) (bp ht) (b9 ht) [("n",oI),("inner",ci),("digits",cd)]
 d:h.IsCell cd (some adI)
 i:h.IsCell ci (some<|.ref f)
 n:∃t,h.IsCell oI<|some<|.int (n:Nat) t
 ne:oI≠ci/\oI≠cd/\ci≠cd
theorem vn.kept{r:Nat}(q:vn j y k l a r g)(p:e5 c j)(m:gK j b):vn b y k l a r g:=⟨q.made.kept p m,tc p q.d m,tc p q.i m,q.n.imp λZ s=>tc p s m,q.ne⟩
def lP.zW{aU:List aP}(r:lP j y g p w aU l s):∃k,(k=uW\/k=uX)/\uZ x j (qS<|.ref y) k:=by obtain⟨b,n,a,d,i,Z⟩:=r.obj;exact⟨.frame,.inl rfl,(agy (part:=ai) i).andThen .now⟩
def RzL.DP{aa:List ar}(w:RzL c j aa (.int f::d)):∃k b,aa=.int f k::b/\RzL c j b d:=by cases w with|cons x m=>cases x;exact⟨_,_,rfl,m⟩
def Fl{aa:List ar}(w:RzL c j aa [.int f,.int p]):∃k i,aa=[.int f k,.int p i]:=w.DP.elim λk w=>w.elim λd w=>w.2.DP.elim λi q=>q.elim λg q=>⟨k,i,w.1.trans (congrArg (_::·) (q.1.trans (congrArg (_::·) (by cases q.2;rfl))))⟩
def mD.leave{aa:List ar}(n:mD C g h k i j f w aa l p)(F:a.X=g.X)(G:a.Y=g.Y)(E:cj C a [] gZ p ae):aw C l ae/\∀H d,Rz a.X ae.heap H d->Rz h ae.heap H d:=by
 refine⟨?_,λH d L=>L.less λB q=>by rw[F,n.xs];exact .inl q⟩;have m:dd C a gZ l ae:=n.ext.bt.trans E.bt;refine m.ext (λB M=>n.r8 B<|G▸M) λB q=>?_;rcases E.new B q with ab|ab;cases ab;induction J:l.heap.get? B using b6 with
 |none=>rfl
 |some x=>
  by_cases I:C.T B;obtain⟨K,D,Z⟩:=n.good.cI B<|n.good.a_ B I;rw[ab]at D;cases D;rw[n.ext.keep B x J I]at ab;cases ab
def mD.kept{aa:List ar}(q:mD (aR n) g m k h j f d aa l p)(D:a.Y=g.Y)(r:cj (aR n) a [] i p ae):gK l.heap ae.heap:=by intro B x C t _;have aC:=q.ext.keep B x C t;refine r.bt.keep B x aC t (λE=>?_) λn=>?_;rw[D]at E;rw[q.r8 B E]at C;cases C;rcases r.new B n with ab|ab;cases ab;rw[aC]at ab;cases ab
def Yi(a:d<b.length)(l:b.length<=10000):c7 (.list<|ea b) (.int (d:Nat))=I (.int (b[d]:Nat)):=by
 show(kT (ea b).length (d:Nat)).bind (λw=>(ea b)[w]?)=_;have r:(ea b).length=b.length:=by simp[ea]
 rw[r,zN a<|ao (d_ a)<|ao o z];simp[ea,a]
def YI{b:List Nat}(j:d<b.length):cJ y ((b.drop d).take<|d+1 -d)=b[d]:=by
 have i:(b.drop d).take (d+1 -d)=[b[d]]:=by rw[so,aeW j];rfl
 rw[i];simp[cJ]
def acy{b:List Nat}(s:L<=m)(l:m<=R)(d:R<=b.length):cJ y ((b.drop L).take<|R -L)=cJ y ((b.drop m).take<|R -m)*2^((m -L)*y)+cJ y ((b.drop L).take<|m -L):=by
 have i:(b.drop L).take (R -L)=(b.drop L).take (m -L)++(b.drop m).take (R -m):=by rw[show R -L=(m -L)+(R -m)from by rw[e6,G6 l s],List.take_add,aeV];rw[qF s]
 rw[i,zb,List.length_take,List.length_drop,afp<|Nat.sub_le_sub_right (ao l d) L,qI y,qI<|2^_,e6]
def Np(d e:Nat):aI .RShift (.int<|(d:Nat)+(e:Nat)) (.int 1)=I (.int (((d+e)/2:Nat):Int)):=by have:=NO (d+e) 1;show(if decide ((0:Int)<=1)then I (af.int _)else ai)=_;simp only[show decide ((0:Int)<=1)=ah by decide,if_true];congr 2
def Ac(n:f<2^100000)(q:p<2^100000):aI .Mult (.int (f:Nat)) (.int (p:Nat))=I (.int ((f*p:Nat):Int)):=by show(if bI (dn (f:Nat)) 100000&&bI (dn (p:Nat)) 100000 then I (af.int _)else ai)=_;rw[if_pos (by simp only[bY,gH];exact⟨nX n,nX q⟩)];simp
def FK(n:f<2^j)(b:j+k<=2^27):aI .LShift (.int (f:Nat)) (.int (k:Nat))=I (.int ((f*2^k:Nat):Int)):=by show(if decide (0<=((k:Nat):Int))&&decide ((dn (f:Nat):Int)+(k:Nat)<=2^27)then I (af.int _)else ai)=_;rw[if_pos (by rw[decide_eq_true<|show((dn (f:Nat):Nat):Int)+(k:Nat)<=2^27 from gR.mpr<|ao (qE (nX n) k) b];rfl)];simp
def z7(j:f<=10000):f<2^100000:=b4 j (cq (show 10000<2^14 by decide)<|fp z z)
set_option maxHeartbeats 2000000 in
def yu(g:b=a+k+1)(j:¬a+1=b)(x:r=(a+b)/2):∃l d,r=a+l+1/\b=r+d+1/\k=l+d+1:=by
 cases k with
 |zero=>exact(j g.symm).elim
 |succ k=>
  have i:r=a+k/2+1:=by rw[x,g,show a+(a+(k+1)+1)=2*a+(k+2)by rw[afH];exact(jE a a<|k+2).symm,aft z,Nat.add_div_right k z];rfl
  obtain⟨d,f⟩:=Py<|aff k 2;exact⟨k/2,d,i,by rw[i,g,e7 _ 1 d,jE a (k/2) d,<-f];rfl,congrArg (·+1) f⟩
def XJ(H:ba)(bE:1<=G)(aK:G<=10000)(aA:h.length<=10000)(bB:∀d∈h,d<2^ca)(a3:ca<=10000):∀k D M:Nat,M=D+k+1->M<=h.length->∀(bn:aF->Prop)(ch:ef)(bv:aB)(cl cr:Tok),bf (aR H) bn ch (k+1) bv->(bn a1/\bn a2/\bn bd)->vn bv.heap bs a1 a2 bd G bi->Rz bn bv.heap bi (.list<|ea h)->∀(bm:ar->aB->Prop)(ce:ar->aB->Prop),(∀aG ae,aw (aR H) bv ae->Rz bn ae.heap aG (.int (cJ G ((h.drop D).take<|M -D):Nat))->bm aG ae)->aL (aQ cH H) ch (fu (.ref bs) [.int (D:Nat) cl,.int (M:Nat) cr] []) bm ce bv:=by
 intro k;induction k using afB with
 |ind k bH=>
 intro D M b5 U bn ch bv cl cr aP aq ax bR bm ce q;obtain⟨aZ,bL,bo,aY,bq,ay,b1,b8,aC,aM,bU,bJ⟩:=ax.made.obj;obtain⟨co,az⟩:=ax.n;refine B0 ?_;refine JA (C:=aR H) (N:=k) (params:=["L","R"]) (fd:=fnX "inner" "_digits2int.<locals>.inner" (k2 ht) (bp ht) (b9 ht) [("n",bd),("inner",a2),("digits",a1)] .none .none aZ bL ai (.ref bo) aY) bq rfl rfl ⟨_,_,_,_,rfl,aC,bU,bJ⟩ (Eh aP.ok) Z9 (Tv _ _ _ _ _ _ _) rfl rfl rfl ?_ ?_ aP λap J S b2=>?_;exact H3 ax.ne.1 ax.ne.2.1 ax.ne.2.2;exact hO ⟨rm aP.ok az,aq.2.2,_,az⟩<|hO ⟨rm aP.ok ax.i,aq.2.1,_,ax.i⟩<|hO ⟨rm aP.ok ax.d,aq.1,_,ax.d⟩ wx;have bl:∀F ay,¬bn F->bv.heap.get? F=I ay->J.heap.get? F=I ay:=λF ay T ag=>S.ext.keep F ay ag λaj=>T<|aP.a_ F aj;have aN:Rz ap.X J.heap bi (.list<|ea h):=by refine(bR.more (Y:=ap.X) λF ay ag as=>?_).mono λF ay T ag=>S.ext.keep F ay ag λaj=>T<|S.good.a_ F aj;rw[S.xs]at as;exact as.elim id λas=>by rw[S.r8 F as]at ag;cases ag
 have bT:bD (aR H) J.heap ap.env "L" (.int (D:Nat) cl):=S.vars _ _ rfl;have bV:bD (aR H) J.heap ap.env "R" (.int (M:Nat) cr):=S.vars _ _ rfl;have bX:bD (aR H) J.heap ap.env "n" (.int (G:Nat) co):=S.free _ bd _ Dx.1 rfl az;have bx:bD (aR H) J.heap ap.env "inner" (.ref bs):=S.free _ a2 _ Dx.2.1 rfl ax.i;have bj:bD (aR H) J.heap ap.env "digits" bi:=S.free _ a1 _ Dx.2.2 rfl ax.d;have ak:=S.sim (σ:=lk (D:Nat) (M:Nat) (G:Nat)<|ea h) z<|hO ⟨_,rfl,_,bT,.int _ _⟩<|hO ⟨_,rfl,_,bV,.int _ _⟩<|hO ⟨_,rfl,_,bj,aN⟩<|hO ⟨_,rfl,_,bX,.int _ _⟩ wx;have ac:=ak.E8 (p:=λas=>if as==("inner":au)then I (.ref bs)else ai) (Au:=ki.own) (λas aG ag=>by
  split at ag;rename_i aE;cases ag;rw[bF aE];exact bx;cases ag) λas aE=>⟨aE,by
  rw[hA]at aE;have:=bG.mp aaJ as<|of_decide_eq_true aE;simp only[ew]at this;simp only[this,j8,if_false]⟩
 obtain⟨bk,aV,bA,am,an,a5,aW,ac⟩:∃bk:b_,bk.env=ap.env/\bk.A=ap.A/\bk.X=ap.X/\bk.Y=ap.Y/\bk.fuel=ap.fuel/\bk.pin "inner"=I (.ref bs)/\bg (aR H) bk ki (lk (D:Nat) (M:Nat) (G:Nat)<|ea h) [] J:=⟨{ap with pin:=λas=>if as==("inner":au)then I (.ref bs)else ai},rfl,rfl,rfl,rfl,rfl,rfl,ac⟩;rw[<-aV,<-bA,TJ];by_cases V:D+1=M;subst V;have eI:cc (aR H) bk ki (dY (fX 0) bk.env) (lk (D:Nat) ((D+1:Nat):Int) (G:Nat)<|ea h) (.ret<|.int (h[D]:Nat)):=by rw[Lz];refine ug (n:=9) (eh H 0) (cO _) (k:=ah) ((Ji _ _ _ _).trans<|zo<|decide_eq_true rfl) (λZ=>?_) (λq=>by cases q);exact cc.ret<|NV λb' bv ak=>ak.ev (n:=9) (eh H 0) (cO _)<|(abG _ _ _ _).trans<|Yi U aA
 refine gX<|eI [] J ac _ _ λaG b3 ae bw b7 bS=>?_;obtain⟨bZ,bM⟩:=S.leave am an bw;refine q aG ae bZ ?_;rw[YI U];exact bM _ _ bS;obtain⟨O,a8⟩:∃O,O=(D+M)/2:=⟨_,rfl⟩;obtain⟨bI,bK,a9,a',bb⟩:=yu o V a8;have aJ:D<O:=a9▸hC (cv ..);have aD:O<M:=a'▸hC (cv ..);have bN:cc (aR H) bk ki (dY (fX 0) bk.env) (lk (D:Nat) (M:Nat) (G:Nat)<|ea h) (.next<|lk (D:Nat) (M:Nat) (G:Nat)<|ea h):=by rw[Lz];exact ug (n:=9) (eh H 0) (cO _) (k:=av) ((Ji _ _ _ _).trans<|zo<|decide_eq_false V) (λq=>by cases q) λZ=>cc.nil
 have bO:cc (aR H) bk ki (dY (fX 1) bk.env) (lk (D:Nat) (M:Nat) (G:Nat)<|ea h) (.next<|(lk (D:Nat) (M:Nat) (G:Nat)<|ea h).vals [("mid",.int (O:Nat))]):=by rw[SU];exact r0 (n:=9) (d:=.int (O:Nat)) (eh H 0) (cO _) ((abQ _ _ _ _).trans<|by rw[Np,a8]) z z
 have bP:cc (aR H) bk ki (dY (fX 2) bk.env) ((lk (D:Nat) (M:Nat) (G:Nat)<|ea h).vals [("mid",.int (O:Nat))]) (.next<|wG (D:Nat) (M:Nat) (G:Nat) (O:Nat) (((O -D)*G:Nat):Int)<|ea h):=by rw[SV,<-aca];exact r0 (n:=9) (d:=.int (((O -D)*G:Nat):Int)) (eh H 0) (cO _) ((abR _ _ _ _ _).trans<|by rw[<-Ac (z7<|ao (fz O D)<|ao (d_ aD)<|ao U aA) (z7 aK),uJ<|d_ aJ]) z z
 refine v7<|cc.cons bN (cc.cons bO<|cc.cons bP cc.nil) [] J ac _ _ λb4 dx K al=>?_;have a7:=S.kept an al;have aX:=ax.kept aP.ok a7;have aO:bD (aR H) dx.heap bk.env "inner" (.ref bs):=K.ok.loc.pin _ _ aW;have bc:Rz bk.X dx.heap bi (.list<|ea h):=by rw[am];refine aN.mono λF ay T ag=>al.bt.keep F ay ag (λaj=>T<|S.good.a_ F aj) (λas=>T<|rwL S.xs<|.inr<|an▸as) λbY=>?_;rcases al.new F bY with ab|ab;cases ab;rw[ag]at ab;cases ab
 have aH:bk.X a1/\bk.X a2/\bk.X bd:=by rw[am,S.xs];exact⟨.inl aq.1,.inl aq.2.1,.inl aq.2.2⟩
 have fD:bk.fuel=k:=a5.trans S.fuel;have fu:∀(P F:Nat)(be:Nat),be<k->F=P+be+1->F<=h.length->∀aa ae,aw (aR H) dx ae->bf (aR H) bk.X bk.A bk.fuel ae->RzL bk.X ae.heap aa [.int (P:Nat),.int (F:Nat)]->∀(bm:ar->aB->Prop)(ce:ar->aB->Prop),
   (∀aG dj,aw (aR H) ae dj->Rz bk.X dj.heap aG (.int (cJ G ((h.drop P).take<|F -P):Nat))->bm aG dj)->aL (aQ cH H) bk.A (fu (.ref bs) aa []) bm ce ae:=by
  intro P F be a6 T a4 aa ae aI br bh bm ce q
  obtain⟨bW,cn,rfl⟩:=Fl bh
  exact bH be a6 P F T a4 bk.X bk.A ae bW cn (br.fuel<|kb o<|i' o) aH (aX.kept K.good.ok<|gK.kB aI) (bc.mono λF ay T ag=>aI.keep F ay ag λaj=>T<|K.a_ F aj) bm ce q
 have ad:∀ae,aw (aR H) dx ae->∃k,(k=uW\/k=uX)/\uZ (aQ cH H) ae.heap (qS<|.ref bs) k:=λae aI=>(aX.kept K.good.ok<|gK.kB aI).made.zW;have aU:∀P F:Nat,cJ G ((h.drop P).take<|F -P)<2^(ca+1+G*(F -P)):=λP F=>by have aS:=Kb bE (B:=ca) (l:=(h.drop P).take<|F -P) λd bC=>bB d<|List.mem_of_mem_drop<|List.mem_of_mem_take bC;have aT:((h.drop P).take<|F -P).length<=F -P:=List.length_take_le ..;have bz:2^(ca+1+G*((h.drop P).take<|F -P).length)<=2^(ca+1+G*(F -P)):=fp z<|hB (iN G aT) _;exact cq (xR<|BD z)<|ao aS bz
 have a0:bu (aR H) bk jR dx (.int (cJ G ((h.drop D).take<|M -D):Nat)):=by
  rw[Vs];refine bu.binop (a:=.int ((cJ G ((h.drop O).take<|M -O)*2^((O -D)*G):Nat):Int)) (b:=.int (cJ G ((h.drop D).take<|O -D):Nat)) (bu.binop (a:=.int (cJ G ((h.drop O).take<|M -O):Nat)) (b:=.int (((O -D)*G:Nat):Int)) ?_ ?_<|yV _ _ _ _ ?_) ?_<|yV _ _ _ _ ?_;exact Dp aO z ad ((eN (eh H 0) 9).jS _ _ _ _ bk dx K.borrow (cO _)<|SK _ _ _ _ _ _) (fu O M bK (bb▸hC (cy ..)) a' U) z;exact K.ev (n:=9) (eh H 0) (cO _)<|acd _ _ _ _ _ _;have aS:G*(M -D)<=10000*10000:=jF aK<|ao (fz _ _)<|ao o o;have aT:G*(M -O)+(O -D)*G=G*(M -D):=by rw[qI (O -D) G,<-uR,G6 (d_ aD)<|d_ aJ]
  exact FK (j:=ca+1+G*(M -O)) (aU O M) (by rw[jE,aT];exact ao (ka (gS a3) aS) z);exact Dp aO z ad ((eN (eh H 0) 9).jS _ _ _ _ bk dx K.borrow (cO _)<|SM _ _ _ _ _ _) (fu D O bI (bb▸hC (cv ..)) a9<|ao (d_ aD) U) z;rw[acy (L:=D) (m:=O) (R:=M) (d_ o) (d_ o) U];exact congrArg (λb6=>I<|af.int b6) (se _ _).symm
 refine gX<|BZ<|a0 dx (aw.refl dx) K.dD _ _ λaG eZ b0 bQ=>?_;obtain⟨bZ,bM⟩:=S.leave am an<|al.trans K<|cj.ext b0;exact q aG eZ bZ<|bM _ _ bQ
def bg.store(j:bg C g ac σ b f)(ag:ac.own.contains x=ah)(T:jo x=ah)(U:σ.lookup x=ai) (q:∀ae,bg C g ac σ b ae->cj C g b b f ae->bD C ae.heap g.env x t->dU C g f ae->al () ae):aL (aQ C.prog C.w) g.A (yc g.env x t) al am f:=by
 refine AU (c:=g.grow b) j.good j.ok.loc (j.ok.own x ag T) λae st k m F=>?_;have J:∀D M,σ.lookup D=I M->D≠x:=λD M i q=>by rw[q,U]at i;cases i
 have kp:∀B∈b,∀O,f.heap.get? B=I O->ae.heap.get? B=I O:=λB G O i=>st.keep B O i (j.e4 G)<|j.tV G;refine q ae ⟨j.good.step st,⟨j.ok.sc,j.ok.glob,j.ok.blt,j.ok.a_,j.ok.own,j.ok.cells,λD d i=>?_,k⟩,j.keys,λB G=>?_,λD N i=>?_,λD ab N L B i K t Y=>?_,j.a_,j.cE,j.eE⟩ ⟨st.bt.lr,λB G=>.inl G,λB G=>G⟩ m ⟨st.same,st.keep,st.tabs,st.ok,st.all,st.toks⟩;obtain⟨ad,B,X⟩:=j.ok.names D d i;exact⟨ad,F D ad (J D _<|(gq j.keys).mp i) B,st.n8 j.good j.ok.loc X⟩;obtain⟨P,R,aa,V,i⟩:=j.lists B G;exact⟨P,R,aa,V,kp B G _ i⟩;obtain⟨B,G,m,aa,V,aM,X⟩:=j.own D N i;exact⟨B,G,F D _ (J D _ i) m,aa,V,kp B G _ aM,st.rS j.good j.ok.loc X⟩;obtain⟨aJ,af,H,Z⟩:=j.own D N i;obtain⟨dV,aj,p,Z⟩:=j.own ab L K;have dO:=(F D _ (J D _ i) H).same t;have ej:=(F ab _ (J ab _ K) p).same Y;rw[dO]at H;rw[ej]at p;exact j.apart D ab N L B i K H p
def uu(c:bD C j env m b)(y:env.kindOf m=I .cell)(n:env.cells.lookup m=I f):j.IsCell f (I b):=by obtain⟨Z,Z,Z,c⟩:=c;rcases c with⟨k,_⟩|⟨k,ad,d,e,w⟩;rw[y]at k;cases k;rw[n]at d;cases d;exact w
def J7(aq:yC n k bd i p)(ak:bg (aR n) g ap σ r as){aU:List aP}(an:∀F,g.Y F->F=g.env.locals\/∃ac,g.env.cells.lookup ac=I F)(K:x7 d g.env=bq (al::j))(t:g.env.code=.ref k)(ab:Qq g.env "inner" "inner"=p)(ag:ap.own.contains (bM "inner")=ah)(aa:σ.lookup (bM "inner")=ai)(L:a.defaults=[])(M:a.kw_defaults=[])(V:P_ a ai g.env=[])(q:∀O ae,bg (aR n) g ap σ r ae->cj (aR n) g r r as ae->lP ae.heap O "inner" p a aU d (al::j)->bD (aR n) ae.heap g.env "inner" (.ref O)->a1 .next ae):aL (aQ cH n) g.A (dY (.FunctionDef "inner" a aU [] ai [] d ai "inner" i) g.env) a1 a2 as:=by refine nestDef_K L M V ?_;rw[ab];refine Zp aq ak.good.ok K (show g.env.globals=x_ from ak.ok.glob) t λO dg ee av ad=>?_;have B:=ak.ext ee;refine B.store (x:="inner") ag z aa λdx J b7 am st=>?_;refine q O dx J ((cj.ext ee).trans B b7) (ad.L4 B.good.ok λF aw R af D=>st.keep F aw R af λax=>?_) am;have ao:=B.ok.loc;rcases an F ax with rfl|⟨ac,X⟩;obtain⟨Z,aj,au,ar,C,H,Z⟩:=ao.ns;rw[show(g.grow r).env.locals=g.env.locals from rfl,R]at C;cases C;rcases D with⟨T,G⟩|⟨_,U,G⟩<;>(rw[H]at G;cases G);obtain⟨ay,aj,C,H⟩:=ao.cell ac F X;rw[R]at C;cases C;rcases D with⟨T,G⟩|⟨_,U,G⟩<;>(rw[H]at G;cases G)
def I1(c:Nat):aP:=aN (bp m7) c
def kF:aq:=aO<|I1 1
def TK:bp m7=[.FunctionDef "inner" (k2 ht) (bp ht) [] ai [] (b9 ht) ai "inner" E_,.Return (I kF)<|f7<|I1 1]:=z
def abp:kF=.IfExp (g9 kF) (.Call (.Name "inner"<|tb<|iA kF) (jN<|iA kF) []<|kW<|iA kF) (nL kF) (kW kF):=z
noncomputable def ue(g:List af)(y:Int):aG:=[("digits",.val<|.list g),("n",.val<|.int y)]
def sY:a0:=a0.fn<|b9 m7
def Fd:bH m7=[bM "digits",bM "n"]:=z
def T1(g:List af)(y:Int):fB ct 9 sY (ue g y).plus (g9 kF)=uj (.list g):=z
def Vv(g:List af)(y:Int):bh ct 9 sY (ue g y).plus (nL kF)=I (.int 0):=z
def SN(g:List af)(y:Int)(j:g.length<=10000):fj ct 9 sY (ue g y).plus (jN<|iA kF)=I [.int 0,.int g.length]:=by have i:fj ct 9 sY (ue g y).plus (jN<|iA kF)=(I<|af.int 0).bind λd=>((gE (iB [.list g]) ai).bind λd=>(I []).bind λw=>I<|d::w).bind λw=>I (d::w):=z;rw[i];have:iB [.list g]=I (.int g.length):=if_pos (by simp only[gH];exact ao o z);rw[this];rfl
def oS(r:bL):x2:=fN<|tZ r
def Ut(r:bL)(d:aF):x7 (b9 ht) (dX (oS r) d 113)=bq [(bM "n",d+1+1),(bM "inner",d+1+1+1),(bM "digits",d+1)]:=z
def UG(r:bL)(d:aF):(dX (oS r) d 113).code=.ref 112:=z
def abo(r:bL)(d:aF):Qq (dX (oS r) d 113) "inner" "inner"=bM "_digits2int.<locals>.inner":=z
def Sw(c:kQ):P_ (k2 ht) ai c=[]:=z
def Up(r:bL)(d:aF):(dX (oS r) d 113).cells=[(bM "inner",d+1+1+1),(bM "n",d+1+1),(bM "digits",d+1)]:=z
def YB(r:bL)(d:aF):(dX (oS r) d 113).kindOf (bM "inner")=I ip/\(dX (oS r) d 113).kindOf (bM "n")=I ip/\(dX (oS r) d 113).kindOf (bM "digits")=I ip:=by refine⟨?_,?_,?_⟩<;>kernel_rfl
theorem pG.fd{aa:List ar}(r:pG (aR n) g i k d f j b aa l p)(C:∀y,e5 n y->y.get? f=I x)(B:e5 n l.heap):∃q,g.env=dX (fN x) q f:=by obtain⟨D,q,E,aC,aM,bU,Z⟩:=r.env;have m:=bU l.heap B;rw[C l.heap B]at m;cases m;refine⟨q,?_⟩;rw[aC];unfold fN;rw[aM]
def S1(n:ba):∀j,e5 n j->j.get? 113=I (tZ n.params):=λj k=>gB (a:=113) k z rfl (show(gA n.params).get 113=I (tZ n.params)by kernel_rfl) z
def ND:ju (b9 m7) (bH m7)=ah:=z
def aaK:sY.own.contains (bM "inner")=ah:=z
set_option tactic.hygienic true in
set_option maxHeartbeats 2000000 in
def Vk(j:ba)(aD:1<=y)(af:y<=10000)(G:h.length<=10000)(aC:∀d∈h,d<2^B)(Z:B<=10000)(aU:h.length<=N):eg (aR j) (.ref 113) [.list<|ea h,.int (y:Nat)] (N+1) (.int (cJ y h:Nat)):=by
 intro aO aY aZ aa az am aM aL q;refine wa (C:=aR j) (Ky j) ND (by rw[am.length,Fd];rfl) az λi aG F aN=>?_;have ak:=F.sim ND (by rw[Fd];rfl) az am;rw[show c4 (bH m7) [.list<|ea h,.int (y:Nat)]=ue (ea h) (y:Nat)by rw[Fd];rfl]at ak;obtain⟨l,D⟩:=F.fd (S1 j) az.ok;have aA:i.fuel=N:=F.fuel;have aQ:∀p,i.X p↔aO p\/i.Y p:=λp=>by rw[F.xs]
 rw[TK];refine gX<|J7 (Eg j) ak F.ON (rwL D<|Ut j.params l) (rwL D<|UG j.params l) (rwL D<|abo j.params l) aaK z z z (Sw _) λaT dx t W aE aq=>?_;obtain⟨ar,au,an⟩:=t.ok.names "digits" (.list<|ea h) z;obtain⟨aX,av,ap⟩:=t.ok.names "n" (.int (y:Nat)) z;have m:=YB j.params l;have O:=Up j.params l;have T:∀ax,(i.grow []).env.kindOf ax=(dX (oS j.params) l 113).kindOf ax:=λax=>by rw[show(i.grow []).env=i.env from rfl,D];rfl
 have S:(i.grow []).env.cells=(dX (oS j.params) l 113).cells:=by rw[show(i.grow []).env=i.env from rfl,D];rfl
 have ag:(i.grow []).env.cells.lookup (bM "digits")=I (l+1):=by rw[S,O];rfl
 have ah:(i.grow []).env.cells.lookup (bM "inner")=I (l+1+1+1):=by rw[S,O];rfl
 have ai:(i.grow []).env.cells.lookup (bM "n")=I (l+1+1):=by rw[S,O];rfl
 have ab:=uu au (by rw[T];exact m.2.2) ag;have ac:=uu (env:=(i.grow []).env) aq (by rw[T];exact m.1) ah;have ad:=uu av (by rw[T];exact m.2.1) ai;cases ap;rename_i aI;have al:Rz i.X dx.heap ar (.list<|ea h):=an.less λp q=>.inl q;have K:i.X (l+1)/\i.X (l+1+1+1)/\i.X (l+1+1):=⟨t.eE _ _ ag,t.eE _ _ ah,t.eE _ _ ai⟩;have U:vn dx.heap aT (l+1) (l+1+1+1) (l+1+1) y ar:=⟨aE,ab,ac,⟨aI,ad⟩,⟨f'<|fS _,ih<|fS _,ih<|jc (fS _)<|fS _⟩⟩;have V:bu (aR j) i kF dx (.int (cJ y h:Nat)):=by
  rw[abp];have P:fB ct 9 sY (ue (ea h) (y:Nat)).plus (g9 kF)=I (!(ea h).isEmpty):=(T1 _ _).trans (if_pos (by simp[ea];omega));refine bu.DT (k:=!(ea h).isEmpty) ((eN (eh j 0) 9).lZ _ _ _ _ i dx t.borrow (cO _) P) (λR=>?_) λR=>?_;have H:0<h.length:=by induction h using bb with|nil=>simp[ea]at R|cons aP p=>simp
  refine Dp aq z (λae M=>(U.kept t.good.ok<|gK.kB M).made.zW) ((eN (eh j 0) 9).jS _ _ _ _ i dx t.borrow (cO _)<|SN _ _<|by simpa[ea]using G) (λas ae M aB J aM aL q=>?_) z;have J:RzL i.X ae.heap as [.int ((0:Nat):Int),.int ((h.length:Nat):Int)]:=by simpa[ea]using J
  obtain⟨bW,cn,rfl⟩:=Fl J;refine XJ j aD af G aC Z (h.length -1) 0 h.length (by rw[ij];exact(oj H).symm) (cz _) i.X i.A ae bW cn (aB.fuel (by rw[oj H];exact ao o<|bQ<|i' o)) K (U.kept t.good.ok<|gK.kB M) (al.mono λp aV P aS=>M.keep p aV aS λaH=>P<|t.a_ p aH) aM aL λaJ dj ay aj=>q aJ dj ay ?_;simpa using aj;have:h=[]:=by induction h using bb with|nil=>rfl|cons aP p=>simp[ea]at R
  subst this;exact t.ev (n:=9) (eh j 0) (cO _)<|Vv _ _
 refine gX<|BZ<|V dx (aw.refl dx) t.dD _ _ λaJ eZ aK aF=>?_;obtain⟨ax,aW⟩:=F.leave az (W.trans t<|cj.ext aK) aF;exact q aJ eZ ax aW
def hs:aP:=zO 10 1
def c1(c:Nat):aP:=aN (bp hs) c
def kr(i:aP):aq:=(uw i).elim ie (·.1)
def tl(i:aP):a8:=(uw i).elim ⟨0,0,0,0⟩ (·.2)
def Od(st:aP):aq:=(((i_ st).bind (i2 ·.1)).bind ps).elim ie (·.2.1)
def Oe(st:aP):a8×a8:=((((i_ st).bind (i2 ·.1)).bind ps).bind λab=>(fo ab.1).map λy=>(y.2,ab.2.2)).getD (⟨0,0,0,0⟩,⟨0,0,0,0⟩)
def o2:aP:=aN (c2<|c1 0) 0
def Ly:c1 0=.If (aO<|c1 0) [o2,.Return ai<|f7<|aN (c2<|c1 0) 1] [] (f7<|c1 0):=z
def YH:o2=.Assign [.Subscript (.Name "a_digits" (Oe o2).1) (Od o2) (Oe o2).2] (aO o2) (f7 o2):=z
def TG:bp hs=c1 0::([c1 1,c1 2,c1 3,c1 4]++[c1 5,c1 6]):=z
def vM(c:Nat):aq:=.Call (.Name "inner"<|tb<|kr<|c1 c) (jN<|kr<|c1 c) []<|kW<|kr<|c1 c
def VV:c1 5=.Expr (vM 5) (tl<|c1 5):=z
def VW:c1 6=.Expr (vM 6) (tl<|c1 6):=z
def gY:a0:=a0.loc<|b9 hs
noncomputable def n9(m d e y:Int)(g:List af):aG:=[("x",.val<|.int m),("L",.val<|.int d),("R",.val<|.int e),("n",.val<|.int y),("a_digits",.own g)]
noncomputable def AP(a d e y r d7 i lo:Int)(g:List af):aG:=[("lower",.val<|.int lo),("upper",.val<|.int i),("shift",.val<|.int d7),("mid",.val<|.int r),("x",.val<|.int a),("L",.val<|.int d),("R",.val<|.int e),("n",.val<|.int y),("a_digits",.own g)]
def Jg(m d e y:Int)(g:List af):fB ct 9 gY (n9 m d e y g).plus (aO<|c1 0)=I (d+1==e):=z
def YQ(m d e y:Int)(g:List af):bh ct 9 gY (n9 m d e y g).plus (aO o2)=I (.int m):=z
def YR(m d e y:Int)(g:List af):bh ct 9 gY (n9 m d e y g).plus (Od o2)=I (.int d):=z
def SP:c1 1=.Assign [.Name "mid"<|ho<|kL<|c1 1] (aO<|c1 1) (f7<|c1 1):=z
def SQ:c1 2=.Assign [.Name "shift"<|ho<|kL<|c1 2] (aO<|c1 2) (f7<|c1 2):=z
def SR:c1 3=.Assign [.Name "upper"<|ho<|kL<|c1 3] (aO<|c1 3) (f7<|c1 3):=z
def SS:c1 4=.Assign [.Name "lower"<|ho<|kL<|c1 4] (aO<|c1 4) (f7<|c1 4):=z
def jv(a d e y r:Int)(g:List af):aG:=(n9 a d e y g).vals [("mid",.int r)]
def kJ(a d e y r d7:Int)(g:List af):aG:=(jv a d e y r g).vals [("shift",.int d7)]
def uf(a d e y r d7 i:Int)(g:List af):aG:=(kJ a d e y r d7 g).vals [("upper",.int i)]
def acz(a d e y r d7 i lo:Int)(g:List af):(uf a d e y r d7 i g).vals [("lower",.int lo)]=AP a d e y r d7 i lo g:=z
def VA(m d e y:Int)(g:List af):bh ct 9 gY (n9 m d e y g).plus (aO<|c1 1)=aI .RShift (.int<|d+e) (.int 1):=z
def VB(a d e y r:Int)(g:List af):bh ct 9 gY (jv a d e y r g).plus (aO<|c1 2)=aI .Mult (.int<|r -d) (.int y):=z
def VC(a d e y r d7:Int)(g:List af):bh ct 9 gY (kJ a d e y r d7 g).plus (aO<|c1 3)=aI .RShift (.int a) (.int d7):=z
def VD(a b e y r d7 i:Int)(g:List af):bh ct 9 gY (uf a b e y r d7 i g).plus (aO<|c1 4)=(aI .LShift (.int i)<|.int d7).bind λd=>aI .BitXor (.int a) d:=z
def SH(a d e y r d7 i lo:Int)(g:List af):fj ct 9 gY (AP a d e y r d7 i lo g).plus (jN<|kr<|c1 5)=I [.int lo,.int d,.int r]:=z
def SI(a d e y r d7 i lo:Int)(g b:List af):fj ct 9 gY ((AP a d e y r d7 i lo g).set "a_digits"<|.own b).plus (jN<|kr<|c1 6)=I [.int i,.int r,.int e]:=z
def Tu(j n a d:ar)(f:List (au×aF))(k e g:ar):BN (fnX "inner" "_int2digits.<locals>.inner" (k2 hs) (bp hs) (b9 hs) f .none .none j n ai a d) ⟨[k,e,g],[]⟩=bq ([bM "x",bM "L",bM "R"].zip [k,e,g]):=z
def Z8:y7 (b9 hs) ["x","L","R"] ["n","inner","a_digits"]=ah:=z
def aaH:gY.own.all (λm=>!(m==("inner":au))&&!(m==("a_digits":au)))=ah:=z
def Dw:(b9 hs).names.lookup (bM "n")=I kR/\(b9 hs).names.lookup (bM "inner")=I kR/\(b9 hs).names.lookup (bM "a_digits")=I kR:=by refine⟨?_,?_,?_⟩<;>kernel_rfl
def NN(m k:Nat):aI .RShift (.int (m:Nat)) (.int (k:Nat))=I (.int ((m/2^k:Nat):Int)):=by have:=NO m k;show(if decide ((0:Int)<=(k:Nat))then I (af.int _)else ai)=_;rw[if_pos (by simp),this]
def aeg(m k:Nat):aI .BitXor (.int (m:Nat)) (.int ((m/2^k*2^k:Nat):Int))=I (.int ((m%2^k:Nat):Int)):=congrArg (λc=>I<|af.int c)<|aeh m k
structure vm(h:Heap)(f jf ci oI:Addr)(n:Nat)(eb:Addr):Prop where
 made:lP h f "inner" "_int2digits.<locals>.inner" (k2 hs) (bp hs) (b9 hs) [("n",oI),("inner",ci),("a_digits",jf)]
 d:h.IsCell jf (some<|.ref eb)
 i:h.IsCell ci (some<|.ref f)
 n:∃t,h.IsCell oI<|some<|.int (n:Nat) t
 ne:oI≠ci/\oI≠jf/\ci≠jf
theorem vm.kept{y jf l g:aF}{p:Nat}(q:vm j y jf l g p b)(k:e5 c j)(m:gK j a):vm a y jf l g p b:=⟨q.made.kept k m,tc k q.d m,tc k q.i m,q.n.imp λZ r=>tc k r m,q.ne⟩
def mD.acf{aa:List ar}(r:mD C g ap am an j al w aa a1 p)(M:dM (σ.map (·.1))=ah) {kN:au} (V:∀F d,σ.lookup F=I (.val d)->atom d=ah/\∃S,bD C p.heap g.env F S/\Rz g.X p.heap S d) (H:∀F J,σ.lookup F=I (.own J)->F=kN/\J=f) (x:bD C p.heap g.env kN (.ref eb)) (E:p.heap.get? eb=I ⟨.type "list",ai,.seq ⟨h⟩ as,#[]⟩) (R:RzL g.X p.heap h f) (K:f.all atom=ah) (Q:¬g.X eb) (Y:¬C.P eb):bg C g (a0.loc j) σ [eb] p:=by have G:=r.good.a_;have D:=r.ok.loc;refine⟨⟨r.good.handled,r.good.depth,r.good.units,r.good.guards,λB q=>?_,λB k=>.inl<|G B k,r.good.ok,r.good.tok⟩,⟨r.ok.sc,r.ok.glob,r.ok.blt,λB k=>.inl<|G B k,r.ok.own,r.ok.cells,λF ad i=>?_,⟨D.kind,D.ns,D.cell,D.apart,D.e_,λB q=>.inl<|D.cE B q,D.hV,D.jz,λO B i=>⟨(D.dC O B i).1,(D.dC O B i).2.1,.inl (D.dC O B i).2.2⟩,D.pin⟩⟩,M,λB q=>?_,λF J i=>?_,λF ab J W B aC aM Z Z=>?_,G,D.cE,λO B i=>(D.dC O B i).2.2⟩;rcases(q:g.X B\/B∈[eb])with q|q;exact r.good.cI B q;rw[c_]at q;subst q;exact⟨_,E,λk=>absurd (G B k) Q⟩;have i:=(gq M).mp i;obtain⟨ac,S,T,U⟩:=V _ _ i;exact⟨S,T,U.atom ac⟩;rw[c_]at q;subst q;exact⟨Q,Y,_,_,E⟩;obtain⟨rfl,rfl⟩:=H F J i;exact⟨eb,c_.mpr rfl,x,_,_,E,R.atoms K⟩;rw[(H F J aC).1,(H ab W aM).1]
def Nf{aa:List ar}(w:RzL c j aa [.int f,.int p,.int d]):∃k i e,aa=[.int f k,.int p i,.int d e]:=w.DP.elim λk w=>w.elim λg w=>(Fl w.2).elim λi q=>q.elim λe q=>⟨k,i,e,w.1.trans (congrArg (_::·) q)⟩
def OD(G:bf C b.X b.A b.fuel l)(F:bD C l.heap b.env m (.ref y))(ag:(m==("__debug__":au))=av)(D:∀ae,aw C l ae->∃k,(k=uW\/k=uX)/\uZ (aQ C.prog C.w) ae.heap (qS<|.ref y) k)(B:fv C b d l e)(r:∀aa ae,aw C l ae->RzL b.X ae.heap aa e->aL (aQ C.prog C.w) b.A (fu (.ref y) aa []) n j ae)(q:cx (.Call (.Name m i) d [] h) b.env=(cx (.Name m i) b.env>>=λt=>hc h t [] (jd h<|hg d b.env)<|ou h<|ox [] b.env)):aL (aQ C.prog C.w) b.A (cx (.Call (.Name m i) d [] h) b.env) n j l:=by rw[q];refine aA<|BY (bD.load F ?_) ag;exact Jv (B h).2 (B h).1 (aw.refl l) G D r
def mD.L7{aa:List ar}(t:mD C g n k m j f d aa l p)(F:a.Y=g.Y)(r:cj C a [h] i p ae):dB C [h] l ae:=by have q:dd C a i l ae:=t.ext.bt.trans r.bt;refine⟨q.same,λD x E B G=>?_,q.tabs,q.ok,q.toks⟩;have aC:=t.ext.keep D x E B;refine r.bt.keep D x aC B (λH=>?_) λI=>?_;rw[F]at H;rw[t.r8 D H]at E;cases E;rcases r.new D I with ab|ab;exact G ab;rw[aC]at ab;cases ab
def dB.kept(f:dB (aR n) [h] l ae)(i:l.heap.get? h=I ⟨.type "list",ai,.seq ⟨a⟩ r,#[]⟩):gK l.heap ae.heap:=λp d k y c=>f.keep p d k y λq=>by rw[c_]at q;subst q;rw[i]at k;cases k;exact c _ _ rfl
def zw(c:g.all atom=ah):(ks y m a e g).all atom=ah:=by rw[bG]at c ⊢;intro d b;obtain⟨w,p,rfl⟩:=Pk b;unfold ks at p ⊢;rw[List.getElem_mapIdx];split;rfl;exact c _<|kP _
def XN(j:d<y)(l:y<=10000):oY (.int (d:Nat)) y=I d:=by show(if 0<=((d:Nat):Int)/\((d:Nat):Int).toNat<y/\y<=1000000 then I ((d:Nat):Int).toNat else ai)=_;rw[if_pos<|by refine⟨by exact fR _,by simpa using j,by exact ao o z⟩];simp
def bg.E2(ak:bg C g f σ d b)(i:σ.lookup y=I (.own l))(m:bD C b.heap g.env y (.ref h)):h∈d/\∃aa j,b.heap.get? h=I ⟨.type "list",ai,.seq ⟨aa⟩ j,#[]⟩/\RzL (g.grow d).X b.heap aa l:=by obtain⟨t,p,q,aa,j,aC,k⟩:=ak.own y l i;have:=q.same m;cases this;exact⟨p,aa,j,aC,k⟩
set_option maxHeartbeats 4000000 in
def XI(G:ba)(cU:1<=D)(a0:D<=10000){cd jf ax ay F:aF}:∀k M r H:Nat,∀B:List af,H=r+k+1->H<=B.length->B.length<=10000->B.all atom=ah->M<2^(D*(H -r))->∀(bm:aF->Prop)(co:ef)(bv:aB)(ch cV be:Tok)(bs:List ar)(cl:Nat),bf (aR G) bm co (k+1) bv->(bm jf/\bm ax/\bm ay)->¬bm F->¬(aR G).P F->vm bv.heap cd jf ax ay D F->bv.heap.get? F=I ⟨.type "list",ai,.seq ⟨bs⟩ cl,#[]⟩->RzL bm bv.heap bs B->∀(bi:ar->aB->Prop)(ce:ar->aB->Prop),(∀ae ap bh,dB (aR G) [F] bv ae->ae.heap.get? F=I ⟨.type "list",ai,.seq ⟨ap⟩ bh,#[]⟩->RzL bm ae.heap ap (ks D M r H B)->bi .none ae)->aL (aQ cH G) co (fu (.ref cd) [.int (M:Nat) ch,.int (r:Nat) cV,.int (H:Nat) be] []) bi ce bv:=by
 intro k;induction k using afB with
 |ind k cw=>
 intro M r H B cT cN bb aj ag bm co bv ch cV be bs cl a7 aq a5 a6 as an b' bi ce q;obtain⟨bE,cB,cm,bC,cq,cY,cQ,cX,aC,aM,bU,bJ⟩:=as.made.obj;obtain⟨cK,az⟩:=as.n;refine B0 ?_;refine JA (C:=aR G) (N:=k) (params:=["x","L","R"]) (fd:=fnX "inner" "_int2digits.<locals>.inner" (k2 hs) (bp hs) (b9 hs) [("n",ay),("inner",ax),("a_digits",jf)] .none .none bE cB ai (.ref cm) bC) cq rfl rfl ⟨_,_,_,_,rfl,aC,bU,bJ⟩ (Eh a7.ok) Z8 (Tu _ _ _ _ _ _ _ _) rfl rfl rfl ?_ ?_ a7 λal J S cR=>?_;exact H3 as.ne.1 as.ne.2.1 as.ne.2.2;exact hO ⟨rm a7.ok az,aq.2.2,_,az⟩<|hO ⟨rm a7.ok as.i,aq.2.1,_,as.i⟩<|hO ⟨rm a7.ok as.d,aq.1,_,as.d⟩ wx;have aH:¬al.X F:=by rw[S.xs];exactλq=>q.elim a5 λad=>by rw[S.r8 F ad]at an;cases an
 have bj:¬(aR G).T F:=λch=>a5<|a7.a_ F ch;have cM:bD (aR G) J.heap al.env "x" (.int (M:Nat) ch):=S.vars _ _ rfl;have cI:bD (aR G) J.heap al.env "L" (.int (r:Nat) cV):=S.vars _ _ rfl;have cJ:bD (aR G) J.heap al.env "R" (.int (H:Nat) be):=S.vars _ _ rfl;have cL:bD (aR G) J.heap al.env "n" (.int (D:Nat) cK):=S.free _ ay _ Dw.1 rfl az;have bx:bD (aR G) J.heap al.env "inner" (.ref cd):=S.free _ ax _ Dw.2.1 rfl as.i;have lz:bD (aR G) J.heap al.env "a_digits" (.ref F):=S.free _ jf _ Dw.2.2 rfl as.d;have ak:=S.acf (σ:=n9 (M:Nat) (r:Nat) (H:Nat) (D:Nat) B) (kN:="a_digits") (eb:=F) z (λad d aN=>hO (P:=λad bw=>∀d,bw=.val d->atom d=ah/\∃be,bD (aR G) J.heap al.env ad be/\Rz al.X J.heap be d) (λZ q=>by cases q;exact⟨rfl,_,cM,.int _ _⟩) (hO (λZ q=>by cases q;exact⟨rfl,_,cI,.int _ _⟩)<|hO (λZ q=>by cases q;exact⟨rfl,_,cJ,.int _ _⟩)<|hO (λZ q=>by cases q;exact⟨rfl,_,cL,.int _ _⟩)<|hO (λZ q=>by cases q) wx) ad _ aN d rfl)
  (λad cg aN=>hO (P:=λad bw=>∀cg,bw=.own cg->ad="a_digits"/\cg=B) (λZ q=>by cases q) (hO (λZ q=>by cases q)<|hO (λZ q=>by cases q)<|hO (λZ q=>by cases q)<|hO (λZ q=>by cases q;exact⟨rfl,rfl⟩) wx) ad _ aN cg rfl) lz (S.ext.keep _ _ an bj) (b'.atoms aj) aj aH a6
 have K:=ak.E8 (p:=λad=>if ad==("inner":au)then I (.ref cd)else if ad==("a_digits":au)then I (.ref F)else ai) (Au:=gY.own) (λad be aN=>by
  split at aN;rename_i am;cases aN;rw[bF am];exact bx;split at aN;rename_i am;cases aN;rw[bF am];exact lz;cases aN) λad am=>⟨am,by
  rw[hA]at am;have:=bG.mp aaH ad<|of_decide_eq_true am;simp only[bY,ew]at this;simp only[this.1,this.2,j8,if_false]⟩
 obtain⟨bk,a9,cr,aV,aW,bV,bc,ab,K⟩:∃bk:b_,bk.env=al.env/\bk.A=al.A/\bk.X=al.X/\bk.Y=al.Y/\bk.fuel=al.fuel/\bk.pin "inner"=I (.ref cd)/\bk.pin "a_digits"=I (.ref F)/\bg (aR G) bk gY (n9 (M:Nat) (r:Nat) (H:Nat) (D:Nat) B) [F] J:=⟨{al with pin:=λad=>if ad==("inner":au)then I (.ref cd)else if ad==("a_digits":au)then I (.ref F)else ai},rfl,rfl,rfl,rfl,rfl,rfl,rfl,K⟩;rw[<-a9,<-cr,TG];have aU:∀(aX:aG)(ac:List aF)(ae:aB),bg (aR G) bk gY aX ac ae->cj (aR G) bk [F] ac J ae->aX.lookup (bM "a_digits")=I (kV.own<|ks D M r H B)->bi .none ae:=by intro aX ac ae V aO aS;obtain⟨b2,ap,bh,cp,cC⟩:=V.E2 aS<|V.ok.loc.pin _ _ ab;exact q ae ap bh (S.L7 aW aO) cp<|cC.atoms<|zw aj
 by_cases U:r+1=H;refine gX ?_;rw[Ly];refine HN<|(eN (eh G 0) 9).lZ gY _ _ ah bk J K.borrow (cO _) ((Jg _ _ _ _ _).trans<|zo<|decide_eq_true U) J (aw.refl J) K.dD _ _ λdx bz=>?_;rw[if_pos rfl];refine gX ?_;rw[YH];refine NU (n:=9) (j:=r) (eh G 0) (cO _) (l:=B) z (YQ _ _ _ _ _) (YR _ _ _ _ _) (XN (ao (bQ o) o) bb) rfl [F] dx (K.ext bz) _ _ λcS eZ br bN=>?_;refine gX<|agQ ?_;refine aU _ _ _ br ((cj.ext bz).trans (K.ext bz) bN) ?_;rw[kI];rw[show H=r+1 by exact i' o,<-Wg (by rw[<-U,show D*(r+1 -r)=D by rw[so,afv]]at ag;exact ag)];rfl;obtain⟨h,b0⟩:∃cl,cl=(r+H)/2:=⟨_,rfl⟩;obtain⟨cz,cA,b5,b6,aT⟩:=yu o U b0;have aY:r<h:=b5▸hC (cv ..);have aZ:h<H:=b6▸hC (cv ..);have b1:D*(H -h)+(h -r)*D=D*(H -r):=by rw[qI (h -r) D,<-uR,G6 (d_ aZ)<|d_ aY]
 have cu:D*(H -r)<=10000*10000:=jF a0<|ao (fz _ _)<|ao o o;have a4:M/2^((h -r)*D)<2^(D*(H -h)):=by rw[Nat.div_lt_iff_lt_mul<|BD z,<-pC,b1];exact ag
 have bZ:M%2^((h -r)*D)<2^(D*(h -r)):=by rw[qI D];exact f_ _<|BD z
 have cD:cc (aR G) bk gY (dY (c1 0) bk.env) (n9 (M:Nat) (r:Nat) (H:Nat) (D:Nat) B) (.next<|n9 (M:Nat) (r:Nat) (H:Nat) (D:Nat) B):=by rw[Ly];exact ug (n:=9) (eh G 0) (cO _) (k:=av) ((Jg _ _ _ _ _).trans<|zo<|decide_eq_false U) (λq=>by cases q) λZ=>cc.nil
 have cE:cc (aR G) bk gY (dY (c1 1) bk.env) (n9 (M:Nat) (r:Nat) (H:Nat) (D:Nat) B) (.next<|jv (M:Nat) (r:Nat) (H:Nat) (D:Nat) (h:Nat) B):=by rw[SP];exact r0 (n:=9) (d:=.int (h:Nat)) (eh G 0) (cO _) ((VA _ _ _ _ _).trans<|by rw[Np,b0]) z z
 have cF:cc (aR G) bk gY (dY (c1 2) bk.env) (jv (M:Nat) (r:Nat) (H:Nat) (D:Nat) (h:Nat) B) (.next<|kJ (M:Nat) (r:Nat) (H:Nat) (D:Nat) (h:Nat) (((h -r)*D:Nat):Int) B):=by rw[SQ];exact r0 (n:=9) (d:=.int (((h -r)*D:Nat):Int)) (eh G 0) (cO _) ((VB _ _ _ _ _ _).trans<|by rw[<-Ac (z7<|ao (fz h r)<|ao (d_ aZ)<|ao ‹H<=_› o) (z7 a0),uJ<|d_ aY]) z z
 have bl:cc (aR G) bk gY (dY (c1 3) bk.env) (kJ (M:Nat) (r:Nat) (H:Nat) (D:Nat) (h:Nat) (((h -r)*D:Nat):Int) B) (.next<|uf (M:Nat) (r:Nat) (H:Nat) (D:Nat) (h:Nat) (((h -r)*D:Nat):Int) ((M/2^((h -r)*D):Nat):Int) B):=by rw[SR];exact r0 (n:=9) (d:=.int ((M/2^((h -r)*D):Nat):Int)) (eh G 0) (cO _) ((VC _ _ _ _ _ _ _).trans<|NN _ _) z z
 have cG:cc (aR G) bk gY (dY (c1 4) bk.env) (uf (M:Nat) (r:Nat) (H:Nat) (D:Nat) (h:Nat) (((h -r)*D:Nat):Int) ((M/2^((h -r)*D):Nat):Int) B) (.next<|AP (M:Nat) (r:Nat) (H:Nat) (D:Nat) (h:Nat) (((h -r)*D:Nat):Int) ((M/2^((h -r)*D):Nat):Int) ((M%2^((h -r)*D):Nat):Int) B):=by rw[SS,<-acz];refine r0 (n:=9) (d:=.int ((M%2^((h -r)*D):Nat):Int)) (eh G 0) (cO _) ((VD _ _ _ _ _ _ _ _).trans ?_) z z;rw[FK (j:=D*(H -h)) a4<|ao (bQ o)<|ao o z];exact aeg _ _
 refine gX<|cD [F] J K _ _ λck pH aI bK=>?_;refine v7<|cc.cons cE (cc.cons cF<|cc.cons bl<|cc.cons cG cc.nil) ck pH aI _ _ λbB dx bo a8=>?_;have bL:=bK.trans aI a8;have fD:bk.fuel=k:=bV.trans S.fuel;have aK:bk.X jf/\bk.X ax/\bk.X ay:=by rw[aV,S.xs];exact⟨.inl aq.1,.inl aq.2.1,.inl aq.2.2⟩
 have a':¬bk.X F:=rwL aV aH;have aD:nx bk.env=av:=by unfold nx;rw[show bk.env.scope.kind=.function from K.ok.loc.kind];rfl
 have fu:∀(a1:Nat)(aX:aG)(O:List af)(a2 ca bn:Nat)(bd:Nat)(ac:List aF)(ae:aB),bd<k->bn=ca+bd+1->bn<=B.length->O.length=B.length->O.all atom=ah->a2<2^(D*(bn -ca))->
   bg (aR G) bk gY aX ac ae->cj (aR G) bk [F] ac J ae->aX.lookup (bM "a_digits")=I (kV.own O)->fj ct 9 gY aX.plus (jN<|kr<|c1 a1)=I [.int (a2:Nat),.int (ca:Nat),.int (bn:Nat)]->
   cx (vM a1) bk.env=(cx (.Name "inner"<|tb<|kr<|c1 a1) bk.env>>=λbe=>hc (kW<|kr<|c1 a1) be [] (jd (kW<|kr<|c1 a1)<|hg (jN<|kr<|c1 a1) bk.env)<|ou (kW<|kr<|c1 a1)<|ox [] bk.env)->
   ∀(bi:nt->aB->Prop)(ce:ar->aB->Prop),(∀dj,bg (aR G) bk gY (aX.set "a_digits"<|.own<|ks D a2 ca bn O) ac dj->cj (aR G) bk [F] ac J dj->bi .next dj)->(a3:mC (vM a1) ai (tl<|c1 a1).line bk.env=bq av)->
   aL (aQ cH G) bk.A (dY (.Expr (vM a1)<|tl<|c1 a1) bk.env) bi ce ae:=by
  intro a1 aX O a2 ca bn bd ac ae bX cs bS bT aA b3 V aO aS aP aE bi ce q a3
  have bA:=as.kept a7.ok<|(S.L7 aW aO).kept an
  refine wpAny_Expr ?_ aD a3
  refine OD V.dD (V.ok.loc.pin _ _ bc) z (λeZ aJ=>(bA.kept V.good.ok<|gK.kB aJ).made.zW) ((eN (eh G 0) 9).jS _ _ _ _ bk ae V.borrow (cO _) aP) (λaa eZ aJ cb=>?_) aE
  obtain⟨bW,cn,e0,rfl⟩:=Nf cb
  have W:=V.ext aJ
  obtain⟨b2,b4,aT,bH,bl⟩:=W.E2 aS<|W.ok.loc.pin _ _ ab
  refine cw bd bX a2 ca bn O cs (ao bS<|bQ bT.symm) (ao (bQ o) o) aA b3 bk.X bk.A eZ bW cn e0 b4 aT (W.dD.fuel<|kb o<|i' o) aK a' a6 (bA.kept V.good.ok<|gK.kB aJ) bH (bl.atoms aA) _ _ λdI cP cW b7 bI b8=>?_
  obtain⟨cf,bO⟩:=W.update aS (W.ok.loc.pin _ _ ab) b2 b7 bI<|b8.atoms<|zw aA
  exact q dI cf<|(aO.trans V<|cj.ext aJ).trans W bO
 refine gX ?_;rw[VV];refine fu 5 _ B (M%2^((h -r)*D)) r h cz bB dx (aT▸hC (cv ..)) b5 (ao (d_ o) o) rfl aj bZ bo bL z (SH _ _ _ _ _ _ _ _ _) z _ _ (λmH bt bP=>?_) z;refine gX ?_;rw[VW];refine fu 6 _ (ks D (M%2^((h -r)*D)) r h B) (M/2^((h -r)*D)) h H cA bB mH (aT▸hC (cy ..)) b6 (by assumption) Wf (zw aj) a4 bt bP (by rw[kI];rfl) (SI _ _ _ _ _ _ _ _ _ _) z _ _ (λrU bu bR=>?_) z;refine pF ?_;refine aU _ _ _ bu bR ?_;rw[kI,Wh (d_ o)<|d_ o];rfl
def iT(c:Nat):aP:=aN (bp m6) c
def oL:aq:=aO<|iT 0
def TH:bp m6=[.Assign [.Name "a_digits"<|ho<|kL<|iT 0] oL<|f7<|iT 0,.FunctionDef "inner" (k2 hs) (bp hs) [] ai [] (b9 hs) ai "inner" E9,iT 2,.Return (I<|aO<|iT 3)<|f7<|iT 3]:=z
def Kl:oL=.BinOp (iA oL) .Mult (nL oL) (kW oL):=z
def vh:aq:=kr<|aN (c2<|iT 2) 0
def XE:iT 2=.If (aO<|iT 2) [.Expr (.Call (.Name "inner"<|tb vh) (jN vh) []<|kW vh)<|tl<|aN (c2<|iT 2) 0] [] (f7<|iT 2):=z
def lQ:a0:=a0.fn<|b9 m6
noncomputable def w'(f y:Int):aG:=[("a",.val<|.int f),("n",.val<|.int y)]
noncomputable def pe(f y:Int)(g:List af):aG:=[("a_digits",.own g),("a",.val<|.int f),("n",.val<|.int y)]
def ab5(f y:Int)(g:List af):(w' f y).set "a_digits" (.own g)=pe f y g:=z
def ab6(f y:Int)(g b:List af):(pe f y g).set "a_digits" (.own b)=pe f y b:=z
def Fc:bH m6=[bM "a",bM "n"]:=z
def VT(f y:Int):bh ct 9 lQ (w' f y).plus (iA oL)=I (.list [.int 0]):=z
def VU(f y:Int):bh ct 9 lQ (w' f y).plus (nL oL)=aI .FloorDiv (.int<|(dn f:Nat)+y -1) (.int y):=z
def Jh(f y:Int)(g:List af):fB ct 9 lQ (pe f y g).plus (aO<|iT 2)=I (f !=0):=z
def abF(f y:Int)(g:List af):bh ct 9 lQ (pe f y g).plus (aO<|iT 3)=I (.list g):=z
def SJ(f y:Int)(g:List af)(j:g.length<=10000):fj ct 9 lQ (pe f y g).plus (jN vh)=I [.int f,.int 0,.int g.length]:=by have i:fj ct 9 lQ (pe f y g).plus (jN vh)=(I<|af.int f).bind λd=>((I<|af.int 0).bind λd=>((gE (iB [.list g]) ai).bind λd=>(I []).bind λw=>I<|d::w).bind λw=>I<|d::w).bind λw=>I (d::w):=z;rw[i];have:iB [.list g]=I (.int g.length):=if_pos (by simp only[gH];exact ao o z);rw[this];rfl
def oR(r:bL):x2:=fN<|tY r
def Us(r:bL)(d:aF):x7 (b9 hs) (dX (oR r) d 106)=bq [(bM "n",d+1),(bM "inner",d+1+1+1),(bM "a_digits",d+1+1)]:=z
def UE(r:bL)(d:aF):(dX (oR r) d 106).code=.ref 105:=z
def abn(r:bL)(d:aF):Qq (dX (oR r) d 106) "inner" "inner"=bM "_int2digits.<locals>.inner":=z
def Sv(c:kQ):P_ (k2 hs) ai c=[]:=z
def Uo(r:bL)(d:aF):(dX (oR r) d 106).cells=[(bM "inner",d+1+1+1),(bM "a_digits",d+1+1),(bM "n",d+1)]:=z
def YA(r:bL)(d:aF):(dX (oR r) d 106).kindOf (bM "inner")=I ip/\(dX (oR r) d 106).kindOf (bM "n")=I ip/\(dX (oR r) d 106).kindOf (bM "a_digits")=I ip:=by refine⟨?_,?_,?_⟩<;>kernel_rfl
def S0(n:ba):∀j,e5 n j->j.get? 106=I (tY n.params):=λj k=>gB (a:=106) k z rfl (show(gA n.params).get 106=I (tY n.params)by kernel_rfl) z
def NC:ju (b9 m6) (bH m6)=ah:=z
def aaI:lQ.own.contains (bM "inner")=ah:=z
def aak:i3 lQ "a_digits"=ah:=z
noncomputable def d6(y f:Nat):Nat:=(dn (f:Nat)+y -1)/y
def ei(y f:Nat):List Nat:=(aH<|d6 y f).map λc=>f/2^(y*c)%2^y
def Vm(q:1<=p)(c:p<=10000):aI .FloorDiv (.int (f:Nat)) (.int (p:Nat))=I (.int ((f/p:Nat):Int)):=by show(if(((p:Nat):Int)!=0)&&!nr (f:Nat) (p:Nat)then I (af.int _)else ai)=_;rw[yv<|b4 c z,wR q,if_pos rfl,Bi _<|fR _,<-Bl]
def Wi:ks y f 0 r (dw r<|.int 0)=ea ((aH r).map λc=>f/2^(y*c)%2^y):=by apply Pa;intro w;unfold ks ea;rw[Bq,jC,jC,List.getElem?_replicate];by_cases b:w<r;rw[xM b];simp[b];rw[if_neg b,xK<|by simpa using b];rfl
def zz(s:1<=n):a<2^(n*(d6 n a -0)):=by refine cq (D7 a)<|fp z ?_;unfold d6;have:=GZ (dn (a:Nat)+n -1) n;have l:=f_ (dn (a:Nat)+n -1) (show n>0 by exact ao (cy _ _) o);rw[PF];refine Nat.le_of_add_le_add_right (b:=n -1) ?_;rw[<-Bz s (dn (a:Nat))];exact ao (bQ this.symm)<|hB (Nat.le_sub_one_of_lt l) _
set_option tactic.hygienic true in
set_option maxHeartbeats 4000000 in
def XK(p:ba)(P:1<=e)(aj:e<=10000)(as:d6 e j<=1000)(a_:d6 e j<=N):eg (aR p) (.ref 106) [.int (j:Nat),.int (e:Nat)] (N+1) (.list<|ea<|ei e j):=by
 intro bP bO bp aa a6 aZ bw bC q;refine wa (C:=aR p) (Kx p) NC (by rw[aZ.length,Fc];rfl) a6 λm K R an=>?_;have ak:=R.sim NC (by rw[Fc];rfl) a6 aZ;rw[show c4 (bH m6) [.int (j:Nat),.int (e:Nat)]=w' (j:Nat) (e:Nat)by rw[Fc];rfl]at ak;obtain⟨B,J⟩:=R.fd (S0 p) a6.ok;have ar:m.fuel=N:=R.fuel;rw[TH];have bk:cc (aR p) m lQ (dY (.Assign [.Name "a_digits"<|ho<|kL<|iT 0] oL<|f7<|iT 0) m.env) (w' (j:Nat) (e:Nat)) (.next<|pe (j:Nat) (e:Nat)<|dw (d6 e j)<|.int 0):=by
  intro cd bp ak bw bC aE;rw[HB _ _ _ _ _ (show mC oL _ _ m.env=bq av by rw[Kl];rfl)];refine aA<|dT<|aA ?_;rw[Kl,P'];refine aA<|ak.ev (n:=9) (eh p 0) (cO _) (VT _ _) bp (aw.refl bp) ak.dD _ _ λbm K H aG=>aA<|du<|ak.ev (n:=9) (d:=.int (d6 e j:Nat)) (eh p 0) (cO _) ((VU _ _).trans ?_) K H (ak.dD.ext H) _ _ λbL aI O aH=>aA<|dT<|qs ?_;rw[show(((dn (j:Nat):Nat):Int)+(e:Nat) -1)=((dn (j:Nat)+e -1:Nat):Int)from(uJ<|ao P (cy ..)).symm];exact Vm P aj;refine MN [.int 0] (d6 e j:Nat) (gR.mpr as) (fR _) z m.X m.A m.fuel aI bm bL ((ak.dD.ext H).ext O) ((ak.dD.ext H).mono O aG) aH _ _ λaD eZ a4 bI M bh bU aY=>?_;refine aA<|dT<|aA ?_;have bu:=(H.trans O).trans M;have bc:(dw (d6 e j) [af.int 0]).flatten=dw (d6 e j) (.int 0):=by generalize d6 e j=k;induction k with|zero=>rfl|succ k a1=>rw[qD,qD,uM,a1];rfl
  rw[sh,bc]at aY;have bj:RzL (m.grow cd).X eZ.heap a4 (dw (d6 e j)<|.int 0):=aY.atoms<|bG.mpr λa2 ag=>O' ag▸rfl;refine ak.anew bu ((H.trans O).old ak.dD bh) bU bj (by
   generalize d6 e j=k;induction k with
   |zero=>rfl
   |succ k a1=>exact a1) aak λae V a8=>a' ?_
  rw[ab5]at V;exact aE _ ae V a8
 refine gX<|bk [] K ak _ _ λap dg Y aJ=>?_;refine gX (J7 (Ef p) Y R.ON (by rw[J];exact Us p.params B) (by rw[J];exact UE p.params B) (by rw[J];exact abn p.params B) aaI z z z (Sv _) λa7 dx G aK bf bt=>?_);have S:cj (aR p) m [] ap K dx:=aJ.trans Y aK;have ret:∀(al:List aF)(ae:aB),bg (aR p) m lQ (pe (j:Nat) (e:Nat)<|ea<|ei e j) al ae->cj (aR p) m [] al K ae->∀an,aL (aQ cH p) m.A (ep [.Return (I<|aO<|iT 3)<|f7<|iT 3] m.env) (λa7 ae=>bw (match a7 with|.ret bm=>bm|Z=>.none) ae) an ae:=by intro al ae a3 a9 an;refine gX<|FP (n:=9) (eh p 0) (cO _) (abF _ _ _) al ae a3 _ _ λbm bD eZ T bE bo=>?_;obtain⟨a2,bj⟩:=R.leave a6 (a9.trans a3 T) bo;exact q bm eZ a2 bj
 have F:nx m.env=av:=by unfold nx;rw[show m.env.scope.kind=.function from ak.ok.loc.kind];rfl
 refine gX ?_;rw[XE];by_cases aN:j=0;subst aN;have h0:d6 e 0=0:=by unfold d6;rw[show dn ((0:Nat):Int)=0 by rfl];exact uQ (by rw[ij];exact uT P z)
 have bb:ea (ei e 0)=dw (d6 e 0) (.int 0):=by unfold ei;rw[h0];rfl
 refine HN ((eN (eh p 0) 9).lZ lQ _ _ av m dx G.borrow (cO _) ((Jh _ _ _).trans<|by simp) dx (aw.refl dx) G.dD _ _ λeZ M=>?_);rw[if_neg z];refine pF ?_;exact ret ap eZ (by rw[bb];exact G.ext M) (S.trans G<|cj.ext M) _;refine HN ((eN (eh p 0) 9).lZ lQ _ _ ah m dx G.borrow (cO _) ((Jh _ _ _).trans<|by simpa using aN) dx (aw.refl dx) G.dD _ _ λeZ M=>?_);rw[if_pos rfl];have b:=G.ext M;have T:=S.trans G<|cj.ext M;obtain⟨aD,U,ac,bF,bK,bx,bB⟩:=b.own "a_digits" (dw (d6 e j)<|.int 0) z;obtain⟨au,ax,Z⟩:=b.lists aD U;obtain⟨bN,a5,a0⟩:=b.ok.names "n" (.int (e:Nat)) z;cases a0;rename_i br;have bn:=bt.ext M;have az:=YA p.params B;have aC:∀a2,m.env.kindOf a2=(dX (oR p.params) B 106).kindOf a2:=λa2=>by rw[J];rfl
 have ay:m.env.cells=(dX (oR p.params) B 106).cells:=by rw[J];rfl
 have aq:=Uo p.params B;have aU:m.env.cells.lookup (bM "a_digits")=I (B+1+1):=by rw[ay,aq];rfl
 have aV:m.env.cells.lookup (bM "inner")=I (B+1+1+1):=by rw[ay,aq];rfl
 have aW:m.env.cells.lookup (bM "n")=I (B+1):=by rw[ay,aq];rfl
 have aP:=uu (env:=m.env) ac (by rw[aC];exact az.2.2) aU;have aS:=uu (env:=m.env) bn (by rw[aC];exact az.1) aV;have aT:=uu (env:=m.env) a5 (by rw[aC];exact az.2.1) aW;have bd:vm eZ.heap a7 (B+1+1) (B+1+1+1) (B+1) e aD:=⟨bf.kept G.good.ok<|gK.kB M,aP,aS,⟨br,aT⟩,f'<|jc (fS _)<|fS _,f'<|fS _,ih<|fS _⟩;have ad:m.X (B+1+1)/\m.X (B+1+1+1)/\m.X (B+1):=⟨b.eE _ _ aU,b.eE _ _ aV,b.eE _ _ aW⟩;have ai:0<d6 e j:=by have:=zz (n:=e) (a:=j) P;rcases afi (d6 e j)with bs|bs;rw[bs]at this;simp at this;exact absurd o ‹¬_›;exact bs
 refine gX (wpAny_Expr (OD b.dD bn z (λdI i=>(bd.kept b.good.ok<|gK.kB i).made.zW) ((eN (eh p 0) 9).jS _ _ _ _ m eZ b.borrow (cO _)<|SJ _ _ _ (by rw[xN];exact ao as z)) (λca dI i am=>?_) z) F z);rw[xN]at am;obtain⟨bW,cn,e0,rfl⟩:=Nf am;have t:=b.ext i;obtain⟨Z,be,bi,bJ,bv⟩:=t.E2 (y:="a_digits") (l:=dw (d6 e j)<|.int 0) z<|ac.ext i;have D:(dw (d6 e j)<|af.int 0).all atom=ah:=bG.mpr λa2 ag=>O' ag▸rfl;refine XI p P aj (d6 e j -1) j 0 (d6 e j) (dw (d6 e j)<|.int 0) (by rw[ij];exact(oj ai).symm) (by rw[xN];exact cz _) (by rw[xN];exact ao as z) D (zz P) m.X m.A dI bW cn e0 be bi (t.dD.fuel (by rw[oj ai,ar];exact a_)) ad au ax (bd.kept b.good.ok<|gK.kB i) bJ (bv.atoms D) _ _ λmH bz bA aX jk bl=>?_;obtain⟨ab,aM⟩:=t.update (x:="a_digits") (l:=dw (d6 e j)<|.int 0) z (ac.ext i) U aX jk<|bl.atoms<|zw D;rw[ab6,Wi]at ab;refine pF ?_;exact ret ap mH ab ((T.trans b<|cj.ext i).trans t aM) _
def fk(i:aP):List aP:=(r7 i).elim [] (·.2.2.1)
def jT(i:aP):aq:=(r7 i).elim ie (·.1)
def l2(i:aP):aq:=(r7 i).elim ie (·.2.1)
def iz(c:Nat):aP:=aN (bp m8) c
def g'(c:Nat):aP:=aN (fk<|iz 1) c
def r9(c:Nat):aP:=aN (fk<|g' 3) c
def jK:Nat->cY:=λ_=>ct
def bE:a0:=a0.fn<|b9 m8
noncomputable def J(k:Nat):af:=.int ((k:Nat):Int)
noncomputable def dr(y r:Nat):List Nat:=(aH y).filter λk=>r.testBit k
def el(y r:Nat):List Nat:=(aH y).filter λk=>!(dr y r).contains k
def t7(e l:List Nat):af:=.list [.list<|e.map J,.list<|l.map J]
def o'(j:y<=1000):eo [J y]=I ((aH y).map J):=by
 have e:kd 0 ((y:Nat):Int) 1=y:=by unfold kd;rw[if_pos z];split;rw[Int.sub_zero,Int.ediv_one];exact O4 _ 1;rename_i j;exact(aeF (ja.mp j)<|fR y).symm
 have d:lh 0 ((y:Nat):Int) 1=ah:=by
  unfold lh PM;rw[e];have a:∀k:Int,0<=k->k<=1000->ahh k=ah:=λk s l=>by show(decide _&&decide _)=ah;rw[decide_eq_true<|j9 z s,decide_eq_true<|lA l z];rfl
  rw[a 0 (fR _)<|fR _,a y (fR _)<|gR.mpr j,a 1 (fR _) z,if_pos z,a _ (show(0:Int)<=(y:Int)+(1 -1)by exact fR _)<|show(y:Int)+(1 -1)<=1000 from gR.mpr j];rw[decide_eq_true<|show((y:Nat):Int)<=1000000 from gR.mpr<|ao j z,Bg];rfl
 show(if lh 0 ((y:Nat):Int) 1 then I (kH 0 1 (kd 0 (y:Nat) 1).toNat)else ai)=_;rw[if_pos d,e,sh];refine congrArg I ?_;refine jb λk Z=>?_;exact congrArg af.int<|(qA _).trans<|oe _
def kK(i:aq):aq:=((cb i).ifs.head?).getD i
def cC(a:a0)(i:aq):a0:=(a.comp<|d1 i).getD a
def eP(a:a0)(i:aq)(f:cf)(d:af):cf:=(fw (cC a i) (cb i).target d<|eK (d1 i) f).getD []
def pI(h g e l:List Nat)(aV aJ:aF):aG:=[("tables",.val<|.list [.ref aV,.ref aJ]),("frames",.val<|.list<|h.map J),("ranks",.val<|.list<|g.map J),("orders",.val<|t7 e l)]
def m5(h g e l:List Nat)(aV aJ:aF)(r:Nat):aG:=(pI h g e l aV aJ).vals [("mask",J r)]
def rV(h g e l:List Nat)(aV aJ:aF)(r:Nat)(c:List Nat):aG:=(m5 h g e l aV aJ r).vals [("inside",.list<|c.map J)]
def rW(h g e l:List Nat)(aV aJ:aF)(r:Nat)(c x:List Nat):aG:=(rV h g e l aV aJ r c).vals [("outside",.list<|x.map J)]
def c3(s:Nat×Nat):af:=.tuple [J s.1,J s.2]
def qo(h g e l:List Nat)(aV aJ:aF)(r:Nat)(c x:List Nat)(n:List (Nat×Nat)):aG:=(rW h g e l aV aJ r c x).vals [("swaps",.list<|n.map c3)]
def cD:aq:=aO<|g' 0
def aC:aq:=aO<|g' 1
def aM:PySem.Expr:=aO<|g' 2
def ze:l6 cD=ah/\bE.comp (d1 cD)=I (cC bE cD)/\jP cD=[]/\(cb cD).ifs=[kK cD]:=by refine⟨?_,?_,?_,?_⟩<;>kernel_rfl
def zf:l6 aC=ah/\bE.comp (d1 aC)=I (cC bE aC)/\jP aC=[]/\(cb aC).ifs=[kK aC]:=by refine⟨?_,?_,?_,?_⟩<;>kernel_rfl
def qc(d:List af)(j:d.length<=1000000):iB [.list d]=I (J d.length):=if_pos (by simpa using j)
section
variable(fr b2 bP bX:List Nat)(aV aJ:aF)(m:Nat)
def X'(q:Nat):er ct (q+9) bE (m5 fr b2 bP bX aV aJ m).plus (cb cD).target (cb cD).iter=((gE (iB [.list<|bP.map J]) ai).bind λd=>(I []).bind λw=>I<|d::w).bind eo:=z
def S5(k:Nat):fw (cC bE cD) (cb cD).target (J k) (eK (d1 cD) (m5 fr b2 bP bX aV aJ m).plus)=I (eP bE cD (m5 fr b2 bP bX aV aJ m).plus<|J k):=z
def ada(q k:Nat):fB ct (q+9) (cC bE cD) (eP bE cD (m5 fr b2 bP bX aV aJ m).plus<|J k) (kK cD)=((aI .RShift (J m)<|J k).bind λd=>aI .BitAnd d<|.int 1).bind uj:=z
def adQ(q k:Nat):bh ct (q+9) (cC bE cD) (eP bE cD (m5 fr b2 bP bX aV aJ m).plus<|J k) (b8 cD)=I (J k):=z
end
def TC(r k:Nat):((aI .RShift (J r)<|J k).bind λd=>aI .BitAnd d<|.int 1).bind uj=I (r.testBit k):=by unfold J;rw[NN,a3];have s:xW ((r/2^k:Nat):Int) 1=((r/2^k&&&1:Nat):Int):=IK _ 1;show I ((xW ((r/2^k:Nat):Int) 1)!=0)=_;rw[s,Nat.testBit,afA,Nat.and_comm];refine congrArg I ?_;induction a:(1&&&r/2^k)using cN with|zero=>rfl|succ w=>rfl
def H0(a:List Nat)(j:a.length<=1000):((gE (iB [.list<|a.map J]) ai).bind λd=>(I []).bind λw=>I<|d::w).bind eo=I ((aH a.length).map J):=by
 have i:(gE (iB [.list<|a.map J]) ai)=I (J a.length):=by rw[qc _ (by rw[bZ];exact ao o z),bZ];rfl
 rw[i,a3,a3,a3];exact o' j
def QJ(a g e l:List Nat)(aV aJ:aF)(r:Nat)(j:e.length<=1000):ck jK bE (m5 a g e l aV aJ r).plus (cb cD).target (cb cD).iter ((aH e.length).map J):=by refine bR.of 9 λt q=>?_;show er ct (q+9) _ _ _ _=_;rw[X',H0 e j]
def QK(a g e l:List Nat)(aV aJ:aF)(r:Nat)(j:e.length<=1000):eJ jK (cC bE cD) (eK (d1 cD) (m5 a g e l aV aJ r).plus) (b8 cD) (cb cD).target [kK cD] [] ((aH e.length).map J) ((dr e.length r).map J):=eJ.map J J (λk=>r.testBit k) _ λk y=>⟨_,S5 a g e l aV aJ r k,dZ.one<|bR.of 9 λt q=>(ada a g e l aV aJ r q k).trans<|TC r k,λZ=>bR.of 9 λt q=>adQ a g e l aV aJ r q k⟩
def oQ(f p:Nat)(y:Nat):cW y (J f) (J p)=I (f==p):=by
 have:cW y (J f) (J p)=I (((f:Nat):Int)==((p:Nat):Int)):=by cases y<;>rfl
 rw[this];refine congrArg I ?_;by_cases j:f=p;subst j;simp;rw[beq_false_of_ne j,beq_false_of_ne<|by omega]
theorem JP(k:Nat):∀d:List Nat,hn (J k) (d.map J)=I (d.count k)
 |[]=>rfl
 |a::w=>by
  rw[c8]
  unfold hn
  rw[oQ,a3,JP k w,kc,nd]
  refine congrArg I ?_
  cases a==k<;>rfl
def tw(k:Nat)(d:List Nat):mG (J k) (.list<|d.map J)=I (d.contains k):=by show(hn (J k)<|d.map J).map (λ(y:Nat)=>y !=0)=_;rw[JP,kc];refine congrArg I ?_;rw[gQ];simp[List.count_eq_zero]
section
variable(fr b2 bP bX:List Nat)(aV aJ:aF)(m:Nat)(i:List Nat)
def Ya(q:Nat):er ct (q+9) bE (rV fr b2 bP bX aV aJ m i).plus (cb aC).target (cb aC).iter=((gE (iB [.list<|bP.map J]) ai).bind λd=>(I []).bind λw=>I<|d::w).bind eo:=z
def S6(k:Nat):fw (cC bE aC) (cb aC).target (J k) (eK (d1 aC) (rV fr b2 bP bX aV aJ m i).plus)=I (eP bE aC (rV fr b2 bP bX aV aJ m i).plus<|J k):=z
def adb(q k:Nat):fB ct (q+9) (cC bE aC) (eP bE aC (rV fr b2 bP bX aV aJ m i).plus<|J k) (kK aC)=(mG (J k)<|.list<|i.map J).map (!·):=z
def adR(q k:Nat):bh ct (q+9) (cC bE aC) (eP bE aC (rV fr b2 bP bX aV aJ m i).plus<|J k) (b8 aC)=I (J k):=z
end
def KH(j:y<=1000)(k:Nat->Bool)(e:Nat->af):(((aH y).filter k).map e).length<=1000000:=by rw[bZ];refine ao (mw ..) ?_;rw[f9];exact ao o z
def QI(a g e l:List Nat)(aV aJ:aF)(r:Nat)(j:e.length<=1000):aj jK bE (m5 a g e l aV aJ r).plus cD (.list<|(dr e.length r).map J):=by refine aj.comp ze.1 ze.2.1 (QJ a g e l aV aJ r j) ?_<|KH j _ _;rw[ze.2.2.1,ze.2.2.2];exact QK a g e l aV aJ r j
def qV(a g e l:List Nat)(aV aJ:aF)(r:Nat)(j:e.length<=1000):aj jK bE (rV a g e l aV aJ r<|dr e.length r).plus aC (.list<|(el e.length r).map J):=by refine aj.comp zf.1 zf.2.1 (ds:=(aH e.length).map J) (bR.of 9 λt q=>?_) ?_<|KH j _ _;show er ct (q+9) _ _ _ _=_;rw[Ya,H0 e j];rw[zf.2.2.1,zf.2.2.2];refine eJ.map J J (λk=>!(dr e.length r).contains k) _ λk y=>⟨_,S6 a g e l aV aJ r _ k,dZ.one<|bR.of 9 λt q=>?_,λZ=>bR.of 9 λt q=>adR a g e l aV aJ r _ q k⟩;show fB ct (q+9) _ _ _=_;rw[adb,tw];rfl
def jW:mA:=((jP aM).head?).getD ⟨aM,aM,[],1⟩
def vW:l6 aM=ah/\bE.comp (d1 aM)=I (cC bE aM)/\jP aM=[⟨jW.target,jW.iter,jW.ifs,0⟩]/\(cb aM).ifs=[]/\jW.ifs=[(jW.ifs.head?).getD aM]:=by refine⟨?_,?_,?_,?_,?_⟩<;>kernel_rfl
noncomputable def qk(g:List Nat)(w:Nat):Bool:=g[w]?==g.getLast?
def j3(g:List Nat)(r:Nat)(c x:List Nat):List (Nat×Nat):=c.flatMap λf=>(x.filter λa=>qk g<|r -2^f+2^a).map λa=>(f,a)
def sX(a:a0)(k:aq)(f:cf)(d:af):cf:=(fw a k d f).getD []
section
variable(fr b2 bP bX:List Nat)(aV aJ:aF)(m:Nat)(i a4:List Nat)
def ua(k:Nat):cf:=eP bE aM (rW fr b2 bP bX aV aJ m i a4).plus<|J k
def Yb(q:Nat):er ct (q+9) bE (rW fr b2 bP bX aV aJ m i a4).plus (cb aM).target (cb aM).iter=I (i.map J):=z
def S_(k:Nat):fw (cC bE aM) (cb aM).target (J k) (eK (d1 aM) (rW fr b2 bP bX aV aJ m i a4).plus)=I (ua fr b2 bP bX aV aJ m i a4 k):=z
def Yd(q k:Nat):er ct (q+9) (cC bE aM) (ua fr b2 bP bX aV aJ m i a4 k) jW.target jW.iter=I (a4.map J):=z
def S'(k w:Nat):fw (cC bE aM) jW.target (J w) (ua fr b2 bP bX aV aJ m i a4 k)=I (sX (cC bE aM) jW.target (ua fr b2 bP bX aV aJ m i a4 k)<|J w):=z
def ade(q k w:Nat):fB ct (q+14) (cC bE aM) (sX (cC bE aM) jW.target (ua fr b2 bP bX aV aJ m i a4 k)<|J w) ((jW.ifs.head?).getD aM)=((((aI .Pow (.int 2)<|J k).bind λd=>aI .Sub (J m) d).bind λd=>(aI .Pow (.int 2)<|J w).bind λt=>aI .Add d t).bind λd=>c7 (.list<|b2.map J) d).bind λf=>(c7 (.list<|b2.map J)<|.int<|-1).bind λp=>fC .Eq f p:=z
def ad3(q k w:Nat):bh ct (q+9) (cC bE aM) (sX (cC bE aM) jW.target (ua fr b2 bP bX aV aJ m i a4 k)<|J w) (b8 aM)=I (c3 (k,w)):=z
end
def E'(k:Nat)(j:k<=1000):aI .Pow (.int 2) (J k)=I (J<|2^k):=by
 show(if decide (0<=((k:Nat):Int))&&!uV (((dn 2:Nat):Int)*(k:Nat))then I (af.int _)else ai)=_;have l:dn 2=2:=by decide+kernel
 have s:uV (((dn 2:Nat):Int)*(k:Nat))=av:=by rw[l];exact decide_eq_false (ja.mpr<|gR.mpr<|ao (iN 2 j)<|show 2*1000<=Qd by decide)
 rw[s];exact congrArg (λc=>I<|af.int c) (mv 2 k).symm
def ac3:((aH 7).all λy=>(aH<|2^y).all λr=>(aH y).all λk=>(aH y).all λw=>!(r.testBit k&&!r.testBit w)||(decide (r -2^k+2^w<2^y)&&decide (2^k<=r)))=ah:=by decide+kernel
def H8(i:y<=6)(x:r<2^y)(b:k∈dr y r)(p:w∈el y r):r -2^k+2^w<2^y/\2^k<=r:=by
 obtain⟨c,t⟩:=dP.mp b;obtain⟨g,f⟩:=dP.mp p;have q:r.testBit w=false:=by
  induction e:r.testBit w using bz with
  |false=>rfl
  |true=>
   have:w∈dr y r:=dP.mpr ⟨g,e⟩;simp[this]at f
 have s:=bG.mp ac3 y<|bl.mpr<|b4 o z;have l:=bG.mp s r<|bl.mpr x;have d:=bG.mp l k c;have a:=bG.mp d w g;rw[t,q]at a;simpa using a
def zU{g:List Nat}(a:w<g.length)(r:g.length<=1000):c7 (.list<|g.map J) (J w)=I (J g[w]):=by show(kT (g.map J).length ((w:Nat):Int)).bind (λw=>(g.map J)[w]?)=_;rw[bZ,zN a<|ao (d_ a)<|ao r z];simp[a]
def LV(b:g≠[])(r:g.length<=1000):c7 (.list<|g.map J) (.int<|-1)=I (J<|g.getLast b):=by
 show(kT (g.map J).length<|-1).bind (λw=>(g.map J)[w]?)=_;have a:0<g.length:=List.length_pos_iff.mpr b;have:kT (g.map J).length (-1)=I (g.length -1):=by rw[bZ];unfold kT qT;rw[if_pos z];rw[if_pos (show(-1:Int)<0 by decide),show(-1:Int)+((g.length:Nat):Int)=((g.length -1:Nat):Int)from(uG _ _).trans (uJ a).symm];exact if_pos (by rw[decide_eq_true<|lB.mpr<|uT a z];rfl)
 rw[this,a3,jC,hb<|uT a z,ae4];rfl
def adm(s:y<=6)(x:r<2^y)(c:g.length=2^y)(D:k∈dr y r)(p:w∈el y r):(((((aI .Pow (.int 2)<|J k).bind λd=>aI .Sub (J r) d).bind λd=>(aI .Pow (.int 2)<|J w).bind λt=>aI .Add d t).bind λd=>c7 (.list<|g.map J) d).bind λf=>(c7 (.list<|g.map J)<|.int<|-1).bind λG=>fC .Eq f G)=I (qk g<|r -2^k+2^w):=by
 obtain⟨B,l⟩:=H8 s x D p;have C:y<=1000:=ao s z;have h:k<=1000:=ao (d_<|bl.mp (dP.mp D).1) C;have e:w<=1000:=ao (d_<|bl.mp (dP.mp p).1) C;have A:g≠[]:=λq=>by rw[q]at c;exact absurd c<|f'<|nk y
 have E:g.length<=1000:=rwL c<|ao (fp z s) z;rw[E' k h,a3];have dg:aI .Sub (J r) (J<|2^k)=I (J<|r -2^k):=by exact congrArg (λF=>I<|af.int F) (uJ l).symm
 rw[dg,a3,E' w e,a3];have dx:aI .Add (J<|r -2^k) (J<|2^w)=I (J<|r -2^k+2^w):=by exact congrArg (λF=>I<|af.int F) (se _ _).symm
 rw[dx,a3,zU (rwL c B) E,a3,LV A E,a3];show cW 9 _ _=_;rw[oQ];refine congrArg I ?_;unfold qk;rw[hb<|rwL c B,List.getLast?_eq_some_getLast A];rfl
theorem tn{s g:Type}{f:s->List g}:∀{l:List s},(∀m∈l,(f m).length<=c)->(l.flatMap f).length<=l.length*c
 |[]=>@λZ=>by simp
 |a::w=>@λj=>by
  have:=tn (f:=f) (l:=w) λm ag=>j m<|dt _ ag
  have b:=j a dA
  rw[px,gF,gG,BE]
  exact ao (ka b this)<|bQ (e6 ..)
def LF(y r:Nat):(dr y r).length<=y:=by refine ao (mw ..) ?_;rw[f9];omega
def MQ(y r:Nat):(el y r).length<=y:=by refine ao (mw ..) ?_;rw[f9];omega
def N7(s:y<=6):(j3 b2 m (dr y m)<|el y m).length<=36:=by refine ao (tn (c:=6) λk a=>?_) (ao (qJ 6<|LF y m)<|by omega);rw[bZ];exact ao (mw ..)<|ao (MQ y m) s
def qW(h g a l:List Nat)(aV aJ:aF)(s:y<=6)(x:r<2^y)(c:g.length=2^y):aj jK bE (rW h g a l aV aJ r (dr y r)<|el y r).plus aM (.list<|(j3 g r (dr y r)<|el y r).map c3):=by
 refine aj.comp vW.1 vW.2.1 (bR.of 9 λb q=>Yb h g a l aV aJ r _ _ q) ?_ ?_;rw[vW.2.2.1,vW.2.2.2.1];have:=eJ.flat (O:=jK) (S:=cC bE aM) (aK:=eK (d1 aM) (rW h g a l aV aJ r (dr y r)<|el y r).plus) (elt:=b8 aM) (t:=(cb aM).target) (ifs:=[]) (AX:=jW.target) (DN:=jW.iter) (Dq:=jW.ifs) (DH:=[]) J
  (λk=>(((el y r).filter λw=>qk g<|r -2^k+2^w).map λw=>c3 (k,w))) (dr y r) λk d=>⟨_,_,S_ h g a l aV aJ r _ _ k,dZ.nil,bR.of 9 λb q=>Yd h g a l aV aJ r _ _ q k,?_⟩
 have i:(j3 g r (dr y r)<|el y r).map c3=(dr y r).flatMap λk=>(((el y r).filter λw=>qk g<|r -2^k+2^w).map λw=>c3 (k,w)):=by rw[Po];refine congrArg (λA=>(dr y r).flatMap A)<|funext λk=>?_;rw[dG];rfl
 rw[i];exact this;rw[vW.2.2.2.2];exact eJ.map J (λw=>c3 (k,w)) _ _ λw p=>⟨_,S' h g a l aV aJ r _ _ k w,dZ.one<|bR.of 14 λb q=>(ade h g a l aV aJ r _ _ q k w).trans<|adm s x c d p,λZ=>bR.of 9 λb q=>ad3 h g a l aV aJ r _ _ q k w⟩;rw[bZ];have:=N7 (m:=r) (b2:=g) s;exact ao o z
noncomputable def pT(aW:List Nat)(n:List (Nat×Nat)):List Nat:=n.map λs=>if aW.getD s.2 0<aW.getD s.1 0 then s.1 else s.2
noncomputable def k8(d p:List Nat):List Nat:=d.filter λk=>!p.contains k
def NA(σ:aG)(f:aF)(aW:List Nat):aG:=σ.vals [("places",.list<|aW.map J),("table",.ref f)]
def abY(σ:aG)(f:aF)(aW j:List Nat):aG:=(NA σ f aW).vals [("beaten",.list<|j.map J)]
def bU:aq:=aO<|r9 0
def bJ:aq:=((bo<|kr<|r9 1).head?).getD bU
def jk:aq:=((cZ bJ).head?).getD bU
def ti:aq:=((cZ bJ)[1]?).getD bU
def hM:aq:=((bo jk).head?).getD bU
def hN:aq:=((bo ti).head?).getD bU
def zk:l6 bU=ah/\bE.comp (d1 bU)=I (cC bE bU)/\jP bU=[]/\(cb bU).ifs=[]:=by refine⟨?_,?_,?_,?_⟩<;>kernel_rfl
def zl:zQ bJ=ah/\cZ bJ=[jk,ti]/\eM jk=av/\eM ti=av:=by refine⟨?_,?_,?_,?_⟩<;>kernel_rfl
def vY:sT jk=ah/\mN jk=("len":au)/\bo jk=[hM]/\eM hM=av:=by refine⟨?_,?_,?_,?_⟩<;>kernel_rfl
def vZ:sT ti=ah/\mN ti=("len":au)/\bo ti=[hN]/\eM hN=av:=by refine⟨?_,?_,?_,?_⟩<;>kernel_rfl
def zY:l6 hM=ah/\bE.comp (d1 hM)=I (cC bE hM)/\jP hM=[]/\(cb hM).ifs=[kK hM]:=by refine⟨?_,?_,?_,?_⟩<;>kernel_rfl
def zZ:l6 hN=ah/\bE.comp (d1 hN)=I (cC bE hN)/\jP hN=[]/\(cb hN).ifs=[kK hN]:=by refine⟨?_,?_,?_,?_⟩<;>kernel_rfl
section
variable(fr b2 bP bX:List Nat)(aV aJ:aF)(m:Nat)(i a4:List Nat)(sw:List (Nat×Nat))(a:aF)(aW km:List Nat)
def qy:aG:=NA (qo fr b2 bP bX aV aJ m i a4 sw) a aW
def kO:aG:=abY (qo fr b2 bP bX aV aJ m i a4 sw) a aW km
def Ye(q:Nat):er ct (q+9) bE (qy fr b2 bP bX aV aJ m i a4 sw a aW).plus (cb bU).target (cb bU).iter=I (sw.map c3):=z
def Ta(s:Nat×Nat):fw (cC bE bU) (cb bU).target (c3 s) (eK (d1 bU) (qy fr b2 bP bX aV aJ m i a4 sw a aW).plus)=I (eP bE bU (qy fr b2 bP bX aV aJ m i a4 sw a aW).plus<|c3 s):=z
def ad4(q:Nat)(s:Nat×Nat):bh ct (q+9) (cC bE bU) (eP bE bU (qy fr b2 bP bX aV aJ m i a4 sw a aW).plus<|c3 s) (b8 bU)=((c7 (.list<|aW.map J)<|J s.2).bind λc=>(c7 (.list<|aW.map J)<|J s.1).bind λb=>fC .Lt c b).bind λk=>if k then I (J s.1)else I (J s.2):=z
def Yf(q:Nat):er ct (q+9) bE (kO fr b2 bP bX aV aJ m i a4 sw a aW km).plus (cb hM).target (cb hM).iter=I (i.map J):=z
def Tb(k:Nat):fw (cC bE hM) (cb hM).target (J k) (eK (d1 hM) (kO fr b2 bP bX aV aJ m i a4 sw a aW km).plus)=I (eP bE hM (kO fr b2 bP bX aV aJ m i a4 sw a aW km).plus<|J k):=z
def adf(q k:Nat):fB ct (q+9) (cC bE hM) (eP bE hM (kO fr b2 bP bX aV aJ m i a4 sw a aW km).plus<|J k) (kK hM)=(mG (J k)<|.list<|km.map J).map (!·):=z
def ad5(q k:Nat):bh ct (q+9) (cC bE hM) (eP bE hM (kO fr b2 bP bX aV aJ m i a4 sw a aW km).plus<|J k) (b8 hM)=I (J k):=z
def Yg(q:Nat):er ct (q+9) bE (kO fr b2 bP bX aV aJ m i a4 sw a aW km).plus (cb hN).target (cb hN).iter=I (a4.map J):=z
def Tc(k:Nat):fw (cC bE hN) (cb hN).target (J k) (eK (d1 hN) (kO fr b2 bP bX aV aJ m i a4 sw a aW km).plus)=I (eP bE hN (kO fr b2 bP bX aV aJ m i a4 sw a aW km).plus<|J k):=z
def adg(q k:Nat):fB ct (q+9) (cC bE hN) (eP bE hN (kO fr b2 bP bX aV aJ m i a4 sw a aW km).plus<|J k) (kK hN)=(mG (J k)<|.list<|km.map J).map (!·):=z
def ad6(q k:Nat):bh ct (q+9) (cC bE hN) (eP bE hN (kO fr b2 bP bX aV aJ m i a4 sw a aW km).plus<|J k) (b8 hN)=I (J k):=z
def L9:(bE.global (bM "len")&&((kO fr b2 bP bX aV aJ m i a4 sw a aW km).plus.lookup<|bM "len").isNone)=ah:=z
end
def YM(f p:Nat):fC .Lt (J f) (J p)=I (decide (f<p)):=by show I (decide (((f:Nat):Int)<((p:Nat):Int)))=_;exact congrArg I<|decide_eq_decide.mpr lB
def QM(h g e l:List Nat)(aV aJ:aF)(k:Nat)(c x:List Nat)(n:List (Nat×Nat))(f:aF)(aW:List Nat)(r:aW.length<=1000)(y:n.length<=1000)(b:∀s∈n,s.1<aW.length/\s.2<aW.length):aj jK bE (qy h g e l aV aJ k c x n f aW).plus bU (.list<|(pT aW n).map J):=by
 refine aj.comp zk.1 zk.2.1 (bR.of 9 λw q=>Ye h g e l aV aJ k c x n f aW q) ?_ (by rw[bZ];unfold pT;rw[bZ];exact ao o z);rw[zk.2.2.1,zk.2.2.2];have:=eJ.map (O:=jK) (S:=cC bE bU) (aK:=eK (d1 bU) (qy h g e l aV aJ k c x n f aW).plus) (elt:=b8 bU) (t:=(cb bU).target) (ifs:=[]) c3 (λs=>J<|if aW.getD s.2 0<aW.getD s.1 0 then s.1 else s.2) (λZ=>ah) n
  λs ax=>⟨_,Ta h g e l aV aJ k c x n f aW s,dZ.nil,λZ=>bR.of 9 λw q=>?_⟩
 rw[show n.filter (λZ=>ah)=n from xJ.mpr λZ Z=>rfl]at this;unfold pT;rw[dG];exact this;show bh ct (q+9) _ _ _=_;obtain⟨d,j⟩:=b s ax;rw[ad4,zU j r,a3,zU d r,a3,YM,a3];rw[j_,j_,hb d,hb j];simp only[G_,decide_eq_true_eq];split<;>rfl
def tE(d p:List Nat):(k8 d p).length<=d.length:=mw ..
def QN(h g e p:List Nat)(aV aJ:aF)(r:Nat)(c x:List Nat)(n:List (Nat×Nat))(f:aF)(aW j:List Nat)(b:c.length<=1000)(w:x.length<=1000):aj jK bE (kO h g e p aV aJ r c x n f aW j).plus bJ (c3 ((k8 c j).length,(k8 x j).length)):=by
 refine aj.tuple zl.1 ?_ (show 2<=1000000 by exact cy _ _);rw[zl.2.1];have s:∀d:List Nat,d.length<=1000->bR λt Z=>(jK t).call (bM "len") [.list<|d.map J]=I (J d.length):=λd A=>⟨0,λt q Z Z=>by
  show gE (iB [.list<|d.map J]) ai=_;rw[qc _ (by rw[bZ];exact ao o z),bZ];rfl⟩
 refine aD.cons zl.2.2.1 ?_<|aD.cons zl.2.2.2 ?_ aD.nil;refine aj.call (ds:=[.list<|(k8 c j).map J]) vY.1 (by rw[vY.2.1];exact L9 h g e p aV aJ r c x n f aW j) ?_ (by rw[vY.2.1];exact s _<|ao (tE ..) b);rw[vY.2.2.1];refine aD.cons vY.2.2.2 (aj.comp zY.1 zY.2.1 (bR.of 9 λt q=>Yf h g e p aV aJ r c x n f aW j q) ?_ (by rw[bZ];exact ao (ao (tE ..) b)<|cy _ _)) aD.nil;rw[zY.2.2.1,zY.2.2.2];refine eJ.map J J _ _ λk y=>⟨_,Tb h g e p aV aJ r c x n f aW j k,dZ.one<|bR.of 9 λt q=>?_,λZ=>bR.of 9 λt q=>ad5 h g e p aV aJ r c x n f aW j q k⟩;show fB ct (q+9) _ _ _=_;rw[adf,tw];rfl;refine aj.call (ds:=[.list<|(k8 x j).map J]) vZ.1 (by rw[vZ.2.1];exact L9 h g e p aV aJ r c x n f aW j) ?_ (by rw[vZ.2.1];exact s _<|ao (tE ..) w);rw[vZ.2.2.1];refine aD.cons vZ.2.2.2 (aj.comp zZ.1 zZ.2.1 (bR.of 9 λt q=>Yg h g e p aV aJ r c x n f aW j q) ?_ (by rw[bZ];exact ao (ao (tE ..) w)<|cy _ _)) aD.nil;rw[zZ.2.2.1,zZ.2.2.2];refine eJ.map J J _ _ λk y=>⟨_,Tc h g e p aV aJ r c x n f aW j k,dZ.one<|bR.of 9 λt q=>?_,λZ=>bR.of 9 λt q=>ad6 h g e p aV aJ r c x n f aW j q k⟩;show fB ct (q+9) _ _ _=_;rw[adg,tw];rfl
section
variable{O:Nat->cY}{S:a0}{M:List au}{σ aX:aG}{r:h3}
def aE.nil:aE O S M σ [] (.next σ):=bR.rQ λt y=>rfl
def aE.cons{st:aP}{p:List aP}(j:az O S M σ st (.next aX))(k:aE O S M aX p r):aE O S M σ (st::p) r:=(j.and k).succ λt y q=>b' q.1 q.2
theorem aE.ret(j:az O S M σ g (.ret d)):aE O S M σ (g::p) (.ret d):=j.succ λt y q=>b' q rfl
def yT(M:List au)(st:aP):Bool:=(i_ st).elim av λab=>(i2 ab.1).elim av λk=>(fo k).elim (j7 k).isSome λy=>!M.contains y.1
inductive B1(M:List Str):Stmt->Prop
 |name {x p e q} (h:M.contains x=false):B1 M (.Assign [.Name x p] e q)
 |tup {a9 k p e q}:B1 M (.Assign [.Tuple a9 k p] e q)
def SW(j:yT M g=ah):B1 M g:=by obtain⟨ab,l,j⟩:=eU j;obtain⟨k,a,j⟩:=eU j;rw[OG l,m2 a];induction s:fo k using b6 with|some d=>rw[s]at j;rw[jy s];exact .name (jt j)|none=>rw[s]at j;exact(mT j).elim λb c=>uz c▸.tup
def az.asg(a:yT M g=ah)(ax:(σ.pure||eD d)=ah)(f:aj O S σ.plus (aO g) d)(q:rh S (kL g) (aO g) d=I aK):az O S M σ g (.next<|σ.vals aK):=by cases SW a with|name p=>exact f.succ λt y j=>p9 (rG p) (b' j<|fE ax<|n0 q rfl)|tup=>exact f.succ λt y j=>b' j<|fE ax<|n0 q rfl
def LB(st:aP):Bool:=(pn st).elim av λab=>ab.2.2.1.isEmpty
def XF(j:LB g=ah):∃k a s,g=.If k a [] s:=(eU j).elim λab n=>⟨ab.1,ab.2.1,ab.2.2.2,pz.mp n.2▸OJ n.1⟩
def az.skip(a:LB g=ah)(j:bO O S σ.plus (aO g) av):az O S M σ g (.next σ):=by obtain⟨k,d,s,rfl⟩:=XF a;exact(j.and<|aE.nil (O:=O) (S:=S) (M:=M) (σ:=σ)).succ λc y j=>b' j.1 j.2
def LP(st:aP):Bool:=(xy st).elim av λab=>ab.1.isSome
def X6(j:LP g=ah):∃i s,g=.Return (I i) s:=(eU j).elim λab n=>(mT n.2).elim λi q=>⟨i,ab.2,q▸aed n.1⟩
theorem az.ret(a:LP g=ah)(j:aj O S σ.plus (aO g) d):az O S M σ g (.ret d):=by obtain⟨i,s,rfl⟩:=X6 a;exact j.succ λt y j=>n0 j rfl
def DV(st:aP):Bool:=(r7 st).elim av λab=>ab.2.2.2.1.isEmpty
def LK(j:DV g=ah):∃k c a s,g=.For k c a [] s:=(eU j).elim λab n=>⟨ab.1,ab.2.1,ab.2.2.1,ab.2.2.2.2,pz.mp n.2▸aeb n.1⟩
def gc.nil:gc O S M σ k p [] (.next σ):=bR.rQ λa y=>rfl
def gc.cons{c:aq}{p:List aP}{d:af}{g:List af}{aK:cf}(a:eR S c d []=I aK)(j:aE O S M (σ.vals aK) p (.next aX))(k:gc O S M aX c p g r):gc O S M σ c p (d::g) r:=(j.and k).succ λe y q=>b' a<|b' q.1 q.2
end
def bg.sub(ak:bg C g b σ f h)(j:∀m t,aX.lookup m=I t->σ.lookup m=I t)(k:dM (aX.map (·.1))=ah):bg C g b aX f h:=⟨ak.good,{ak.ok with names:=λm d i=>ak.ok.names m d ((gq ak.keys).mpr<|j _ _<|(gq k).mp i)},k,ak.lists,λm p i=>ak.own m p<|j _ _ i,λm r p q a i n=>ak.apart m r p q a (j _ _ i)<|j _ _ n,ak.a_,ak.cE,ak.eE⟩
def ur{σ:aG}(j:∀s∈f,σ.lookup s.1=none):∀m t,σ.lookup m=some t->(σ.vals f).lookup m=some t:=λm t i=>by rw[A2];induction g:f.lookup m using b6 with|none=>exact i|some d=>rw[j _<|mem_of_lookup g]at i;cases i
def jJ(c:aF->Prop)(b:aB)(f:aF)(d:List af):Prop:=∃aa r,b.heap.get? f=I ⟨.type "list",ai,.seq ⟨aa⟩ r,#[]⟩/\RzL c b.heap aa d
set_option tactic.hygienic true in
def acC(aq:dv C bm bi)(au:bi<=g.fuel)(ax:(a1.endLine==a2.line)=ah)(ag:σ.lookup bd=I (.val<|.ref a))(af:eM i=av)(az:bh bm bs as σ.plus i=I d)(aC:l.length<=1000000)(ak:bg C g as σ [] f)(L:jJ g.X f a l)(ad:g.X a)(y:¬C.T a)(aD:¬C.P a)(U:¬g.Y a)(am:∀al,g.env.cells.lookup al≠I a)(q:∀ae,bg C g as σ [] ae->dd C g [a] f ae->(∀J an,J≠a->¬C.T J->f.heap.get? J=I an->ae.heap.get? J=I an)->jJ g.X ae a (l++[d])->bn .next ae):aL (aQ C.prog C.w) g.A (dY (.Expr (.Call (.Attribute (.Name bd bv) "append" a1) [i] [] a2) be) g.env) bn ca f:=by
 obtain⟨aa,al,B,aG⟩:=L;have M:bD C f.heap g.env bd (.ref a):=by obtain⟨aO,M,aK⟩:=ak.ok.names bd (.ref a)<|(gq ak.keys).mpr ag;cases aK;exact M
 have aA:nx g.env=av:=by unfold nx;have aB:g.env.scope.kind=.function:=ak.ok.loc.kind;rw[aB];rfl
 refine HM ?_ aA rfl;have ai:hg [i] g.env=[(av,cx i g.env)]:=by rw[r1 af];rfl
 refine ye (T:="list") (id:="list.append") rfl (by rw[ai];rfl) ax xY He PV ?_;refine tk M ⟨⟨_,B,rfl⟩,λaJ ar=>by cases ar;exact⟨_,B,rfl⟩,?_⟩;have ac:fv C g [i] f [d]:=rg ((eN aq bs).dN as σ.plus i d g f ak.borrow au az) af;refine vL (ac a2).2 (ac a2).1 (aw.refl f) ak.dD λaM V t aH=>?_;have h:=ak.ext t;cases aH;rename_i aN aI aE aF;cases aF;have ao:iu C g [a]:=⟨λH=>by rw[c_]at H;exact U<|H▸ak.ok.loc.e_,λal J i H=>by rw[c_]at H;exact am al<|H▸i,λJ H=>by rw[c_]at H;exact H▸ad⟩;have ab:eX C g a l V:=⟨y,aD,ao,U,aa,al,t.keep _ _ B y,ak.dD.gn t aG⟩;refine vE (c:=g) ab aE aC λW j D=>?_;obtain⟨K,R,G,k⟩:=D.at';exact q W (h.aan ad y U am j ⟨_,G⟩) (t.bt.trans<|j.bt λZ H=>H) (λJ an ay aj i=>j.keep J an (t.keep J an i aj) aj<|by simpa using ay) ⟨K,R,G,k⟩
def jJ.keep(j:jJ c g f d)(k:∀p x,(¬c p\/p=f)->g.heap.get? p=I x->ae.heap.get? p=I x):jJ c ae f d:=by obtain⟨aa,t,i,w⟩:=j;exact⟨aa,t,k _ _ (.inr rfl) i,w.mono λp x q n=>k p x (.inl q) n⟩
noncomputable def Ee:af->Option Nat|.int (.ofNat f)=>I f|_=>ai
def E5(d:af):Option (Nat×Nat):=(uk d).bind λc=>(t2 c).bind λq=>(Ee q.1).bind λf=>(Ee q.2).map λp=>(f,p)
def t8(d:List af):Option (List<|Nat×Nat):=hP E5 d
def MC(h:Ee d=I n):d=J n:=by
 cases d<;>try exact nS h
 cases i<;>first|exact nS h|exact congrArg J<|aZ h
def aaO(j:E5 d=I s):d=en s:=bK j λm r j=>bK j λq g j=>bK j λf n j=>fm j λk c i=>by rw[Oq r,ES g,MC n,MC c,<-i];rfl
def aaQ:∀{r:List (Nat×Nat)},t8 a=I r->a=r.map en:=by
 induction a with
 |nil=>exactλj=>aZ j▸rfl
 |cons d a g=>
  exactλj=>bK j λs ax j=>fm j λq b i=>by rw[<-i,g b,aaO ax];rfl
def aaR(c:List (Nat×Nat)):t8 (c.map c3)=I c:=by
 induction c with
 |nil=>rfl
 |cons s w g=>
  show(E5<|c3 s).bind (λm=>(t8<|w.map c3).map λb=>m::b)=_;exact b' (a:=s) rfl<|n0 g rfl
def AQ:List af->Option af|[.list d]=>(t8 d).bind λr=>if r.length<64 then I (.list<|(rZ r).map en)else ai|_=>ai
def acw(h:AQ ds=I d):∃l,ds=[.list l]/\((t8 l).bind λbV=>if bV.length<64 then I (.list<|(rZ bV).map en)else ai)=I d:=by
 induction ds using bb with
 |nil=>exact nS h
 |cons x ds=>
  cases x<;>try exact nS h
  induction ds using bb with|nil=>exact⟨l,rfl,h⟩|cons=>exact nS h
def Ma:mJ:={z2 with hand:=λy g=>if y==("sorted":au)then AQ g else ai}
def YU(n:ba)(q:Nat):nE (aR n) Ma q (tM n.params):={L' n q with
  hand:=λy g d j=>by
   have j:(if y==("sorted":au)then AQ g else ai)=I d:=j;split at j;rename_i c;rw[bF c];refine⟨.builtin "sorted",iD z z,eO.blt _,?_⟩;obtain⟨a,rfl,j⟩:=acw j;exact bK j λr s j=>(by have i:=cw j;rw[aaQ s,<-i.2];exact acx i.1);cases j}
def yD:cY:=t6 Ma
def RM(n:ba)(q:Nat):dv (aR n) yD q:=Ar<|YU n q
def Ih:Nat->cY:=λ_=>yD
def z4(i:aq):a8:=((ux i).map (·.2)).getD ((qv i).elim ⟨0,0,0,0⟩ (·.2.2.2))
def KV(i:aP):a8:=(r7 i).elim ⟨0,0,0,0⟩ (·.2.2.2.2)
def hU:aq:=aO<|iz 0
def f5:aq:=aO<|iz 2
def TM:bp m8=[.Assign [.Name "tables"<|ho<|kL<|iz 0] (.ListComp (.List []<|z4<|b8 hU) [⟨(cb hU).target,(cb hU).iter,[],0⟩] (d1 hU)<|z4 hU)<|f7<|iz 0,.For (jT<|iz 1) (l2<|iz 1) (fk<|iz 1) []<|KV<|iz 1,.Return (I f5)<|f7<|iz 2]:=z
def ZC:fk (iz 1)=[g' 0,g' 1,g' 2]++[.For (jT<|g' 3) (l2<|g' 3) (fk<|g' 3) []<|KV<|g' 3]:=z
def Cy:aq:=kr<|r9 1
def IM(i:aq):a8×a8:=((pq i).bind λab=>(fo ab.1).map λy=>(y.2,ab.2.2.1)).getD (⟨0,0,0,0⟩,⟨0,0,0,0⟩)
def Zg:fk (g' 3)=[r9 0,.Expr (.Call (.Attribute (.Name "table" (IM Cy).1) "append" (IM Cy).2) [bJ] []<|kW Cy)<|tl<|r9 1]:=z
def Fe:bH m8=[bM "frames",bM "ranks",bM "orders"]:=z
def NF:ju (b9 m8) (bH m8)=ah:=z
def hv(y:Nat)(g aW:List Nat)(r:Nat):Nat×Nat:=
 let c:=dr y r
 let x:=el y r
 let j:=pT aW<|j3 g r c x
 ((k8 c j).length,(k8 x j).length)
def rT(h g e l:List Nat):aG:=[("frames",.val<|.list<|h.map J),("ranks",.val<|.list<|g.map J),("orders",.val<|t7 e l)]
section
variable(fr b2 bP bX:List Nat)(aV aJ:aF)
def acO:c4 (bH m8) [.list<|fr.map J,.list<|b2.map J,t7 bP bX]=rT fr b2 bP bX:=by rw[Fe];rfl
def Yc:er ct 9 bE (rT fr b2 bP bX).strict (cb hU).target (cb hU).iter=I [.list<|bP.map J,.list<|bX.map J]:=z
def Tf(d:af):fw (cC bE hU) (cb hU).target d (eK (d1 hU) (rT fr b2 bP bX).strict)=I (fw (cC bE hU) (cb hU).target d<|eK (d1 hU) (rT fr b2 bP bX).strict).get!:=z
def Ym:er ct 9 bE (pI fr b2 bP bX aV aJ).strict (jT<|iz 1) (l2<|iz 1)=I (fr.map J):=z
def Jf(r:Nat):eR bE (jT<|iz 1) (J r) []=I ([("mask",J r)]:cf):=z
def Se(r:Nat)(s:bP.length=bX.length)(d:bP.length<=6)(x:r<2^bP.length)(c:b2.length=2^bP.length):aE jK bE [] (m5 fr b2 bP bX aV aJ r) [g' 0,g' 1,g' 2] (.next<|qo fr b2 bP bX aV aJ r (dr bP.length r) (el bP.length r)<|j3 b2 r (dr bP.length r)<|el bP.length r):=aE.cons (az.asg z z (QI fr b2 bP bX aV aJ r<|ao o z) (aK:=[("inside",_)]) z)<|aE.cons (aX:=rW fr b2 bP bX aV aJ r (dr bP.length r)<|el bP.length r) (az.asg z z (qV fr b2 bP bX aV aJ r<|ao o z) (aK:=[("outside",_)]) z)<|aE.cons (az.asg z z (qW fr b2 bP bX aV aJ d x c) (aK:=[("swaps",_)]) z) aE.nil
def Yo(r:Nat)(c x:List Nat)(n:List (Nat×Nat)):er ct 9 bE (qo fr b2 bP bX aV aJ r c x n).strict (jT<|g' 3) (l2<|g' 3)=I [.tuple [.ref aV,.list<|bP.map J],.tuple [.ref aJ,.list<|bX.map J]]:=z
def y1(f:aF)(d:af):eR bE (jT<|g' 3) (.tuple [.ref f,d]) []=I ([("places",d),("table",.ref f)]:cf):=z
def Sf(d:Nat)(c x:List Nat)(n:List (Nat×Nat))(f:aF)(aW:List Nat)(r:aW.length<=1000)(e:n.length<=1000)(b:∀s∈n,s.1<aW.length/\s.2<aW.length):aE jK bE [] (qy fr b2 bP bX aV aJ d c x n f aW) [r9 0] (.next<|kO fr b2 bP bX aV aJ d c x n f aW<|pT aW n):=aE.cons (az.asg z z (QM fr b2 bP bX aV aJ d c x n f aW r e b) (aK:=[("beaten",_)]) z) aE.nil
def acU(r:Nat)(c d:List Nat)(n:List (Nat×Nat))(f:aF)(aW j:List Nat):∀b t,(qo fr b2 bP bX aV aJ r c d n).lookup b=I t->(kO fr b2 bP bX aV aJ r c d n f aW j).lookup b=I t:=λb t g=>by refine ur (λs ax=>?_) b t<|ur (λs ax=>?_) b t g;rw[c_]at ax;subst ax;kernel_rfl;rcases c9.mp ax with rfl|ax;kernel_rfl;rw[c_]at ax;subst ax;kernel_rfl
def acV(r:Nat)(c d:List Nat)(n:List (Nat×Nat)):∀a t,(pI fr b2 bP bX aV aJ).lookup a=I t->(qo fr b2 bP bX aV aJ r c d n).lookup a=I t:=λa t b=>by refine ur (λs ax=>?_) a t (ur (λs ax=>?_) a t<|ur (λs ax=>?_) a t<|ur (λs ax=>?_) a t b)<;>rw[c_]at ax<;>subst ax<;>kernel_rfl
end
def acZ:∀s∈j3 g r (dr y r) (el y r),s.1<y/\s.2<y:=λs ax=>by unfold j3 at ax;rw[Bu]at ax;obtain⟨k,b,ax⟩:=ax;rw[ez]at ax;obtain⟨w,a,rfl⟩:=ax;exact⟨bl.mp (dP.mp b).1,bl.mp (dP.mp (dP.mp a).1).1⟩
def Ou{n:ba}{B:b_}{L:aB}(h g j D:List Nat)(aV aJ:aF)(r:Nat)(f:aF)(aW:List Nat)(d:List af)(ab:j.length<=6)(O:aW.length=j.length)(ad:d.length<=1000000)(ak:bg (aR n) B bE (qy h g j D aV aJ r (dr j.length r) (el j.length r) (j3 g r (dr j.length r)<|el j.length r) f aW) [] L)(J:jJ B.X L f d)(ac:B.X f)(S:¬(aR n).T f)(ah:¬(aR n).P f)(U:¬B.Y f)(ai:∀r,B.env.cells.lookup r≠I f){al:nt->aB->Prop}{am:ar->aB->Prop}(q:∀ae,bg (aR n) B bE (qo h g j D aV aJ r (dr j.length r) (el j.length r)<|j3 g r (dr j.length r)<|el j.length r) [] ae->dd (aR n) B [f] L ae->(∀p H,p≠f->¬(aR n).T p->¬B.Y p->L.heap.get? p=I H->ae.heap.get? p=I H)->jJ B.X ae f (d++[c3<|hv j.length g aW r])->al .next ae):aL (aQ cH n) B.A (ep (fk<|g' 3) B.env) al am L:=by rw[Zg];obtain⟨qV,W⟩:=Sf h g j D aV aJ r (dr j.length r) (el j.length r) (j3 g r (dr j.length r)<|el j.length r) f aW (ao (bQ o)<|ao o z) (by have:=N7 (m:=r) (b2:=g) ab;exact ao o z)<|rwL O acZ;have V:=cc.Ap (M:=[]) (eh n 0) (cO B.fuel)<|W qV qV (cz _)<|cz _;refine v7 (a:=[r9 0])<|V [] L ak _ _ λan dg C df=>?_;have C:=C.forget z;have bW:=df.forget;have N:∀p,¬B.X p->¬(aR n).T p/\¬B.Y p:=λp k=>⟨λap=>k<|ak.a_ p ap,λaj=>k<|ak.cE p aj⟩;have F:jJ B.X dg f d:=J.keep λp H k i=>k.elim (λk=>bW.keep p H i (N p k).1 (N p k).2 nofun) λq=>bW.keep p H i (q▸S) (q▸U) nofun;obtain⟨qW,aa⟩:=QN h g j D aV aJ r (dr j.length r) (el j.length r) (j3 g r (dr j.length r)<|el j.length r) f aW (pT aW<|j3 g r (dr j.length r)<|el j.length r) (ao (LF _ _)<|ao o z)<|ao (MQ _ _)<|ao o z;refine gX<|acC (a:=f) (l:=d) (eh n 0) (cO _) z z z (aa qW qW (cz _)<|cz _) ad C F ac S ah U ai λdx K cn d5 G=>pF ?_;exact q dx (K.sub (λas aq i=>acU h g j D aV aJ _ _ _ _ _ _ _ as aq i) z) ((bW.cut (gZ:=[f]) (λZ aj=>aj) λp n=>by cases n).trans cn) (λp H k R ag i=>d5 p H k R<|bW.keep p H i R ag<|by simp) G
structure vy(w:World)(c:b_)(aV aJ:Addr):Prop where
 ne:aV≠aJ
 x0:c.X aV
 ee:c.X aJ
 t0:¬(aR w).T aV
 t1:¬(aR w).T aJ
 bP:¬(aR w).P aV
 bX:¬(aR w).P aJ
 kN:¬c.Y aV
 od:¬c.Y aJ
 mM:∀m,c.env.cells.lookup m≠some aV
 bk:∀m,c.env.cells.lookup m≠some aJ
theorem vy.grow{aV aJ:aF}(k:vy n c aV aJ):vy n (c.grow wr) aV aJ:=⟨k.ne,.inl k.x0,.inl k.ee,k.t0,k.t1,k.bP,k.bX,k.kN,k.od,k.mM,k.bk⟩
def mS{aV aJ:aF}:h6 c l [(aV,a),(aJ,r)]↔jJ c l aV a/\jJ c l aJ r:=⟨λj=>⟨j _ dA,j _<|dt _ dA⟩,λj b ax=>by
  rcases c9.mp ax with rfl|ax;exact j.1;rw[c_]at ax;subst ax;exact j.2⟩
def abO{G:ba}{O:b_}{ac:aB}(J g B l:List Nat)(aV aJ:aF)(K:Nat)(S U:List af)(ai:B.length=l.length)(W:B.length<=6)(av:K<2^B.length)(aw:g.length=2^B.length)(ag:S.length<=1000000)(ah:U.length<=1000000)(k:vy G O aV aJ)(ak:bg (aR G) O bE (m5 J g B l aV aJ K) [] ac)(p:jJ O.X ac aV S/\jJ O.X ac aJ U){az:nt->aB->Prop}{aC:ar->aB->Prop}(q:∀ae,bg (aR G) O bE (pI J g B l aV aJ) [] ae->jJ O.X ae aV (S++[c3<|hv B.length g B K])/\jJ O.X ae aJ (U++[c3<|hv B.length g l K])->dd (aR G) O [aV,aJ] ac ae->az .next ae):aL (aQ cH G) O.A (ep (fk<|iz 1) O.env) az aC ac:=by
 rw[ZC];obtain⟨qV,ap⟩:=Se J g B l aV aJ K ai W av aw;have an:=cc.Ap (M:=[]) (eh G 0) (cO O.fuel)<|ap qV qV (cz _)<|cz _;refine v7 (a:=[g' 0,g' 1,g' 2])<|an [] ac ak _ _ λaG dg L df=>?_;have L:=L.forget z;have bW:=df.forget;have kp:∀C F,(¬O.X C\/C=aV\/C=aJ)->ac.heap.get? C=I F->dg.heap.get? C=I F:=λC F f H=>f.elim (λf=>bW.keep C F H (λam=>f<|ak.a_ C am) (λV=>f<|ak.cE C V) nofun) λf=>
  f.elim (λq=>bW.keep C F H (q▸k.t0) (q▸k.kN) nofun) λq=>bW.keep C F H (q▸k.t1) (q▸k.od) nofun
 have aq:=p.1.keep λC F f H=>kp C F (f.imp id .inl) H;have as:=p.2.keep λC F f H=>kp C F (f.imp id .inr) H;clear p kp;refine gX<|NT (n:=9) (σs:=λZ=>qo J g B l aV aJ K (dr B.length K) (el B.length K)<|j3 g K (dr B.length K)<|el B.length K) (vz:=[aV,aJ]) (q6:=λaA=>[(aV,if 0<aA then S++[c3<|hv B.length g B K]else S),(aJ,if 1<aA then U++[c3<|hv B.length g l K]else U)]) (eh G 0) (cO _) (Yo ..) (λZ Z=>z) (λaj d ao=>?_) (λZ Z=>rfl) (λad au=>?_) L (mS.mpr ⟨aq,as⟩) (λay aH aj d aM dx aa R r p aE aD al=>?_) λdx r p ax=>pF ?_;rcases aj with _|_|aj;cases ao;exact⟨_,y1 ..⟩;cases ao;exact⟨_,y1 ..⟩;cases ao;exact k_ (P:=λad=>O.X ad/\¬(aR G).T ad/\¬O.Y ad) ⟨k.x0,k.t0,k.kN⟩ ⟨k.ee,k.t1,k.od⟩ ad au;have gz:=k.grow (wr:=ay);rw[mS]at p;rcases aj with _|_|aj;cases aa;rw[y1]at R;cases R;refine Ou J g B l aV aJ K aV B S W rfl ag r p.1 gz.x0 gz.t0 gz.bP gz.kN gz.mM λeZ N e0 ky D=>al eZ N (mS.mpr ⟨D,p.2.keep λC F f H=>?_⟩) (e0.cut (λZ V=>V) λC G=>.inl (by simp at G;simp[G]));exact f.elim (λf=>ky C F (λab=>f<|ab▸gz.x0) (λam=>f<|r.a_ C am) (λV=>f<|r.cE C V) H) λq=>ky C F (q▸gz.ne.symm) (q▸gz.t1) (q▸gz.od) H;cases aa;rw[y1]at R;cases R;refine Ou J g B l aV aJ K aJ l U W ai.symm ah r p.2 gz.ee gz.t1 gz.bX gz.od gz.bk λeZ N e0 ky D=>al eZ N (mS.mpr ⟨p.1.keep λC F f H=>?_,D⟩) (e0.cut (λZ V=>V) λC G=>.inl (by simp at G;simp[G]));exact f.elim (λf=>ky C F (λab=>f<|ab▸gz.ee) (λam=>f<|r.a_ C am) (λV=>f<|r.cE C V) H) λq=>ky C F (q▸gz.ne) (q▸gz.t0) (q▸gz.kN) H;cases aa;exact q dx (r.sub (λaK aI H=>acV J g B l aV aJ _ _ _ _ aK aI H) z) (mS.mp p) ((bW.cut (λZ V=>V) λC G=>by cases G).trans ax)
def We(r:bL):x2:=fN<|t5 r
def ac0(r:bL)(d:aF):mC (.ListComp (.List []<|z4<|b8 hU) [⟨(cb hU).target,(cb hU).iter,[],0⟩] (d1 hU)<|z4 hU) (I<|.Name "tables"<|ho<|kL<|iz 0) (f7<|iz 0).line (dX (We r) d 250)=bq ah:=z
def S2(n:ba):∀j,e5 n j->j.get? 250=I (t5 n.params):=λj k=>gB (a:=250) k z rfl (show(gA n.params).get 250=I (t5 n.params)by kernel_rfl) z
def UM:bE.comp (d1 hU)=I (cC bE hU):=z
def TX(x:List aF):eR bE (.Name "tables"<|ho<|kL<|iz 0) (.list<|x.map af.ref) []=I ([("tables",.list<|x.map af.ref)]:cf):=z
def ab7(h g e l:List Nat)(aV aJ:aF):(rT h g e l).vals [("tables",.list [.ref aV,.ref aJ])]=pI h g e l aV aJ:=z
def n6(h g e l:List Nat)(p r:List (Nat×Nat)):cf:=("tables",.list [.list<|p.map c3,.list<|r.map c3])::(rT h g e l).strict
def uh(d:List (Nat×Nat)):af:=.list<|(rZ d).map en
def FG:aq:=((bo<|b8 f5).head?).getD f5
def abq:l6 f5=ah/\bE.comp (d1 f5)=I (cC bE f5)/\jP f5=[]/\(cb f5).ifs=[]/\sT (b8 f5)=ah/\mN (b8 f5)=("sorted":au)/\bo (b8 f5)=[FG]/\eM FG=av:=by refine⟨?_,?_,?_,?_,?_,?_,?_,?_⟩<;>kernel_rfl
section
variable(fr b2 bP bX:List Nat)(gj iH:List (Nat×Nat))
def Yn(q:Nat):er yD (q+9) bE (n6 fr b2 bP bX gj iH) (cb f5).target (cb f5).iter=I ([gj,iH].map λd=>.list<|d.map c3):=z
def TS(d:af):fw (cC bE f5) (cb f5).target d (eK (d1 f5)<|n6 fr b2 bP bX gj iH)=I (eP bE f5 (n6 fr b2 bP bX gj iH) d):=z
def Xe(d:af):((cC bE f5).global (bM "sorted")&&((eP bE f5 (n6 fr b2 bP bX gj iH) d).lookup<|bM "sorted").isNone)=ah:=z
def aei(d:af)(q:Nat):bh yD (q+9) (cC bE f5) (eP bE f5 (n6 fr b2 bP bX gj iH) d) FG=I d:=z
def abI(h0:gj.length<64)(s:iH.length<64):aj Ih bE (n6 fr b2 bP bX gj iH) f5 (.list [uh gj,uh iH]):=by
 obtain⟨x,d5,ky,a,f,b,c,e⟩:=abq;refine aj.comp x d5 (bR.of 9 λg q=>Yn fr b2 bP bX gj iH q) ?_ (show 2<=1000000 by exact cy _ _);rw[ky,a];have:=eJ.map (O:=Ih) (S:=cC bE f5) (aK:=eK (d1 f5)<|n6 fr b2 bP bX gj iH) (elt:=b8 f5) (t:=(cb f5).target) (ifs:=[]) (λd:List (Nat×Nat)=>.list<|d.map c3) uh (λZ=>ah) [gj,iH]
  λd r=>⟨_,TS fr b2 bP bX gj iH _,dZ.nil,λZ=>aj.call f (rwL b (Xe ..)) (rwL c<|aD.cons e (bR.of 9 λg q=>aei fr b2 bP bX gj iH _ q) aD.nil) ⟨0,λg y Z Z=>?_⟩⟩
 exact this;rw[b];show AQ [.list<|d.map c3]=_;show(t8 _).bind _=_;rw[aaR,a3,if_pos];rfl;rcases c9.mp r with rfl|r;exact h0;rw[c_]at r;subst r;exact s
end
def AY(h g e l:List Nat):af:=.list [uh<|h.map<|hv e.length g e,uh<|h.map<|hv e.length g l]
set_option tactic.hygienic true in
set_option maxHeartbeats 4000000 in
def adi(B:ba)(aS:k.length=l.length)(aO:k.length<=6)(aQ:∀U∈p,U<2^k.length)(aT:t.length=2^k.length)(ay:p.length<64):eg (aR B) (.ref 250) [.list<|p.map J,.list<|t.map J,t7 k l] (N+1) (AY p t k l):=by
 intro bi bf bj aa aG aA bh bg q;refine wa (C:=aR B) (Kz B) NF (by rw[aA.length,Fe];rfl) aG λac ar ah aI=>?_;have ak:=ah.sim NF (by rw[Fe];rfl) aG aA;rw[acO]at ak;obtain⟨a7,ao⟩:=ah.fd (S2 B) aG.ok;rw[TM];refine gX (acG (n:=9) (eh B 0) (cO _) ak (rwL ao<|ac0 B.params a7) UM (Yc ..) (λd Z=>⟨_,Tf ..⟩) (by simp) TX λaL dx a1 cg R K cn=>?_);match aL,a1 with
 |[aV,aJ],a1=>
 have aM:=ab7 p t k l aV aJ;rw[show(Bt af.ref [aV,aJ])=[.ref aV,.ref aJ]from rfl]at K;rw[aM]at K;have V:=ak.dD.gg (R aV<|by simp).1;have W:=ak.dD.gg (R aJ<|by simp).1;have am:vy B (ac.grow [aV,aJ]) aV aJ:=⟨λO=>by subst O;simp at cg,.inr (by simp),.inr (by simp),V.1,W.1,V.2.1,W.2.1,λav=>V.2.2<|ak.cE _ av,λav=>W.2.2<|ak.cE _ av,λU O=>V.2.2<|ak.eE U _ O,λU O=>W.2.2<|ak.eE U _ O⟩;have ax:∀ad∈[aV,aJ],jJ (ac.grow [aV,aJ]).X dx ad []:=λad an=>⟨[],0,(R ad an).2,.nil⟩;refine gX (NT (n:=9) (c:=ac.grow [aV,aJ]) (σs:=λZ=>pI p t k l aV aJ) (vz:=[aV,aJ]) (q6:=λa5=>[(aV,((p.map<|hv k.length t k).take a5).map c3),(aJ,((p.map<|hv k.length t l).take a5).map c3)]) (eh B 0) (cO _) (Ym ..) (λZ Z=>z) (λaH d a4=>?_) (λZ Z=>rfl) (λad an=>?_) K (mS.mpr ⟨ax aV (by simp),ax aJ<|by simp⟩) (λa2 a' aH d be eZ S al M D a8 aI aY=>?_) λeZ M D a0=>?_);rw[jC,xV]at a4;obtain⟨U,Z,rfl⟩:=a4;exact⟨_,Jf U⟩;exact k_ (P:=λad=>(ac.grow [aV,aJ]).X ad/\¬(aR B).T ad/\¬ac.Y ad) ⟨am.x0,am.t0,am.kN⟩ ⟨am.ee,am.t1,am.od⟩ ad an;rw[jC,xV]at S;obtain⟨U,S,rfl⟩:=S;rw[Jf]at al;cases al;have a9:aH<p.length:=(qC.mp S).1;have aE:∀aF:Nat->Nat×Nat,((p.map aF).take<|aH+1).map c3=((p.map aF).take aH).map c3++[c3<|aF U]:=λaF=>by rw[List.take_add_one,jC,S,ig];rfl
 rw[mS]at D;refine abO p t k l aV aJ U _ _ aS aO (aQ U<|List.mem_of_getElem? S) aT (by simp;omega) (by simp;omega) (am.grow (wr:=a2)) M D λdI G ai aB=>?_;refine aY dI G (mS.mpr ?_) aB;rw[aE,aE];exact ai;have G:=M.lr ah.good.a_ (λae av=>ak.cE ae av) λU ae O=>ak.eE U ae O;rw[mS,bZ,Pq (by simp),Pq<|by simp]at D;have ab:b1 (aR B) ac bE (pI p t k l aV aJ).strict eZ:=by have:=G.ok;rwa [DG]at this
 have aX:∀au d,(n6 p t k l (p.map<|hv k.length t k)<|p.map<|hv k.length t l).lookup au=I d->lN (aR B) ac eZ au d:=λau d O=>by
  unfold n6 at O;rw[ey]at O;induction ag:au==bM "tables"using bz with
  |true=>
   rw[ag]at O;cases O;rw[bF ag];obtain⟨a6,aU,aj⟩:=ab.names "tables" (.list [.ref aV,.ref aJ]) z;cases aj;rename_i aW aN aj;cases aj;rename_i ap aj;cases aj;rename_i aq aj;cases aj;cases ap;cases aq;obtain⟨⟨bc,gw,cD,ap⟩,bd,bb,aC,aq⟩:=D;exact⟨_,aU,.list aW aN<|.cons (.list V.2.2 cD<|ap.less λae H=>.inl H)<|.cons (.list W.2.2 aC<|aq.less λae H=>.inl H) .nil⟩
  |false=>
   rw[ag]at O;refine ab.names au d ?_;rw[show(pI p t k l aV aJ).strict=(bM "tables",af.list [.ref aV,.ref aJ])::(rT p t k l).strict by kernel_rfl,ey,ag];exact O
 have az:b1 (aR B) ac bE (n6 p t k l (p.map<|hv k.length t k)<|p.map<|hv k.length t l) eZ:={ab with names:=aX};obtain⟨aK,aP⟩:=abI p t k l (p.map<|hv k.length t k) (p.map<|hv k.length t l) (by simpa using ay) (by simpa using ay);refine gX<|BZ<|(eN (RM B 0) aK).dN _ _ _ _ ac eZ az (cO _) (aP aK aK (cz _)<|cz _) eZ (aw.refl eZ) G.dD _ _ λa6 mH a3 aj=>?_;have aD:dd (aR B) ac [aV,aJ] ar mH:=((cn.cut (gZ:=[aV,aJ]) (λZ av=>av) λae B=>by cases B).trans a0.lr).trans a3.bt;obtain⟨au,aZ⟩:=ah.leave aG (gZ:=[aV,aJ]) ⟨aD,λae H=>.inr (R ae H).1,λae H=>by cases H⟩ aj;exact q a6 mH au aZ
noncomputable def j1:List af->Option (List Nat)|[]=>I []|.int (.ofNat f)::w=>(j1 w).map (f::·)|_::_=>ai
set_option tactic.hygienic true in
theorem tW:∀{c:List af}{b:List Nat},j1 c=I b->c=b.map J
 |[]=>λj=>aZ j▸rfl
 |d::w=>λj=>by
  cases d<;>try exact nS j
  rename_i m
  cases m with|negSucc=>exact nS j|ofNat f=>exact fm j λq g k=>k▸congrArg (_::·) (tW g)
theorem rI:∀b:List Nat,j1 (b.map J)=I b
 |[]=>rfl
 |p::w=>by
  rw[c8]
  show(j1<|w.map J).map _=_
  rw[rI w]
  rfl
def yt:List af->Option af|[.str ⟨⟨[g]⟩⟩]=>I (.bool<|oB.contains (g:Int))|_=>ai
def DJ:List af->Option af|[.str ⟨⟨[g]⟩⟩]=>js g|_=>ai
def zG:List af->Option af|[.int<|.ofNat f,.int<|.ofNat y]=>if bI 1 y&&bI y 10000&&bI (d6 y f) 200 then I (.list<|ea<|ei y f)else ai|_=>ai
def p7:List af->Option af|[.list a,.int<|.ofNat y]=>(j1 a).bind λb=>if bI 1 y&&bI y 10000&&bI b.length 200&&b.all λd=>ng d (2^10000)then I (.int (cJ y b:Nat))else ai|_=>ai
def l4:List af->Option af|[.str m]=>qt m|_=>ai
def we:List af->Option af
 |[.list d,.list k,.list [.list s,.list q]]=>(j1 d).bind λh=>(j1 k).bind λg=>(j1 s).bind λe=>(j1 q).bind λa=>
  if e.length==a.length&&bI e.length 6&&(h.all λr=>ng r<|2^e.length)&&g.length==2^e.length&&ng h.length 64 then I (AY h g e a)else ai
 |_=>ai
def zI:List (au×(List af->Option af)):=[("in_table_b1",yt),("map_table_b3",DJ),("_int2digits",zG),("_digits2int",p7),("Whitespace",l4),("_law_tables",we)]
def oW(y:au)(g:List af):Option af:=(zI.lookup y).bind λj=>j g
def v_:List (au×vc):=[("_div2n1n",gf ll []),("_div3n2n",gf xh []),("_divmod_pos",gf me ["q_digits"]),("int_divmod",gf mf []),("rgb_to_hls",gf mg []),("hls_to_rgb",gf mh []),("_v",gf mi []),("rgb_to_hsv",gf mj []),("hsv_to_rgb",gf ml []),("_law_typed",gf mn ["codes"]),("_law_lamp",gf mq []),("law",gf hy [])]
def Ec:List (au×vc):=[("longest_run_of_spaces",gf xe []),("indent_level",gf xf []),("less",gf xg [])]
def H2(t:Nat):mJ:={fns:=v_,o6:=Ec,attrs:=["raw","n","nt","norm","is_simple"],cls:=224,hand:=oW,la:=Ed t,const:=λm=>vQ.lookup m,h9:=zD}
inductive B3:List af->Prop
 |mk {c}:B3 [.str ⟨⟨[c]⟩⟩]
set_option tactic.hygienic true in
def Xj(j:yt g=I d):B3 g:=by
 induction g using bb with
 |nil=>exact nS j
 |cons f k=>
 cases f<;>try exact nS j
 rename_i m;obtain⟨⟨b⟩⟩:=m;induction b using bb with
 |nil=>exact nS j
 |cons e b=>
 induction b using bb with
 |cons=>exact nS j
 |nil=>
 induction k using bb with|cons=>exact nS j|nil=>exact .mk
set_option tactic.hygienic true in
def Xk(j:DJ g=I d):B3 g:=by
 induction g using bb with
 |nil=>exact nS j
 |cons f k=>
 cases f<;>try exact nS j
 rename_i m;obtain⟨⟨b⟩⟩:=m;induction b using bb with
 |nil=>exact nS j
 |cons e b=>
 induction b using bb with
 |cons=>exact nS j
 |nil=>
 induction k using bb with|cons=>exact nS j|nil=>exact .mk
inductive Iu:List af->Prop
 |mk {a n:Nat}:Iu [.int<|.ofNat a,.int<|.ofNat n]
set_option tactic.hygienic true in
def Xi(j:zG g=I d):Iu g:=by
 induction g using bb with
 |nil=>exact nS j
 |cons f k=>
 cases f<;>try exact nS j
 rename_i c;cases c with
 |negSucc=>exact nS j
 |ofNat f=>
 induction k using bb with
 |nil=>exact nS j
 |cons p k=>
 cases p<;>try exact nS j
 rename_i c;cases c with
 |negSucc=>exact nS j
 |ofNat y=>
 induction k using bb with|cons=>exact nS j|nil=>exact .mk
inductive Ie:List af->Prop
 |mk {l} {n:Nat}:Ie [.list l,.int<|.ofNat n]
set_option tactic.hygienic true in
def Xh(j:p7 g=I d):Ie g:=by
 induction g using bb with
 |nil=>exact nS j
 |cons f k=>
 cases f<;>try exact nS j
 induction k using bb with
 |nil=>exact nS j
 |cons p k=>
 cases p<;>try exact nS j
 rename_i c;cases c with
 |negSucc=>exact nS j
 |ofNat y=>
 induction k using bb with|cons=>exact nS j|nil=>exact .mk
inductive Io:List af->Prop
 |mk {x}:Io [.str x]
def Xn(j:l4 g=I d):Io g:=by
 induction g using bb with
 |nil=>exact nS j
 |cons f k=>
 cases f<;>try exact nS j
 induction k using bb with|cons=>exact nS j|nil=>exact .mk
inductive Co:List af->Prop
 |mk {l k p q}:Co [.list l,.list k,.list [.list p,.list q]]
def Xl(j:we [f,c,.list k]=I d):Co [f,c,.list k]:=by
 cases f<;>try exact nS j
 cases c<;>try exact nS j
 induction k using bb with
 |nil=>exact nS j
 |cons s k=>
 cases s<;>try exact nS j
 induction k using bb with
 |nil=>exact nS j
 |cons q k=>
 cases q<;>try exact nS j
 induction k using bb with|cons=>exact nS j|nil=>exact .mk
set_option tactic.hygienic true in
def Xm(j:we g=I d):Co g:=by
 induction g using bb with
 |nil=>exact nS j
 |cons f k=>
 cases f<;>try exact nS j
 induction k using bb with
 |nil=>exact nS j
 |cons i k=>
 cases i<;>try exact nS j
 induction k using bb with
 |nil=>exact nS j
 |cons m k=>
 cases m<;>try exact nS j
 induction k using bb with
 |nil=>exact Xl j
 |cons=>
  rename_i e _ _;induction e using bb with
  |nil=>exact nS j
  |cons s e=>
  cases s<;>try exact nS j
  induction e using bb with
  |nil=>exact nS j
  |cons s e=>
  cases s<;>try exact nS j
  cases e<;>exact nS j
def Xp(n:ba)(T:201<=g):∀y D d,oW y D=I d->∃t,cB (aR n) y t/\eO (aR n) t/\eg (aR n) t D g d:=by
 have E:∀{e:aF}{j:gW}{r:List au}{aU:List aP},eB (aR n) e j r aU->eO (aR n) (.ref e):=λP=>eO.fn λA M=>by obtain⟨W,G,aC,aM,Z⟩:=P.cls A M;exact⟨W,G,aC,aM⟩
 have h0:0+1<=g:=by exact ao (cy _ _) o
 have all:∀O∈zI,∃t,cB (aR n) O.1 t/\eO (aR n) t/\∀D d,O.2 D=I d->eg (aR n) t D g d:=by refine hi ⟨_,W6 n,E<|KC n,λD d A=>?_⟩<|hi ⟨_,W8 n,E<|KD n,λD d A=>?_⟩<|hi ⟨_,WQ n,E<|Kx n,λD d A=>?_⟩<|hi ⟨_,WR n,E<|Ky n,λD d A=>?_⟩<|hi ⟨_,K3 n,Yy n,λD d A=>?_⟩<|hi ⟨_,W3 n,E<|Kz n,λD d A=>?_⟩ vD;cases Xj A;exact aZ A▸(XG n (N:=0) _).mono (by assumption);cases Xk A;exact(Zs n (N:=0) _ d A).mono (by assumption);cases Xi A;obtain⟨C,rfl⟩:=cw A;have q:=eS (aY C).2;exact(XK n (N:=200) (eS (aY (aY C).1).1) (eS (aY (aY C).1).2) (ao o z) q).mono (by assumption);cases Xh A;refine bK A λV i A=>?_;obtain⟨C,rfl⟩:=cw A;simp only[bY,gH,bG]at C;rw[tW i];exact(Vk n (B:=10000) (N:=200) C.1.1.1 C.1.1.2 (by omega) (λd K=>oi.mp<|C.2 d K) (cz _) C.1.2).mono (by assumption);cases Xn A;exact(adM n A).mono<|ao (cy _ _) o;cases Xm A;refine bK A λS s A=>bK A λaa l A=>bK A λX H A=>bK A λY J A=>?_;obtain⟨C,rfl⟩:=cw A;simp only[bY,gH,bG,beq_iff_eq]at C;rw[tW s,tW l,tW H,tW J];exact(adi n (N:=0) C.1.1.1.1 C.1.1.1.2 (λU x=>oi.mp<|C.1.1.2 U x) C.1.2<|oi.mp C.2).mono (by assumption)
 intro y D d A;refine bK A λk L A=>?_;obtain⟨t,e,Q,R⟩:=all (y,k)<|mem_of_lookup L;exact⟨t,e,Q,R D d A⟩
def YT(n:ba)(t:Nat)(e:201<=b):nE (aR n) (H2 t) b (tM n.params)where
 blt:=CK n
 cls:=CP n
 fns:=by
  have all:∀s∈v_,∃c,cB (aR n) s.1 (.ref c)/\eB (aR n) c s.2.sc s.2.params s.2.body:=by intro s ax;unfold v_ at ax;simp only[c9,lE,or_false]at ax;rcases ax with rfl|rfl|rfl|rfl|rfl|rfl|rfl|rfl|rfl|rfl|rfl|rfl;exact⟨_,W9 n,V' n⟩;exact⟨_,W_ n,Wa n⟩;exact⟨_,WS n,VX n⟩;exact⟨_,WT n,VY n⟩;exact⟨_,WU n,VZ n⟩;exact⟨_,WV n,V0 n⟩;exact⟨_,WW n,V1 n⟩;exact⟨_,WX n,V2 n⟩;exact⟨_,WY n,V3 n⟩;exact⟨_,W0 n,V9 n⟩;exact⟨_,W2 n,V_ n⟩;exact⟨_,W4 n,KA n⟩
  exactλd t j=>all (d,t)<|mem_of_lookup j
 o6:=by
  have all:∀s∈Ec,∃c,tM n.params s.1=I (.ref c)/\eB (aR n) c s.2.sc s.2.params s.2.body/\∃g,qU (.type "object") s.1=bq g:=by intro s ax;unfold Ec at ax;simp only[c9,lE,or_false]at ax;rcases ax with rfl|rfl|rfl;exact⟨186,z,V5 n,ai,z⟩;exact⟨193,z,V6 n,ai,z⟩;exact⟨214,z,V7 n,ai,z⟩
  exactλd t j=>all (d,t)<|mem_of_lookup j
 attrs:=λm j=>by have:m∈([bM "raw",bM "n",bM "nt",bM "norm",bM "is_simple"]:List au):=fy.mp j;simp only[c9,lE,or_false]at this;rcases this with rfl|rfl|rfl|rfl|rfl<;>exact⟨z,z⟩
 hand:=Xp n e
 la:=ZP n<|ao (cy _ _) o
 const:=CX
 h9:=Lb n
def sW(k t:Nat):cY:=E1 (H2 t) t k
def RL(n:ba)(k t:Nat):dv (aR n) (sW k t) (201+k):=MP (YT n t<|cz _) k
def XT{aa:List ar}(w:IntsAre aa b):RzL c j aa (b.map af.int):=by induction w with|nil=>exact .nil|cons y k Z g=>exact .cons (.int y k) g
def adh(n:ba):e5 n (h1 n.params):=by refine⟨λf x Z Z i=>i,⟨#[],?_,?_⟩,⟨#[],?_,?_⟩⟩;exact(zE (a:=101) z<|show(gA n.params).get 101=I (sD #[])by kernel_rfl).trans z;exact⟨trivial,.inl rfl⟩;exact(zE (a:=108) z<|show(gA n.params).get 108=I (sD #[])by kernel_rfl).trans z;exact⟨trivial,.inl rfl⟩
def walk2{aa:List ar}(X:vB B=vA n)(W:p.heap.Ns x_ Q)(V:Q "law"=I (.ref a2))(T:Laid bs n B p [ofPy<|qO<|A.map sx] [.ref G] be)(C:p.heap.IsList G aa.toArray)(al:IntsAre aa A)(am:p.gens=#[])(J:k<=100)(ai:∀q,U.raises [ofPy<|qO<|A.map sx] q=av)(ax:U.post [ofPy<|qO<|A.map sx] (.bool ah) [ofPy<|qO<|A.map sx]=ah)(N:m4 (sW k a1) [] (b9 hy) (bH hy) (bp hy) a1 [.list<|A.map af.int]=I (.bool ah)):aL (aQ cH n) BP (fu (.ref a2) [.ref G]) (λbd ae=>GoodWG U f d [ofPy<|qO<|A.map sx] p (.ok<|.ret bd) ae) (λi ae=>GoodWG U f d [ofPy<|qO<|A.map sx] p (.error i) ae) p:=by
 have j:B.heap=h1 n.params/\B.toks=2528:=by unfold vB vA at X;exact⟨congrArg Prod.fst X,congrArg Prod.snd X⟩
 have l:e5 n p.heap:=(aR n).keeps _ _ (adh n) λD O i=>T.keeps D O<|rwL j.1 i;have ab:a2=255:=by
  have aC:=W.eq_nsMap;have aM:=(wN l).eq_nsMap;have bU:ir (lY n.params) "law"=I (.ref 255):=z;have:Q "law"=I (.ref 255):=by rw[aC,<-bU];exact(congrFun aM "law").symm
  rw[V]at this;cases this;rfl
 subst ab;have M:=script_obj T C;have an:¬jH G:=by obtain⟨Z,⟨S,aC,Z⟩,⟨s,aM,Z⟩⟩:=l;rintro(rfl|rfl);rw[M]at aC;cases aC;rw[M]at aM;cases aM
 have bi:bf (aR n) jH BP (201+k+1) p:=by
  refine⟨rfl,?_,?_,rfl,λD ad=>?_,λD H=>H,l,?_⟩;have:BP.depth+(201+100+1)<1000:=by decide+kernel
  exact b4 (hB (gS<|hB J 201) _) this;have:BP.units+4*(201+100+1)<9000:=by decide+kernel
  exact b4 (hB (iN 4<|gS<|hB J 201) _) this;obtain⟨Z,⟨S,aC,Z⟩,⟨s,aM,Z⟩⟩:=l;rcases ad with rfl|rfl;exact⟨_,aC,λZ=>⟨_,rfl⟩⟩;exact⟨_,aM,λZ=>⟨_,rfl⟩⟩;have:=script_toks T j.2;omega
 have K:=Ft (RL n k a1) (KA n) N;refine K jH BP p [.ref G] bi (.cons (.list an M<|XT al) .nil) _ _ λbd ae P bn=>?_;cases bn;refine⟨.inl ⟨_,_,[],rfl,ai,ReadsW.bool ah,ax,λZ=>⟨Bv,λZ ag=>(nomatch ag)⟩⟩,⟨λD O i=>?_,λD O i=>?_⟩,?_,?_⟩;by_cases H:jH D;have m:∃y,p.heap.get? D=I (sD y)/\isCodeTable p.heap D:=by rcases H with rfl|rfl;obtain⟨y,aC,Z⟩:=(Ef n).tab _ l;exact⟨y,aC,(((Ef n).hd _ l).tab aC).isCodeTable⟩;obtain⟨y,aC,Z⟩:=(Eg n).tab _ l;exact⟨y,aC,(((Eg n).hd _ l).tab aC).isCodeTable⟩
 obtain⟨y,aC,ac⟩:=m;obtain⟨E,aM⟩:=P.tabs D H y aC;rw[aC]at i;cases i;exact .inr<|.inl ⟨ac,rfl,y,E,rfl,aM⟩;exact .inl<|P.keep D O i H;by_cases H:jH D;have m:∃y,p.heap.get? D=I (sD y):=by obtain⟨Z,⟨S,aC,Z⟩,⟨s,aM,Z⟩⟩:=l;rcases H with rfl|rfl;exact⟨_,aC⟩;exact⟨_,aM⟩
 obtain⟨y,aC⟩:=m;obtain⟨E,aM⟩:=P.tabs D H y aC;exact⟨_,aM⟩;exact⟨O,P.keep D O i H⟩;obtain⟨bm,ap,rfl⟩:=P.same;rfl;obtain⟨bm,ap,rfl⟩:=P.same;exact .of_eq am
abbrev cT:=Nat->Bool
noncomputable def br(l:cT)(a:Nat):cT:=λc=>c==a||l c
noncomputable def h8(l:cT)(a:Nat):cT:=λc=>!(c==a)&&l c
def cM:List Nat->cT->(cT->Int)->Int|[],l,y=>y l|e::d,l,y=>cM d l y+cM d (br l e) y
noncomputable def dp(l:cT)(x:List Nat):cT:=λc=>x.contains c||l c
def oA(l:cT):dp l []=l:=funext λc=>by simp[dp]
def oz(l:cT)(a:Nat)(x:List Nat):dp l (a::x)=br (dp l x) a:=funext λc=>by simp only[dp,br,aeR,Bool.or_assoc]
def vC(l:cT)(a:Nat)(x:List Nat):dp (br l a) x=dp l (a::x):=funext λc=>by simp only[dp,br,aeR];cases x.contains c<;>cases(c==a)<;>rfl
structure iw(r:cT->Nat):Prop where
 up:∀s e,r s<=r (br s e)
 one:∀s e,r (br s e)<=r s+1
 cl:∀s e f,r (br s e)=r s->r (br (br s f) e)=r (br s f)
def eL:List Nat->cT->cT->Prop|[],l,r=>r=l|e::d,l,r=>eL d l r\/eL d (br l e) r
theorem jx:∀{d:List Nat}{l:cT},(∀r,eL d l r->y r=a r)->cM d l y=cM d l a
 |[],l,j=>j l rfl
 |e::d,l,j=>by
  unfold cM
  rw[jx λr x=>j r<|.inl x,jx λr x=>j r<|.inr x]
theorem pk:∀{d:List Nat}{l:cT},cM d l (λr=>b*y r)=b*cM d l y
 |[]=>rfl
 |e::d=>by
  unfold cM
  rw[pk,pk,GD]
def Lv{f p g d:Int}:f+p+(g+d)=f+g+(p+d):=by rw[uF,OT p,<-uF]
theorem xl:∀{d:List Nat}{l:cT},cM d l (λr=>y r+a r)=cM d l y+cM d l a
 |[]=>rfl
 |e::d=>by
  unfold cM
  rw[xl,xl]
  exact Lv
theorem xm:∀{L:List Nat}{s:cT},cM L s (λZ=>0)=0
 |[]=>rfl
 |e::L=>by
  unfold cM
  rw[xm,xm]
  rfl
theorem eL.is:∀{d:List Nat}{f r:cT},eL d f r->∃x:List Nat,r=dp f x/\(∀c∈x,c∈d)
 |[]=>λj=>⟨[],by rw[oA];exact j,λc b=>by cases b⟩
 |e::d=>λj=>by
  rcases j with j|j
  obtain⟨x,a,l⟩:=j.is
  exact⟨x,a,λc b=>dt _<|l c b⟩
  obtain⟨x,a,l⟩:=j.is
  refine⟨e::x,by rw[a,vC],λc b=>?_⟩
  rcases c9.mp b with rfl|b
  exact dA
  exact dt _<|l c b
def eL.off(j:eL d l r)(b:c∉d):r c=l c:=by
 obtain⟨x,rfl,a⟩:=j.is;have:x.contains c=false:=by induction w:x.contains c using bz with|false=>rfl|true=>exact absurd (a c<|fy.mp w) b
 show(x.contains c||l c)=l c;rw[this];rfl
section
variable{r:cT->Nat}(R:iw r)
include R
theorem iw.xu(l:cT):∀x,r l<=r (dp l x)|[]=>by rw[oA];exact cz _|e::x=>by rw[oz];exact ao (iw.xu l x)<|R.up _ _
theorem iw.ro(j:r (br s e)=r s):∀x,r (br (dp s x) e)=r (dp s x)|[]=>by rw[oA];exact j|f::x=>by rw[oz];exact R.cl _ _ _<|iw.ro j x
theorem iw.Ls:∀x:List Nat,(∀e∈x,r (br l e)=r l)->r (dp l x)=r l
 |[]=>@λZ=>by rw[oA]
 |e::x=>@λj=>by
  rw[oz,R.ro (j e dA) x]
  exact iw.Ls x λy c=>j y<|dt _ c
end
def rd(l:cT)(a y:Nat):br (br l a) y=br (br l y) a:=funext λc=>by simp only[br];cases(c==a)<;>cases(c==y)<;>rfl
def Si(j:l a=ah):br l a=l:=funext λc=>by simp only[br];by_cases q:c=a;subst q;simp[j];simp[q]
def J8(j:l a=false):h8 (br l a) a=l:=funext λc=>by show(!(c==a)&&(c==a||l c))=l c;induction q:c==a using bz with|true=>rw[bF q,j];rfl|false=>rfl
def Ct(j:l a=true):br (h8 l a) a=l:=funext λc=>by show(c==a||(!(c==a)&&l c))=l c;induction q:c==a using bz with|true=>rw[bF q,j];rfl|false=>rfl
noncomputable def cu(y:Nat)(l:cT):Nat:=((aH y).filter l).length
theorem KI(j:a b=false):∀d:List Nat,(d.filter<|br a b).length=(d.filter a).length+d.count b
 |[]=>rfl
 |i::d=>by
  rw[iM,iM,nd]
  have g:=KI j d
  by_cases q:i=b
  subst q
  rw[show br a i i=true by show(i==i||a i)=true;simp,j,if_pos rfl,if_neg z,if_pos (by simp),gG]
  exact congrArg (·+1) g
  have c:(i==b)=false:=by simpa using q
  rw[show br a b i=a i by show(i==b||a i)=a i;rw[c];rfl,c]
  induction a i using bz with|true=>exact(congrArg (·+1) g).trans (e7 ..)|false=>exact g
theorem HW(i:Nat):∀n,(aH n).count i=if i<n then 1 else 0
 |0=>rfl
 |n+1=>by
  rw[sl,aeT,HW i n,aeU]
  by_cases j:n=i
  subst j;simp
  have:(n==i)=av:=by simpa using j
  rw[this]
  simp only[j8,if_false]
  by_cases d:i<n
  rw[if_pos d,if_pos<|xS d]
  rw[if_neg d,if_neg λq=>(afn<|ni q).elim d λq=>j q.symm]
def pU(j:s e=av)(f:e<n):cu n (br s e)=cu n s+1:=by unfold cu;rw[KI j,HW,if_pos f]
section
variable(r:cT->Nat)(n full:Nat)(p:Nat->Nat)(x y:Int)
def oE(a:cT)(i:Nat):Bool:=(aH n).any λw=>decide (p w<p i)&&!a w&&r (br (h8 a i) w)==full
def oF(a:cT)(i:Nat):Bool:=(aH n).any λw=>decide (p w<p i)&&a w&&r (br (h8 a w) i)==full
def p1(a:cT)(i:Nat):Int:=if a i then(if oE r n full p a i then 1 else x)else if oF r n full p a i then 1 else y
def r5(d:List Nat)(b:cT):Int:=d.foldr (λi f=>p1 r n full p x y b i*f) 1
def jM(d:List Nat)(a:cT):Int:=if cu n a=full/\r a=full then r5 r n full p x y d a else 0
def j6(a:cT):Int:=(x -1)^(full -r a)*(y -1)^(cu n a -r a)
end
theorem m_:∀{d:List Nat}{l:cT},cM d (br l i) y=cM d l λr=>y (br r i)
 |[]=>rfl
 |g::d=>by
  unfold cM
  rw[rd,m_,m_]
theorem eL.lift:∀{d:List Nat}{l r:cT},eL d l r->eL d (br l i) (br r i)
 |[],l,r,j=>by
  have j:r=l:=j
  subst j;exact rfl
 |f::d,l,r,j=>by
  rcases j with j|j
  exact .inl j.lift
  exact .inr (by rw[rd];exact j.lift)
def eL.all(j:eL d l r):dp r d=dp l d:=funext λc=>by show(d.contains c||r c)=(d.contains c||l c);induction w:d.contains c using bz with|true=>rfl|false=>exact j.off λq=>by rw[fy.mpr q]at w;cases w
def eL.AN(j:eL d l r)(e:∀c,l c=true->r c=true):r=dp l (d.filter r):=funext λc=>by
 show r c=((d.filter r).contains c||l c);by_cases b:c∈d;induction x:r c using bz with
 |true=>rw[fy.mpr<|dP.mpr ⟨b,x⟩];rfl
 |false=>
  have a:(d.filter r).contains c=false:=by induction w:(d.filter r).contains c using bz with|false=>rfl|true=>rw[(dP.mp<|fy.mp w).2]at x;cases x
  have f:l c=false:=by induction w:l c using bz with|false=>rfl|true=>rw[e c w]at x;cases x
  rw[a,f];rfl
 have a:(d.filter r).contains c=false:=by induction w:(d.filter r).contains c using bz with|false=>rfl|true=>exact absurd (dP.mp<|fy.mp w).1 b
 rw[a,j.off b];rfl
def eL.sup(j:eL d l r):∀c,l c=ah->r c=ah:=λc b=>by obtain⟨x,rfl,Z⟩:=j.is;show(x.contains c||l c)=ah;rw[b,Bg]
theorem iw.rank(g:iw w):∀{L:List Nat}{s d:cT},L.Nodup->(∀e∈L,s e=av/\e<i)->w s<=cu i s->eL L s d->w d<=cu i d
 |[],s,d,Z,t,j,q=>by
  have q:d=s:=q
  subst q;exact j
 |e::L,s,d,cg,a,j,q=>by
  have b:=uP.mp cg
  rcases q with q|q
  exact iw.rank g b.2 (λy c=>a y<|dt _ c) j q
  refine iw.rank g b.2 (λy c=>⟨?_,(a y<|dt _ c).2⟩) ?_ q
  show(y==e||s y)=av
  have:(y==e)=av:=by simp only[beq_eq_false_iff_ne,ne_eq];rintro rfl;exact b.1 c
  rw[this,(a y<|dt _ c).1];rfl
  have:=g.one s e
  rw[pU (a e dA).1 (a e dA).2]
  exact ao this<|gS o
theorem iw.MX(D:iw w){a:cT}{d:List Nat}(J:a=dp l (d.filter a))(cg:d.Nodup)(H:∀j∈d,l j=false)(N:w a=f)(y:∀j∈d,a j=true->w (br (h8 a j) b)<=f) (n:∀j∈d,a j=true->w (br (h8 a j) b)≠f):∀x:List Nat,x.Nodup->(∀j∈x,j∈d/\a j=true)->w (br (dp l x) b)=w (dp l x)->w (br l b)=w l
 |[]=>@λZ X E=>by rwa [oA]at E
 |j::x=>@λt p E=>by
  have C:=uP.mp t
  obtain⟨g,B⟩:=p j dA
  refine iw.MX D J cg H N y n x C.2 (λc V=>p c<|dt _ V) ?_
  rw[oz]at E
  apply sa
  intro A
  have P:=D.up (dp l x) b
  have Y:=D.one (dp l x) b
  have Q:=D.one (dp l x) j
  have F:=D.up (br (dp l x) b) j
  rw[rd]at F
  have S:w (br (br (dp l x) b) j)=w (br (dp l x) b):=by rw[rd];exact nh (ao (bQ E)<|ao Q<|sq P<|nq A) F
  have W:h8 a j=dp (dp l x) ((d.filter a).filter λc=>!(c==j)):=funext λc=>by
   show(!(c==j)&&a c)=(((d.filter a).filter λc=>!(c==j)).contains c||(x.contains c||l c));have K:a c=((d.filter a).contains c||l c):=congrFun J c;induction q:c==j using bz with
   |true=>
    have q:=bF q;subst q;have bk:((d.filter a).filter λk=>!(k==c)).contains c=false:=by
     induction A:((d.filter a).filter λk=>!(k==c)).contains c using bz with
     |false=>rfl
     |true=>
      have:=(dP.mp<|fy.mp A).2;simp at this
    have O:x.contains c=false:=by induction A:x.contains c using bz with|false=>rfl|true=>exact absurd (fy.mp A) C.1
    rw[bk,O,H c g];rfl
   |false=>
    have bk:((d.filter a).filter λk=>!(k==j)).contains c=(d.filter a).contains c:=by rw[gQ,fy,fy,dP];exact⟨λq=>q.1,λE=>⟨E,by rw[q];rfl⟩⟩
    rw[bk];induction I:x.contains c using bz with
    |true=>
     rw[(p c<|dt _<|fy.mp I).2];simp
    |false=>
     rw[K];rfl
  have G:=D.ro S<|(d.filter a).filter λc=>!(c==j)
  rw[vC,oz,<-W,rd,Ct B]at G
  have T:=D.up a b
  have U:=y j g B
  exact n j g B<|nh U<|ao (bQ N.symm)<|ao T<|bQ G
def yU(l:cu g c=f->w c=f->p1 w g f s j b c i=a):jM w g f s j b (i::d) c=a*jM w g f s j b d c:=by unfold jM;split;rename_i k;rw[<-l k.1 k.2];rfl;rw[xG]
def Vf(x:eL d l r)(a:l w=false):h8 r w=dp l ((d.filter r).filter λc=>!(c==w)):=funext λc=>by
 have g:r c=((d.filter r).contains c||l c):=congrFun (x.AN x.sup) c;show(!(c==w)&&r c)=(((d.filter r).filter λc=>!(c==w)).contains c||l c);induction q:c==w using bz with
 |true=>
  have q:=bF q;subst q;have:((d.filter r).filter λk=>!(k==c)).contains c=false:=by
   induction b:((d.filter r).filter λk=>!(k==c)).contains c using bz with
   |false=>rfl
   |true=>
    have:=(dP.mp<|fy.mp b).2;simp at this
  rw[this,a];rfl
 |false=>
  have:((d.filter r).filter λk=>!(k==w)).contains c=(d.filter r).contains c:=by rw[gQ,fy,fy,dP];exact⟨λq=>q.1,λe=>⟨e,by rw[q];rfl⟩⟩
  rw[this];exact g
def iw.abw(e:iw w)(j:w l=cu y l):∀x:List Nat,x.Nodup->(∀c∈x,l c=false/\c<y)->w (dp l x)<=cu y (dp l x):=by
 intro x;induction x with
 |nil=>intro _ _;rw[oA];exact bQ j
 |cons c x g=>
  intro t p;have a:=uP.mp t;have:=g a.2 λk f=>p k<|dt _ f;have b:=e.one (dp l x) c;rw[oz,pU ?_ (p c dA).2]at⊢;exact ao b<|gS this;show(x.contains c||l c)=false;rw[(p c dA).1,Gx];induction d:x.contains c using bz with|false=>rfl|true=>exact absurd (fy.mp d) a.1
theorem Ox(M:iw D)(F g:Nat)(U:Nat->Nat)(Q S:Int):∀(d:List Nat)(l:cT),d.Nodup->(∀e∈d,l e=false/\e<F)->d.Pairwise (λak az=>U az<U ak)->(∀e∈d,∀w,w<F->U w<U e->w∈d)->D l=cu F l->D (dp l d)=g->cM d l (jM D F g U Q S d)=cM d l (j6 D F g Q S):=by
 intro d;induction d with
 |nil=>
  intro l Z aD aE aF a1 c
  rw[oA]at c
  show jM D F g U Q S [] l=j6 D F g Q S l
  unfold jM j6
  rw[if_pos ⟨by exact Gy (i' o) o,c⟩,c,<-a1,c,afC,sg,sg]
  rfl
 |cons e d ih=>
  intro l cg av cH ab a1 c
  have N:=uP.mp cg
  have T:=GS.mp cH
  have an:=av e dA
  have k:∀O∈d,l O=false/\O<F:=λO c=>av O<|dt _ c
  have ag:∀O∈d,(O==e)=false:=λO ap=>by simp only[beq_eq_false_iff_ne,ne_eq];rintro rfl;exact N.1 ap
  have aw:∀O∈d,br l e O=false/\O<F:=λO c=>⟨by show(O==e||l O)=false;rw[ag O c,(k O c).1];rfl,(k O c).2⟩
  have J:∀O∈d,∀w,w<F->U w<U O->w∈d:=λO ap w C ax=>by rcases c9.mp (ab O (dt _ ap) w C ax)with rfl|q;exact(afm ax<|T.1 O ap).elim;exact q
  have V:D (br (dp l d) e)=g:=by rw[<-oz];exact c
  have bk:cu F (br l e)=cu F l+1:=pU an.1 an.2
  have al:∀{B},eL d l B->B e=false:=λA=>by rw[A.off N.1];exact an.1
  have td:∀{B},eL d l B->cu F (br B e)=cu F B+1:=λA=>pU (al A) an.2
  have ar:∀{B},eL d l B->D B<=cu F B:=λA=>M.rank N.2 k (bQ a1) A
  have ay:∀{B},eL d l B->D B<=D (dp l d):=λ{B} A=>by rw[<-A.all];exact M.xu B d
  have ad:∀{B},eL d l B->D (br B e)<=g:=λ{B} A=>by rw[<-V,<-A.all,<-oz,<-vC];exact M.xu _ d
  have aj:=λaG=>ih aG N.2
  show cM d l _+cM d (br l e) _=cM d l _+cM d (br l e) _
  by_cases X:D (br l e)=D l
  ·
   have iq:∀{B},eL d l B->D (br B e)=D B:=λ{B} A=>by rw[A.AN A.sup];exact M.ro X _
   have aq:=aj l k T.2 J a1 (by rw[<-V,M.ro X])
   have aC:cM d l (jM D F g U Q S<|e::d)=S*cM d l (jM D F g U Q S d):=by
    rw[<-pk];refine jx λB A=>yU λH K=>?_;unfold p1;rw[al A,if_neg z,if_neg];intro E;unfold oF at E;rw[xI]at E;obtain⟨w,C,E⟩:=E;simp only[bY,decide_eq_true_eq,beq_iff_eq]at E;have W:=bl.mp C;have ac:w∈d:=by rcases c9.mp (ab e dA w W E.1.1)with rfl|q;exact absurd E.1.1<|qG _;exact q
    have a2:=Vf A (k w ac).1;have G:D (br (h8 B w) e)=D (h8 B w):=by rw[a2];exact M.ro X _
    have P:cu F B=cu F (h8 B w)+1:=by have:=pU (n:=F) (s:=h8 B w) (e:=w) (by show(!(w==w)&&B w)=false;simp) W;rw[Ct E.1.2]at this;exact this
    have am:D (h8 B w)<=cu F (h8 B w):=by rw[a2];exact M.abw a1 _ ((N.2.filter _).filter _) λas bd=>k as (dP.mp (dP.mp bd).1).1
    exact G5 _<|ao (bQ<|P.symm.trans<|H.trans<|E.2.symm.trans G) am
   have aM:cM d (br l e) (jM D F g U Q S<|e::d)=0:=by rw[m_,<-xm (L:=d) (s:=l)];refine jx λB A=>?_;unfold jM;rw[if_neg];intro H;exact G5 _<|ao (bQ<|(td A).symm.trans<|H.1.trans<|H.2.symm.trans<|iq A)<|ar A
   have bU:cM d (br l e) (j6 D F g Q S)=(S -1)*cM d l (j6 D F g Q S):=by rw[m_,<-pk];refine jx λB A=>?_;unfold j6;rw[iq A,td A,show cu F B+1 -D B=(cu F B -D B)+1 from G8<|ar A,nc];generalize(Q -1)^(g -D B)=ak;generalize(S -1)^(cu F B -D B)=az;rw[<-pv,uH]
   rw[aC,aM,bU,aq]
   generalize cM d l (j6 D F g Q S)=ak
   rw[qz,aeM,sf,uG ak,O4]
  have au:D (br l e)=D l+1:=nh (M.one l e)<|sq (M.up l e)<|nq X
  have ai:=λaA=>aj (br l e) aw T.2 J (au.trans ((congrArg (·+1) a1).trans bk.symm)) aA
  have ae:D (dp (br l e) d)=g:=by rw[vC];exact c
  by_cases Y:D (dp l d)=g
  ·
   have aq:=aj l k T.2 J a1 Y
   rw[<-aq,<-ai ae]
   congr 1
   refine jx λB A=>?_
   rw[yU (a:=1) λH K=>?_,sf]at⊢
   unfold p1
   rw[al A,if_neg z,if_pos]
   apply sa
   intro E
   have aa:∀w∈d,B w=true->D (br (h8 B w) e)≠g:=λw C I q=>E (by
    unfold oF;rw[xI];refine⟨w,bl.mpr (k w C).2,?_⟩;simp only[bY,decide_eq_true_eq,beq_iff_eq];exact⟨⟨T.1 w C,I⟩,q⟩)
   refine X<|M.MX (A.AN A.sup) N.2 (λw C=>(k w C).1) K (λw C I=>?_) aa (d.filter B) (N.2.filter _) (λw C=>⟨(dP.mp C).1,(dP.mp C).2⟩) ?_
   have G:=M.up (br (h8 B w) e) w
   rw[rd,Ct I]at G
   exact ao G<|ad A
   rw[<-A.AN A.sup]
   exact nh (ao (ad A)<|bQ K.symm)<|M.up B e
   rw[m_,m_]
   refine jx λB A=>?_
   rw[yU (a:=1) λH K=>?_,sf]at⊢
   unfold p1
   rw[show br B e e=true by show(e==e||B e)=true;simp,if_pos rfl,if_pos]
   apply sa
   intro E
   have ah:D B+1=g:=nh (ao (gS<|ar A)<|bQ<|(td A).symm.trans H)<|ao (bQ K.symm)<|M.one B e
   have aa:∀w∈d,D (br B w)=D B:=λw C=>by
    induction I:B w using bz with
    |true=>rw[Si I]
    |false=>
     have G:=M.up B w;have P:=M.one B w;apply sa;intro q;refine E ?_;unfold oE;rw[xI];refine⟨w,bl.mpr (k w C).2,?_⟩;simp only[bY,decide_eq_true_eq,beq_iff_eq];refine⟨⟨T.1 w C,?_⟩,?_⟩;show(!(w==e||B w))=true;rw[ag w C,I];rfl;rw[J8<|al A];exact(nh P<|sq G<|nq q).trans ah
   have:=M.Ls d aa
   rw[A.all,Y]at this
   exact absurd (ah.trans this)<|afE _
  ·
   have aB:∀{B},eL d l B->D (br B e)=D B+1:=λ{B} A=>by have G:=M.up B e;have P:=M.one B e;apply sa;intro q;refine Y ?_;have:=M.ro (s:=B) (e:=e) (nh (ni<|sq P q) G) d;rw[A.all]at this;exact Gy (i' o) o
   have af:∀{B},eL d l B->D B<g:=λ{B} A=>by have G:=ay A;have P:=M.up (dp l d) e;rw[V]at P;exact b4 G<|sq P Y
   have aC:cM d l (jM D F g U Q S<|e::d)=0:=by rw[<-xm (L:=d) (s:=l)];refine jx λB A=>?_;unfold jM;rw[if_neg];intro H;exact f' (af A) H.2
   have aM:cM d (br l e) (jM D F g U Q S<|e::d)=Q*cM d (br l e) (jM D F g U Q S d):=by
    rw[m_,m_,<-pk];refine jx λB A=>yU λH K=>?_;unfold p1;rw[show br B e e=true by show(e==e||B e)=true;simp,if_pos rfl,if_neg];intro E;unfold oE at E;rw[xI]at E;obtain⟨w,C,E⟩:=E;simp only[bY,decide_eq_true_eq,beq_iff_eq]at E;have W:=bl.mp C;have ac:w∈d:=by rcases c9.mp (ab e dA w W E.1.1)with rfl|q;exact absurd E.1.1<|qG _;exact q
    have G:=E.2;rw[J8<|al A]at G;have P:D (br B w)<=D (dp l d):=by
     have:br B w=dp B [w]:=by rw[oz,oA]
     have bU:dp (dp B [w]) d=dp l d:=by
      rw[<-A.all];funext as;show(d.contains as||([w].contains as||B as))=(d.contains as||B as);induction H:[w].contains as using bz with
      |false=>rfl
      |true=>
       have:as=w:=by simpa using H
       subst this;rw[fy.mpr ac];rfl
     rw[this,<-bU];exact M.xu _ d
    have am:=M.up (dp l d) e;rw[V]at am;exact Y<|nh am<|ao (bQ G.symm) P
   have bU:cM d l (j6 D F g Q S)=(Q -1)*cM d (br l e) (j6 D F g Q S):=by rw[m_,<-pk];refine jx λB A=>?_;have G:=af A;unfold j6;rw[aB A,td A,show g -D B=(g -(D B+1))+1 from(Nat.succ_pred_eq_of_pos<|PE G).symm,nc,show cu F B+1 -(D B+1)=cu F B -D B from Pw ..];generalize(Q -1)^(g -(D B+1))=ak;generalize(S -1)^(cu F B -D B)=az;rw[uH ak,pv]
   rw[aC,aM,bU,ai ae]
   generalize cM d (br l e) (j6 D F g Q S)=ak
   rw[qA,aeM,sf,O4]
def pJ{α:Type}{P:List α->Prop}(h0:P [])(k3:∀l e,P l->P (l++[e]))(l:List α):P l:=by
 have:∀r:List α,P r.reverse:=λr=>by induction r with|nil=>exact h0|cons a r tv=>rw[List.reverse_cons];exact k3 _ _ tv
 rw[<-List.reverse_reverse l];exact this _
noncomputable def fP(y:Nat->Nat)(c p:Nat):Nat->Nat:=λt=>if y t==y p then y c else y t
def d0(n:List (Nat×Nat))(l:cT):Nat->Nat:=n.zipIdx.foldl (λy i=>if l i.2 then fP y i.1.1 i.1.2 else y) id
def pb(n:List (Nat×Nat))(i:Nat×Nat)(l:cT):d0 (n++[i]) l=if l n.length then fP (d0 n l) i.1 i.2 else d0 n l:=by unfold d0;rw[ae',Bp];simp
noncomputable def i5(n:List (Nat×Nat))(l:cT)(g:Nat->Nat):Bool:=n.zipIdx.all λi=>!l i.2||g i.1.1==g i.1.2
def ab0(n:List (Nat×Nat))(i:Nat×Nat)(l:cT)(g:Nat->Nat):i5 (n++[i]) l g=(i5 n l g&&(!l n.length||g i.1==g i.2)):=by unfold i5;rw[ae',List.all_append];simp
def sV(y:Nat->Nat):Prop:=∀t,y (y t)=y t
def n1(y:Nat->Nat)(c p t:Nat):fP y c p t=if y t=y p then y c else y t:=by unfold fP;simp
theorem sV.fP{y:Nat->Nat}(j:sV y)(c p:Nat):sV (fP y c p):=λt=>by rw[n1,n1];split;rw[j c];split<;>simp_all;rename_i q;rw[j t,if_neg q]
def Nn(l:cT)(n:List (Nat×Nat)):sV (d0 n l):=by
 induction n using pJ with
 |h0=>exactλt=>rfl
 |k3 n i g=>
  rw[pb];split;exact g.fP _ _;exact g
def pP(y g:Nat->Nat):Prop:=∀t,g t=g (y t)
theorem pP.fP{y g:Nat->Nat}(j:sV y)(d p:Nat):pP (fP y d p) g↔pP y g/\g d=g p:=by
 constructor;intro q;have l:=q d;have k:=q p;rw[n1]at l k;rw[if_pos rfl]at k;have n:g d=g (y d):=by rw[l];split<;>rfl
 refine⟨λt=>?_,by rw[n,k]⟩;have m:=q t;rw[n1]at m;split at m;rename_i i;have ej:=q<|y p;rw[n1,j p,if_pos rfl]at ej;rw[m,i,ej];exact m;rintro⟨q,i⟩ t;rw[n1];split;rename_i r;rw[q t,r,<-q p,<-i,q d];exact q t
def w9(l:cT)(a:Nat->Nat)(n:List (Nat×Nat)):i5 n l a=true↔pP (d0 n l) a:=by
 induction n using pJ with
 |h0=>exact⟨λZ t=>rfl,λZ=>rfl⟩
 |k3 n i g=>
  rw[ab0,pb,bY,g];induction l n.length using bz with|true=>simpa using(pP.fP (Nn l n) i.1 i.2).symm|false=>simp
structure nz(f:Nat->Nat):Prop where
 idem:sV f
 low:∀v,v<4->f v<4
 high:∀v,4<=v->f v=v
theorem nz.fP{y:Nat->Nat}(j:nz y){c p:Nat}(n:c<4)(q:p<4):nz (fP y c p):=by refine⟨j.idem.fP c p,λt m=>?_,λt m=>?_⟩;rw[n1];split;exact j.low c n;exact j.low t m;rw[n1,if_neg];exact j.high t m;rw[j.high t m];have:=j.low p q;omega
def kg(n:List (Nat×Nat)):Prop:=∀i∈n,i.1<4/\i.2<4
def Fs(l:cT)(n:List (Nat×Nat))(f:kg n):nz (d0 n l):=by
 induction n using pJ with
 |h0=>exact⟨λt=>rfl,λt j=>j,λt j=>rfl⟩
 |k3 n i g=>
  rw[pb];have g:=g λm ag=>f m<|mx _ ag;have j:=f i<|my _ dA;split;exact g.fP j.1 j.2;exact g
noncomputable def hR(y:Nat->Nat):List Nat:=[y 0,y 1,y 2,y 3]
noncomputable def ko(d:List Nat):Nat:=((aH 4).filter λt=>d.contains t).length
noncomputable def hG:List (List Nat):=(aH 27).map λk=>[0,k%3,k/3%3,k/9]
noncomputable def jg(g:List Nat):Nat->Nat:=λt=>g.getD t 0
noncomputable def xi(d g:List Nat):Bool:=(aH 4).all λt=>g.getD t 0==g.getD (d.getD t 0) 0
noncomputable def DQ(d:List Nat):Bool:=(aH 4).all λt=>d.getD (d.getD t 0) 0==d.getD t 0
noncomputable def k'(d:List Nat)(f p:Nat):List Nat:=d.map λm=>if m==d.getD p 0 then d.getD f 0 else m
noncomputable def n5(k:Nat):List Nat:=[k%4,k/4%4,k/16%4,k/64]
def abP:((aH 256).all λk=>!DQ (n5 k)||(bI 1 (ko<|n5 k)&&nf (hG.filter<|xi<|n5 k).length (3^(ko (n5 k) -1))&&(aH 4).all λf=>(aH 4).all λp=>nf ((n5 k).getD f 0) ((n5 k).getD p 0)||nf (ko (k' (n5 k) f p)+1) (ko<|n5 k)))=ah:=by decide+kernel
def qm(y:Nat->Nat)(j:t<4):(hR y).getD t 0=y t:=rD j rfl rfl rfl rfl
def Fh(j:f<4):(f+4*k)%4=f:=by rw[Pu,qH j]
def t'(j:f<4):(f+4*k)/4=k:=by rw[GY f _ z,uQ j,ij]
def Fg(j:f<4)(d:p<y):f+4*p<4*y:=cq (Pt j _)<|e6 4 (4*p)▸iN 4 d
def abW(j:nz y):∃k,k<256/\n5 k=hR y:=by have h0:=j.low 0 z;have s:=j.low 1 z;have l:=j.low 2 z;have d:=j.low 3 z;refine⟨y 0+4*(y 1+4*(y 2+4*y 3)),Fg h0<|Fg s<|Fg l d,?_⟩;unfold n5 hR;rw[Fh h0,t' h0,Fh s,show(16:Nat)=4*4 from rfl,<-BA,t' h0,t' s,Fh l,show(64:Nat)=4*4*4 from rfl,<-BA,<-BA,t' h0,t' s,t' l]
def abV(j:nz y):DQ (hR y)=ah:=by unfold DQ;rw[bG];intro t m;have m:=bl.mp m;rw[qm y m,qm y<|j.low t m,j.idem t];simp
def Nu(n:c<4)(q:p<4):hR (fP y c p)=k' (hR y) c p:=by unfold k';rw[qm y n,qm y q];rfl
def NW(j:nz y)(w:g.length=4):pP y (jg g)↔xi (hR y) g=ah:=by unfold xi;rw[bG];constructor;intro q t m;have m:=bl.mp m;rw[qm y m];simpa[jg]using q t;intro q t;by_cases m:t<4;have:=q t<|bl.mpr m;rw[qm y m]at this;simpa[jg]using this;rw[j.high t<|nj o]
def dm(n:List (Nat×Nat))(l:cT):Nat:=4 -ko (hR<|d0 n l)
def Df(d:List Nat):ko d<=4:=ao (mw ..) (by simp)
structure RP(f:Nat->Nat):Prop where
 pos:1<=ko (hR f)
 num:(hG.filter<|xi<|hR f).length=3^(ko (hR f) -1)
 fP:∀a b,a<4->b<4->f a≠f b->ko (hR<|fP f a b)+1=ko (hR f)
def nz.fin(j:nz y):RP y:=by obtain⟨k,d,i⟩:=abW j;have:=bG.mp abP k<|bl.mpr d;rw[i,abV j]at this;simp only[Bf,aey,bY,gH,Nat.beq_eq,bG,mu]at this;refine⟨this.1.1,this.1.2,λg p n c l=>?_⟩;have q:=this.2 g (bl.mpr n) p<|bl.mpr c;rw[qm y n,qm y c,<-Nu n c]at q;exact q.resolve_left l
def CW:∀g∈hG,g.length=4:=λg w=>by unfold hG at w;rw[ez]at w;obtain⟨k,Z,rfl⟩:=w;rfl
def rL(n:List (Nat×Nat))(l:cT):Nat:=(hG.filter λg=>i5 n l<|jg g).length
def abM(s:1<=x)(d:x<=4):4 -x<=3/\x -1=3 -(4 -x):=(by decide:∀x<5,1<=x->4 -x<=3/\x -1=3 -(4 -x)) x (hC d) s
def wQ(f:kg n)(l:cT):dm n l<=3/\rL n l=3^(3 -dm n l):=by
 have a:=Fs l n f;have t:=a.fin;have i:rL n l=(hG.filter<|xi<|hR<|d0 n l).length:=by refine congrArg sk<|si λg w=>?_;rw[gQ,w9,NW a<|CW g w]
 have i1:=abM t.pos<|Df<|hR<|d0 n l;refine⟨i1.1,?_⟩;rw[i,t.num];exact congrArg (3^·) i1.2
def AH(y:k<n.length):i5 n (br l k) g=(i5 n l g&&g n[k].1==g n[k].2):=by
 unfold i5;rw[gQ];simp only[bG,bY,mu,ew];have t:∀i:(Nat×Nat)×Nat,i∈n.zipIdx↔∃j:i.2<n.length,n[i.2]=i.1:=λi=>by rw[List.mem_zipIdx_iff_getElem?];rw[qC]
 constructor;intro j;refine⟨λi f=>?_,?_⟩;rcases j i f with q|q;left;have:(i.2==k||l i.2)=av:=q;rw[aeA]at this;exact this.2;exact .inr q;have:=j (n[k],k)<|(t _).mpr ⟨y,rfl⟩;rcases this with q|q;have q:(k==k||l k)=av:=q;simp at q;exact q;rintro⟨b,m⟩ i f;by_cases q:i.2=k;right;obtain⟨d,p⟩:=(t i).mp f;have:i.1=n[k]:=by rw[<-p];congr 1
 rw[this];exact m;rcases b i f with a|a;left;show(i.2==k||l i.2)=av;rw[a,Gx];simpa using q;exact .inr a
def uc(j:∀k,k<n.length->s k=ae k):d0 n s=d0 n ae:=by
 induction n using pJ with
 |h0=>rfl
 |k3 n i g=>
  rw[pb,pb,g λk y=>j k (by simp;exact cq o<|cv _ _),j n.length<|by simp]
def abL(s:f<=3)(d:p<=3)(i:3 -p=3 -f):p=f+0:=(afD d).symm.trans ((congrArg (3 -·) i).trans<|afD s)
def abK(d:w<=3)(i:3 -w=y -1)(a:y+1=x)(s:1<=y)(b:x<=4):w=4 -x+1:=by subst a;exact(by decide:∀w<4,∀y<4,3 -w=y -1->1<=y->w=4 -(y+1)+1) w (hC d) y b i s
def w4(f:kg n)(l:cT)(y:k<n.length):dm n (br l k)=dm n l+(if d0 n l n[k].1=d0 n l n[k].2 then 0 else 1):=by
 have A:=Fs l n f;obtain⟨C,D⟩:=wQ f l;obtain⟨d,q⟩:=wQ f<|br l k;have m:=f n[k]<|kP y;have x:∀B p:Nat,3^B=3^p->B=p:=λB p j=>(Nat.pow_right_inj z).mp j;split;rename_i w;have:rL n (br l k)=rL n l:=by
  refine congrArg sk<|si λg r=>?_;rw[AH y];induction E:i5 n l (jg g)using bz with
  |false=>rfl
  |true=>
   have G:=(w9 l (jg g) n).mp E;rw[Bh,G n[k].1,w,<-G n[k].2];simp
 exact abL C d<|x _ _<|(q.symm.trans this).trans D;rename_i w;have t:=A.fin;have eP:=A.fP m.1 m.2;have qW:=eP.fin;have i:rL n (br l k)=3^(ko (hR<|fP (d0 n l) n[k].1 n[k].2) -1):=by rw[<-qW.num];refine congrArg sk<|si λg r=>?_;rw[gQ,AH y,bY,w9,<-NW eP (CW g r),pP.fP A.idem];simp
 exact abK d (x _ _<|q.symm.trans i) (t.fP _ _ m.1 m.2 w) qW.pos<|Df<|hR<|d0 n l
def Fo(l:cT)(y:¬k<n.length):dm n (br l k)=dm n l:=by
 unfold dm;rw[uc (s:=br l k) (ae:=l) λw p=>?_]at⊢;show(w==k||l w)=l w;have:(w==k)=av:=by simp only[beq_eq_false_iff_ne,ne_eq];omega
 rw[this];rfl
def AB(d:kg n):iw (dm n):=by
 refine⟨λl i=>?_,λl i=>?_,λl i y k=>?_⟩;by_cases b:i<n.length;rw[w4 d l b];exact cv _ _;rw[Fo l b];exact cz _;by_cases b:i<n.length;rw[w4 d l b];split;exact pB _;exact cz _;rw[Fo l b];exact cv _ _;by_cases b:i<n.length;have g:d0 n l n[i].1=d0 n l n[i].2:=by rw[w4 d l b]at k;apply sa;intro q;rw[if_neg q]at k;exact absurd k<|afE _
 rw[w4 d _ b,if_pos];rfl;by_cases c:y<n.length;have a:pP (d0 n<|br l y) (d0 n<|br l y):=λt=>((Nn (br l y) n) t).symm;have q:=(w9 (br l y) (d0 n<|br l y) n).mpr a;rw[AH c,bY]at q;have cC:=(w9 l _ n).mp q.1;rw[cC n[i].1,g,<-cC n[i].2];rw[uc (s:=br l y) (ae:=l) λw p=>?_]at⊢;exact g;show(w==y||l w)=l w;have:(w==y)=av:=by simp only[beq_eq_false_iff_ne,ne_eq];omega
 rw[this];rfl;rw[Fo _ b]
noncomputable def fG(p:Bool):Int:=if p then 1 else 0
noncomputable def kq(n:List (Nat×Nat))(k:Nat):Nat×Nat:=n.getD k (0,0)
noncomputable def ec:cT:=λ_=>av
def wY(n:List (Nat×Nat))(g:Nat->Nat)(d:List Nat):Int:=d.foldr (λk f=>(1 -fG (g (kq n k).1==g (kq n k).2))*f) 1
def Dm(j:k<n.length):kq n k=n[k]:=by unfold kq;rw[j_,hb j];rfl
theorem FI(n:List (Nat×Nat))(g:Nat->Nat):∀(d:List Nat)(l:cT),d.Nodup->(∀e∈d,l e=av/\e<n.length)->cM d l (λr=>(-1)^cu n.length r*fG (i5 n r g))=(-1)^cu n.length l*fG (i5 n l g)*wY n g d
 |[]=>@λl Z t=>by
  show _=_*(1:Int)
  rw[oe]
  rfl
 |e::d=>@λl cg w=>by
  have h:=uP.mp cg
  have q:=w e dA
  have k:∀y∈d,l y=av/\y<n.length:=λy j=>w y<|dt _ j
  have i:∀y∈d,br l e y=av/\y<n.length:=λy j=>⟨by
   show(y==e||l y)=av;have:(y==e)=av:=by simp only[beq_eq_false_iff_ne,ne_eq];rintro rfl;exact h.1 j
   rw[this,(k y j).1];rfl,(k y j).2⟩
  show cM d l _+cM d (br l e) _=_*((1 -fG (g (kq n e).1==g (kq n e).2))*wY n g d)
  rw[FI n g d l h.2 k,FI n g d (br l e) h.2 i,pU q.1 q.2,AH q.2,Dm q.2,nc]
  generalize(-1:Int)^cu n.length l=x
  generalize wY n g d=p
  cases i5 n l g<;>cases(g n[e].1==g n[e].2)<;>simp[fG]<;>grind
noncomputable def qi(n:List (Nat×Nat))(g:Nat->Nat):Bool:=n.all λi=>!(g i.1==g i.2)
def NB(n:List (Nat×Nat))(g:Nat->Nat):i5 n ec g=ah:=by unfold i5;rw[bG];intro i _;rfl
def y6(y:Nat):cu y ec=0:=by unfold cu;rw[Pl,Pc];intro f _;exact xE
theorem M7(n:List (Nat×Nat))(g:Nat->Nat):∀d:List Nat,wY n g d=fG (d.all λk=>!(g (kq n k).1==g (kq n k).2))
 |[]=>rfl
 |k::d=>by
  show(1 -fG _)*wY n g d=_
  rw[M7 n g d,O8]
  cases(g (kq n k).1==g (kq n k).2)<;>cases(d.all λk=>!(g (kq n k).1==g (kq n k).2))<;>rfl
def abm(n:List (Nat×Nat))(g:Nat->Nat){d:List Nat}(j:∀k,k∈d↔k<n.length):(d.all λk=>!(g (kq n k).1==g (kq n k).2))=qi n g:=by unfold qi;rw[gQ,bG,bG];constructor;intro q i f;obtain⟨k,y,rfl⟩:=List.mem_iff_getElem.mp f;have:=q k<|(j k).mpr y;rwa [Dm y]at this;intro q k y;have y:=(j k).mp y;rw[Dm y];exact q _<|kP y
theorem N5{b:Type}(h:cT->Int)(f:cT->b->Bool):∀(e:List b)(d:List Nat)(a:cT),(e.map λc=>cM d a λr=>h r*fG (f r c)).sum=cM d a λr=>h r*((e.filter<|f r).length:Nat)
 |[]=>@λd a=>by
  show(0:Int)=_
  rw[<-xm (L:=d) (s:=a)]
  exact jx λr Z=>by rw[Pe];simp
 |c::e=>@λd a=>by
  rw[c8,j',N5 h f e d a,<-xl]
  refine jx λr Z=>?_
  rw[iM]
  induction f r c using bz with|true=>rw[if_pos rfl,gG];simp only[fG,if_true];exact(uG _ _).trans (GD _ _ 1).symm|false=>rw[if_neg z];simp[fG]
theorem JT{s:Type}(r:s->Bool):∀d:List s,(d.map λc=>fG<|r c).sum=((d.filter r).length:Nat)
 |[]=>rfl
 |c::d=>by
  rw[c8,j',JT r d,iM]
  induction r c using bz with|true=>rw[if_pos rfl,gG];simp only[fG,if_true];exact uG .. |false=>rw[if_neg z];simp[fG]
def UJ(f:kg n)(cg:d.Nodup)(a:∀k,k∈d↔k<n.length):(((hG.filter λg=>qi n<|jg g).length:Nat):Int)=cM d ec λr=>(-1)^cu n.length r*3^(3 -dm n r):=by
 rw[<-JT];have aC:∀g∈hG,fG (qi n<|jg g)=cM d ec λr=>(-1)^cu n.length r*fG (i5 n r<|jg g):=λg Z=>by rw[FI n _ d ec cg λi j=>⟨rfl,(a i).mp j⟩,y6,NB,M7,abm n _ a];simp[fG]
 rw[jb aC,N5 (λr=>(-1)^cu n.length r) λr g=>i5 n r<|jg g];refine jx λr Z=>?_;have:=(wQ f r).2;unfold rL at this;rw[this];congr 1
noncomputable def d'(i f p:Nat):Int:=(if i=f then 1 else 0) -(if i=p then 1 else 0)
def dF(c:List Nat)(k f p:Nat):List Nat:=(aH 4).map λi=>((((c.getD i 0:Nat):Int)+(k:Nat)*d' i f p)%3).toNat
def gD(n:List (Nat×Nat)):List (List Nat):=n.foldl (λb i=>b.flatMap λs=>[dF s 1 i.1 i.2,dF s 2 i.1 i.2]) [[0,0,0,0]]
def tx(t:List Nat):Prop:=∃a q w l,t=[a,q,w,l]/\a<3/\q<3/\w<3/\l<3
def AK(d:List Nat)(k f p:Nat):tx (dF d k f p):=
 have ab:∀c:Int,(c%3).toNat<3:=λc=>(xH<|sd c z).mpr<|GA c z
 ⟨_,_,_,_,rfl,ab _,ab _,ab _,ab _⟩
def AJ(A:List Nat)(y:tx A)(k f d:Nat)(w:k<=3):dF (dF A k f d) (3 -k) f d=A:=by
 obtain⟨B,q,C,l,rfl,ax,j,c,n⟩:=y;have g:∀(m i:Nat),m<3->((((((m:Nat):Int)+(k:Nat)*d' i f d)%3).toNat:Int)+((3 -k:Nat):Int)*d' i f d)%3=m:=λm i ag=>by rw[og<|sd _ z,Int.emod_add_emod,uF,<-Gz,show((k:Nat):Int)+((3 -k:Nat):Int)=3 from congrArg Int.ofNat<|qF w,OU,xF (fR m)<|lB.mpr ag]
 have h:∀m i:Nat,m<3->((((((((m:Nat):Int)+(k:Nat)*d' i f d)%3).toNat:Nat):Int)+((3 -k:Nat):Nat)*d' i f d)%3).toNat=m:=λm i ag=>by rw[g m i ag];rfl
 show[_,_,_,_]=[B,q,C,l];have cD:=h B 0 ax;have aC:=h q 1 j;have aM:=h C 2 c;have bU:=h l 3 n;exact congr (congrArg GJ cD) (congr (congrArg GJ aC) (congr (congrArg GJ aM) (congr (congrArg GJ bU) rfl)))
def KP(n:List (Nat×Nat)):∀t∈gD n,tx t:=by
 induction n using pJ with
 |h0=>
  intro t m;have:t=[0,0,0,0]:=by simpa[gD]using m
  exact⟨0,0,0,0,this,z,z,z,z⟩
 |k3 n i g=>
  intro t m;unfold gD at m;rw[Bp]at m;obtain⟨s,Z,m⟩:=Bu.mp m;rcases c9.mp m with rfl|m;exact AK ..;rw[c_]at m;subst m;exact AK ..
def KR(n:List (Nat×Nat))(i:Nat×Nat):gD (n++[i])=(gD n).flatMap λs=>[dF s 1 i.1 i.2,dF s 2 i.1 i.2]:=by unfold gD;rw[Bp];rfl
theorem JS(m:tx t)(f p:Nat):∀d:List (List Nat),(∀x∈d,tx x)->(d.flatMap λs=>[dF s 1 f p,dF s 2 f p]).count t=d.count (dF t 1 f p)+d.count (dF t 2 f p)
 |[]=>@λZ=>rfl
 |x::d=>@λj=>by
  rw[px,aeT,JS m f p d λc k=>j c<|dt _ k,nd,nd,nd,nd,List.count_nil]
  have ag:=j x dA
  have aC:(dF x 1 f p==t)=(x==dF t 2 f p):=by rw[gQ,beq_iff_eq,beq_iff_eq];constructor;rintro rfl;exact(AJ x ag 1 f p z).symm;rintro rfl;exact AJ t m 2 f p z
  have aM:(dF x 2 f p==t)=(x==dF t 1 f p):=by rw[gQ,beq_iff_eq,beq_iff_eq];constructor;rintro rfl;exact(AJ x ag 2 f p z).symm;rintro rfl;exact AJ t m 1 f p z
  rw[aC,aM,ij]
  exact(e6 ..).trans (Pr ..)
noncomputable def aS(y:Nat->Nat)(n:Nat->Int)(m:Nat):Int:=(if y 0=m then n 0 else 0)+(if y 1=m then n 1 else 0)+(if y 2=m then n 2 else 0)+(if y 3=m then n 3 else 0)
noncomputable def ed(t:List Nat):Nat->Int:=λi=>((t.getD i 0:Nat):Int)
def iU(y:Nat->Nat)(n:Nat->Int):Bool:=(aH 4).all λm=>aS y n m%3==0
def zS[Decidable g]{f p:Int}(j:f%3=p%3):(if g then f else 0)%3=(if g then p else 0)%3:=by by_cases w:g;rw[if_pos w,if_pos w,j];rw[if_neg w,if_neg w]
def zT[Decidable g]{f p:Int}:(if g then f+p else 0)=(if g then f else 0)+(if g then p else 0):=by by_cases w:g;rw[if_pos w,if_pos w,if_pos w];rw[if_neg w,if_neg w,if_neg w];rfl
def Gd{f p k e:Int}(h0:f%3=k%3)(s:p%3=e%3):(f+p)%3=(k+e)%3:=by rw[sb,h0,s,<-sb]
def WK{f p g d k e h t:Int}(h0:f%3=k%3)(s:p%3=e%3)(l:g%3=h%3)(i:d%3=t%3):(f+p+g+d)%3=(k+e+h+t)%3:=Gd (Gd (Gd h0 s) l) i
def Gb{a p k e:Int}:(a+k)+(p+e)=(a+p)+(k+e):=by rw[uF,OT k p e,<-uF]
def KW{f p g d k e h t:Int}:(f+k)+(p+e)+(g+h)+(d+t)=(f+p+g+d)+(k+e+h+t):=by rw[Gb (a:=f),Gb (a:=f+p),Gb (a:=f+p+g)]
def UQ(y:Nat->Nat)(n e:Nat->Int)(j:∀i,i<4->n i%3=e i%3)(m:Nat):aS y n m%3=aS y e m%3:=WK (zS<|j 0 z) (zS<|j 1 z) (zS<|j 2 z)<|zS<|j 3 z
def JV(y:Nat->Nat)(n e:Nat->Int)(m:Nat):aS y (λi=>n i+e i) m=aS y n m+aS y e m:=by unfold aS;dsimp only;rw[zT,zT,zT,zT,KW]
def zR[Decidable g](k:Int):(if g then k*1 else 0)=k*(if g then 1 else 0):=by by_cases w:g;rw[if_pos w,if_pos w];rw[if_neg w,if_neg w,xG]
def lJ[Decidable g](k:Int):(if g then k*0 else 0)=0:=by rw[xG,ite_self]
def JW(y:Nat->Nat)(n:b<4)(k:Int)(m:Nat):aS y (λi=>k*(if i=b then 1 else 0)) m=k*(if y b=m then 1 else 0):=by refine rD n ?_ ?_ ?_ ?_;show(if y 0=m then k*1 else 0)+(if y 1=m then k*0 else 0)+(if y 2=m then k*0 else 0)+(if y 3=m then k*0 else 0)=_;rw[zR,lJ,lJ,lJ];simp only[qz];show(if y 0=m then k*0 else 0)+(if y 1=m then k*1 else 0)+(if y 2=m then k*0 else 0)+(if y 3=m then k*0 else 0)=_;rw[zR,lJ,lJ,lJ];simp only[qz,qA];show(if y 0=m then k*0 else 0)+(if y 1=m then k*0 else 0)+(if y 2=m then k*1 else 0)+(if y 3=m then k*0 else 0)=_;rw[zR,lJ,lJ,lJ];simp only[qz,qA];show(if y 0=m then k*0 else 0)+(if y 1=m then k*0 else 0)+(if y 2=m then k*0 else 0)+(if y 3=m then k*1 else 0)=_;rw[zR,lJ,lJ,lJ];simp only[qA]
def UR(y:Nat->Nat)(n:c<4)(q:p<4)(k:Int)(m:Nat):aS y (λi=>k*d' i c p) m=k*((if y c=m then 1 else 0) -(if y p=m then 1 else 0)):=by
 have d:(λi=>k*d' i c p)=λi=>k*(if i=c then 1 else 0)+(-k)*(if i=p then 1 else 0):=funext λi=>by unfold d';rw[O1,GG];rfl
 rw[d,JV,JW y n,JW y q,O1,GG];rfl
def C0(y:Nat->Nat)(d:List Nat)(n:c<4)(q:p<4)(k m:Nat):aS y (ed<|dF d k c p) m%3=(aS y (ed d) m+k*((if y c=m then 1 else 0) -(if y p=m then 1 else 0)))%3:=by
 rw[<-UR y n q,<-JV];refine UQ y _ _ (λi e=>?_) m;have:ed (dF d k c p) i=(ed d i+k*d' i c p)%3:=by refine rD e ?_ ?_ ?_ ?_<;>exact og<|sd _ z
 rw[this];exact Int.emod_emod ..
def s_:iU y n=ah↔∀m,m<4->aS y n m%3=0:=by unfold iU;rw[bG];exact⟨λj m ag=>by simpa using j m<|bl.mpr ag,λj m ag=>by simpa using j m<|bl.mp ag⟩
def I5(g:List Nat)(n:c<4)(q:p<4)(d:y c=y p)(k:Nat):iU y (ed<|dF g k c p)=iU y (ed g):=by
 have i:∀m,aS y (ed<|dF g k c p) m%3=aS y (ed g) m%3:=λm=>by rw[C0 y g n q,d,Int.sub_self,xG,qz]
 rw[gQ,s_,s_];exact⟨λj m ag=>by rw[<-i];exact j m ag,λj m ag=>by rw[i];exact j m ag⟩
def CZ(y:Nat->Nat)(n:Nat->Int)(h:y c≠y p)(m:Nat):aS (fP y c p) n m=if m=y c then aS y n (y c)+aS y n (y p)else if m=y p then 0 else aS y n m:=by
 have g:∀i,(if fP y c p i=m then n i else 0)=if m=y c then(if y i=y c then n i else 0)+(if y i=y p then n i else 0)else if m=y p then 0 else if y i=m then n i else 0:=λi=>by rw[n1];by_cases s:y i=y p;rw[if_pos s];by_cases l:m=y c;rw[if_pos l.symm,if_pos l,if_neg<|s▸h.symm,if_pos s,qA];rw[if_neg<|nq l,if_neg l];by_cases d:m=y p;rw[if_pos d];rw[if_neg d,if_neg λj=>d<|j.symm.trans s];rw[if_neg s];by_cases l:m=y c;rw[if_pos l,if_neg s,qz,l];rw[if_neg l];by_cases d:m=y p;rw[if_pos d,if_neg λj=>s<|j.trans d];rw[if_neg d]
 unfold aS;rw[g,g,g,g];by_cases l:m=y c;rw[if_pos l,if_pos l,if_pos l,if_pos l,if_pos l];exact KW;rw[if_neg l,if_neg l,if_neg l,if_neg l,if_neg l];by_cases d:m=y p;rw[if_pos d,if_pos d,if_pos d,if_pos d,if_pos d];rfl;rw[if_neg d,if_neg d,if_neg d,if_neg d,if_neg d]
def Aq[Decidable a](j:k=true↔a):fG k=if a then 1 else 0:=by induction k using bz with|true=>rw[if_pos<|j.mp rfl];rfl|false=>rw[if_neg λq=>by have:=j.mpr q;cases this];rfl
def adp(r a:Int):(if(r+a)%3=0 then(1:Int)else 0)=(if(r+0)%3=0/\(a -0)%3=0 then 1 else 0)+(if(r+1)%3=0/\(a -1)%3=0 then 1 else 0)+(if(r+2)%3=0/\(a -2)%3=0 then 1 else 0):=by
 rw[sb r a,sb r 0,sb r 1,sb r 2,O5 a 0,O5 a 1,O5 a 2];revert r a;have y:∀s∈[(0:Int),1,2],∀q∈[(0:Int),1,2],(if(s+q)%3=0 then(1:Int)else 0)=(if(s+0%3)%3=0/\(q -0%3)%3=0 then 1 else 0)+(if(s+1%3)%3=0/\(q -1%3)%3=0 then 1 else 0)+(if(s+2%3)%3=0/\(q -2%3)%3=0 then 1 else 0):=z;have w:∀m:Int,m%3∈[(0:Int),1,2]:=λm=>by
  have:m%3=0\/m%3=1\/m%3=2:=by omega
  rcases this with j|j|j<;>rw[j]<;>decide
 exactλr a=>y _ (w r) _<|w a
def Td(J:nz y)(c:List Nat)(E:d<4)(F:p<4)(l:y d≠y p):fG (iU (fP y d p)<|ed c)=fG (iU y<|ed c)+fG (iU y<|ed<|dF c 1 d p)+fG (iU y<|ed<|dF c 2 d p):=by
 have ax:=J.low d E;have I:=J.low p F;have C:∀(n:Nat->Int)(g:Int),(∀m,aS y n m%3=(aS y (ed c) m+g*((if y d=m then 1 else 0) -(if y p=m then 1 else 0)))%3)->
   (iU y n=true↔(∀m,m<4->m≠y d->m≠y p->aS y (ed c) m%3=0)/\(aS y (ed c) (y d)+g)%3=0/\(aS y (ed c) (y p) -g)%3=0):=λn g j=>by
  rw[s_]
  constructor
  intro q
  refine⟨λm ag s B=>?_,?_,?_⟩
  have:=q m ag
  rw[j m,if_neg λi=>s i.symm,if_neg λi=>B i.symm]at this
  simpa using this
  have:=q _ ax
  rw[j,if_pos rfl,if_neg λi=>l i.symm]at this
  simpa using this
  have:=q _ I
  rw[j,if_neg l,if_pos rfl,aeO,Bk,oe]at this
  exact this
  rintro⟨dO,ej,o9⟩ m ag
  rw[j m]
  by_cases s:m=y d
  subst s
  rw[if_pos rfl,if_neg λi=>l i.symm]
  simpa using ej
  by_cases B:m=y p
  subst B
  rw[if_neg l,if_pos rfl,aeO,Bk,oe]
  exact o9
  rw[if_neg λi=>s i.symm,if_neg λi=>B i.symm]
  simpa using dO m ag s B
 have G:=C (ed c) 0 λm=>by rw[O7,qz]
 have df:=C (ed<|dF c 1 d p) 1 λm=>by rw[C0 y c E F];rfl
 have b7:=C (ed<|dF c 2 d p) 2 λm=>by rw[C0 y c E F];rfl
 have H:iU (fP y d p) (ed c)=true↔(∀m,m<4->m≠y d->m≠y p->aS y (ed c) m%3=0)/\(aS y (ed c) (y d)+aS y (ed c) (y p))%3=0:=by rw[s_];constructor;intro q;refine⟨λm ag s B=>?_,?_⟩;have:=q m ag;rwa [CZ y _ l,if_neg s,if_neg B]at this;have:=q _ ax;rwa [CZ y _ l,if_pos rfl]at this;rintro⟨dO,ej⟩ m ag;rw[CZ y _ l];split;exact ej;split;rfl;exact dO m ag (by assumption) (by assumption)
 generalize aS y (ed c) (y d)=r at*;generalize aS y (ed c) (y p)=K at*;by_cases A:∀m,m<4->m≠y d->m≠y p->aS y (ed c) m%3=0;rw[Aq<|H.trans ⟨λj=>j.2,λj=>⟨A,j⟩⟩,Aq<|G.trans ⟨λj=>j.2,λj=>⟨A,j⟩⟩,Aq<|df.trans ⟨λj=>j.2,λj=>⟨A,j⟩⟩,Aq<|b7.trans ⟨λj=>j.2,λj=>⟨A,j⟩⟩];exact adp r K;have D:∀k:Bool,(k=true->False)->fG k=0:=λk j=>by induction k using bz with|false=>rfl|true=>exact(j rfl).elim
 rw[D _ λq=>A (H.mp q).1,D _ λq=>A (G.mp q).1,D _ λq=>A (df.mp q).1,D _ λq=>A (b7.mp q).1];rfl
def CN(j:r y=av):cu (y+1) r=cu y r:=by unfold cu;rw[sl,Pb,iM,j];simp
def CM(y:Nat)(r:cT):cu y r<=y:=ao (mw ..) (by simp)
def aek(ab:Nat)(j:ab<=3):27=3^(3 -ab)->ab=0:=(by decide:∀ab,ab<4->27=3^(3 -ab)->ab=0) ab<|hC j
def Fn(f:kg n):dm n ec=0:=by have s:=wQ f ec;have:rL n ec=27:=congrArg sk (xJ.mpr λg Z=>NB n _:(hG.filter λg=>i5 n ec<|jg g)=hG);exact aek _ s.1<|this▸s.2
def Bd(ax:s<3)(j:((s:Nat):Int)%3=0):s=0:=uI<|(xF (fR s)<|lB.mpr ax).symm.trans j
def US(a q w l:Nat):aS id (ed [a,q,w,l]) 0=a/\aS id (ed [a,q,w,l]) 1=q/\aS id (ed [a,q,w,l]) 2=w/\aS id (ed [a,q,w,l]) 3=l:=by refine⟨show(a:Int)+0+0+0=a from ?_,show(0:Int)+q+0+0=q from ?_,show(0:Int)+0+w+0=w from ?_,show(0:Int)+0+0+l=l from ?_⟩<;>simp only[qz,qA]
def Wt(n:List (Nat×Nat)):kg n->∀t,tx t->(((gD n).count t:Nat):Int)=cM (aH n.length).reverse ec λa=>(-1)^(n.length -cu n.length a)*(fG (iU (d0 n a)<|ed t)*3^(cu n.length a -dm n a)):=by
 induction n using pJ with
 |h0=>
  intro _ t F;obtain⟨b,q,w,l,rfl,ax,N,c,O⟩:=F;show(((gD []).count [b,q,w,l]:Nat):Int)=(-1)^0*(fG (iU id<|ed [b,q,w,l])*3^(0 -dm [] ec));rw[Nat.zero_sub,sg,sg,sf,oe];have:iU id (ed [b,q,w,l])=([0,0,0,0]==[b,q,w,l]):=by rw[gQ,s_,beq_iff_eq];constructor;intro j;obtain⟨cD,aC,aM,bU⟩:=US b q w l;have:=Bd ax<|cD▸j 0 z;have:=Bd N<|aC▸j 1 z;have:=Bd c<|aM▸j 2 z;have:=Bd O<|bU▸j 3 z;clear cD aC aM bU j ax N c O;subst_vars;rfl;intro j U _;injection j with k3 j;injection j with V j;injection j with W j;injection j with Y j;subst_vars;simp[aS,ed]
  rw[this];show(([[0,0,0,0]].count [b,q,w,l]:Nat):Int)=_;rw[aeU];cases([0,0,0,0]==[b,q,w,l])<;>rfl
 |k3 n i g=>
  intro f t F;have d:kg n:=λU ag=>f U<|mx _ ag;have E:=f i<|my _ dA;have g:=g d;rw[KR,JS F i.1 i.2 _<|KP n];rw[se,g _ (AK ..),g _ (AK ..),gF,Pn,sl,GU];show _=cM (n.length::(aH n.length).reverse) ec _;show _=cM _ ec _+cM _ (br ec n.length) _;rw[m_,<-xl,<-xl];refine jx λa M=>?_;have H:a n.length=av:=M.off (by simp);have I:d0 (n++[i]) a=d0 n a:=by rw[pb,H,if_neg z]
  have P:d0 (n++[i]) (br a n.length)=fP (d0 n a) i.1 i.2:=by
   rw[pb,show br a n.length n.length=ah by show(n.length==n.length||a n.length)=ah;simp,if_pos rfl];rw[uc (s:=br a n.length) (ae:=a) λk y=>?_]at⊢;show(k==n.length||a k)=a k;have:(k==n.length)=av:=by simp only[beq_eq_false_iff_ne,ne_eq];exact f' o
   rw[this];rfl
  have gO:dm (n++[i]) a=dm n a:=by unfold dm;rw[I]
  have K:=CN H;have bk:cu (n.length+1) (br a n.length)=cu n.length a+1:=by rw[pU H<|fS _,K]
  have S:dm (n++[i]) (br a n.length)=dm n a+(if d0 n a i.1=d0 n a i.2 then 0 else 1):=by rw[w4 f a (by simp),gO,I];simp
  have c:dm n a<=cu n.length a:=(AB d).rank (L:=(aH n.length).reverse) (s:=ec) ((GV _).nodup_iff.mpr Bw) (λk y=>⟨rfl,bl.mp<|uO.mp y⟩) (by
   rw[y6];exact bQ<|Fn d) M
  have R:=CM n.length a;rw[K,bk,gO,S,I,P,show n.length+1 -(cu n.length a+1)=n.length -cu n.length a from Pw ..,show n.length+1 -cu n.length a=(n.length -cu n.length a)+1 from G8 R,nc];generalize(-1:Int)^(n.length -cu n.length a)=Q;by_cases D:d0 n a i.1=d0 n a i.2;rw[if_pos D,I5 t E.1 E.2 D,I5 t E.1 E.2 D,show cu n.length a+1 -(dm n a+0)=(cu n.length a -dm n a)+1 from G8 c,nc];have:fP (d0 n a) i.1 i.2=d0 n a:=funext λaa=>by rw[n1];split;rename_i q;rw[q,D];rfl
  rw[this];generalize(3:Int)^(cu n.length a -dm n a)=J;generalize fG _=C;rw[Bk,oe,GG,<-pv C J 3,<-pv Q (C*J) 3];generalize Q*(C*J)=T;omega;rw[if_neg D,show cu n.length a+1 -(dm n a+1)=cu n.length a -dm n a from Pw ..,Td (Fs a n d) t E.1 E.2 D];generalize(3:Int)^(cu n.length a -dm n a)=J;generalize fG (iU (d0 n a)<|ed t)=C;generalize fG (iU (d0 n a)<|ed<|dF t 1 i.1 i.2)=af;generalize fG (iU (d0 n a)<|ed<|dF t 2 i.1 i.2)=Z;rw[Bk,oe,GG,Gz,Gz,GD,GD];generalize Q*(C*J)=T;rw[uF T,Int.neg_add_cancel_left]
def N6(j:d.Perm a):∀{l:cT},cM d l y=cM a l y:=by
 induction j with
 |nil=>exact rfl
 |cons i Z c=>intro l;unfold cM;rw[c,c]
 |swap i b d=>
  intro l;show cM d l y+cM d (br l i) y+(cM d (br l b) y+cM d (br (br l b) i) y)=cM d l y+cM d (br l b) y+(cM d (br l i) y+cM d (br (br l i) b) y);rw[rd l b i];exact Lv
 |trans Z t k m=>intro l;rw[k,m]
noncomputable def dk(r:Nat):cT:=λc=>r.testBit c
def y0(j:r<2^y):dk (2^y+r)=br (dk r) y:=funext λc=>by show(2^y+r).testBit c=(c==y||r.testBit c);rcases afo c y with q|q|q;rw[Nat.testBit_two_pow_add_gt q,show(c==y)=av by simp only[beq_eq_false_iff_ne,ne_eq];exact f' o];rfl;subst q;rw[Nat.testBit_two_pow_add_eq,G9 j];simp;have s:2^y+r<2^c:=cq (show 2^y+r<2^(y+1)by rw[xU,xT];exact xQ j _)<|fp z q;rw[G9 s,G9<|b4 (cy _ _) o,show(c==y)=av by simp only[beq_eq_false_iff_ne,ne_eq];exact ih o];rfl
theorem tN(y:cT->Int):∀n,((aH<|2^n).map λr=>y<|dk r).sum=cM (aH n).reverse ec y
 |0=>by
  have:dk 0=ec:=funext λc=>PG c
  show y (dk 0)+0=y ec
  rw[this,qz]
 |n+1=>by
  rw[sl,GU]
  show _=cM (aH n).reverse ec y+cM (aH n).reverse (br ec n) y
  rw[xU,xT,Pp,ig,List.sum_append,dG,tN y n,m_,<-tN (λr=>y<|br r n) n]
  congr 2
  refine jb λr x=>?_
  show y (dk<|2^n+r)=_
  rw[y0<|bl.mp x]
def bC(n:List (Nat×Nat)):Nat:=dm n<|dp ec<|aH n.length
def wL(y:Nat):(aH y).reverse.Nodup:=(GV _).nodup_iff.mpr Bw
def AA(f:kg n)(cg:d.Nodup)(a:∀k,k∈d↔k<n.length)(x:eL d ec m):dm n m<=cu n.length m/\dm n m<=bC n/\cu n.length m<=n.length/\bC n<=3/\bC n<=n.length:=by
 have r:=(AB f).xu m d;rw[x.all]at r;have b:dp ec d=dp ec (aH n.length):=funext λc=>by show(d.contains c||ec c)=((aH n.length).contains c||ec c);congr 1;rw[gQ,fy,fy,a,bl]
 have t:=Fn f;have q:∀l,eL d ec l->dm n l<=cu n.length l:=λl j=>(AB f).rank cg (λk y=>⟨rfl,(a k).mp y⟩) (show dm n ec<=_ by rw[t];exact cO _) j;refine⟨q m x,by rw[b]at r;exact r,CM _ _,(wQ f _).1,?_⟩;have p:∀(d:List Nat)(l:cT),eL d l (dp l d):=λd=>by induction d with|nil=>exactλl=>oA l|cons w d g=>exactλl=>.inr (by rw[<-vC];exact g _)
 have:=q _<|p d ec;rw[b]at this;exact ao this<|CM _ _
def iL(n:List (Nat×Nat))(a b:Int):Int:=((aH<|2^n.length).map λr=>j6 (dm n) n.length (bC n) a b<|dk r).sum
def wD(y k:Nat):k∈(aH y).reverse↔k<y:=by rw[uO,bl]
def MF(d:Nat):(-1:Int)^d*(-1)^d=1:=by rw[<-O0];exact aeK
def UZ{f af k l s q:Int}(i:3*k=s*q)(b:l*l=1):3*(f*af*k)=f*l*s*(l*q*af):=by rw[show f*l*s*(l*q*af)=l*l*(f*af*(s*q))by ac_rfl,b,sf,OZ,i]
def UK(f:kg n):3*(((hG.filter λk=>qi n<|jg k).length:Nat):Int)=(-1)^bC n*3^(4 -bC n)*iL n (-2) 0:=by unfold iL;rw[tN,UJ f (wL _)<|wD _,<-pk,<-pk];refine jx λj x=>?_;obtain⟨s,l,h,p,Z⟩:=AA f (wL _) (wD _) x;unfold j6;generalize dm n j=w at*;generalize bC n=t at*;obtain⟨d,i⟩:∃d,cu n.length j=w+d:=⟨_,(qF s).symm⟩;rw[i,so,Bn,show((0:Int) -1)=-1 by rfl,show((-2:Int) -1)=-3 by rfl];generalize(-1:Int)^d=af;obtain⟨e,rfl⟩:=Py ‹w<=t›;have h:w+e<=3:=o;rw[so,Bn (-1) w e,show(-3:Int)^e=(-1)^e*3^e from O0 (a:=-1) (b:=3)];refine UZ ?_<|MF e;rw[<-Bn,Nat.sub_add_eq,oj<|PA<|e6 w e▸ao h z,show 4 -w=3 -w+1 from G8<|ao (cv w e) h,nc,uH]
def Wu(f:kg a):(((gD a).count [0,0,0,0]:Nat):Int)=(-1)^(a.length -bC a)*iL a 0 (-2):=by
 unfold iL;rw[tN,Wt a f _ ⟨0,0,0,0,rfl,z,z,z,z⟩,<-pk];refine jx λb B=>?_;obtain⟨s,J,L,M,N⟩:=AA f (wL _) (wD _) B;have q:iU (d0 a b) (ed [0,0,0,0])=ah:=s_.mpr λP Z=>by have:∀i,ed [0,0,0,0] i=0:=λi=>(G4 i 4).elim (λj=>rD j rfl rfl rfl rfl) λj=>(congrArg (λO:Option Nat=>((O.getD 0:Nat):Int))<|xK j);unfold aS;rw[this,this,this,this];(repeat' split)<;>rfl
 rw[q];unfold j6;generalize dm a b=w at*;generalize bC a=t at*;generalize cu a.length b=C at*;generalize a.length=y at*;obtain⟨d,rfl⟩:∃d,C=w+d:=⟨C -w,by exact(qF o).symm⟩;obtain⟨p,rfl⟩:∃p,t=w+p:=⟨t -w,by exact(qF o).symm⟩;obtain⟨k,rfl⟩:∃k,y=w+d+k:=⟨y -(w+d),by exact(qF o).symm⟩;rw[so,so,so];obtain⟨j,A⟩:=Py<|Nat.le_of_add_le_add_left<|jE w d k▸‹w+p<=w+d+k›;rw[jE w d k,Nat.add_sub_add_left,A,so,show((0:Int) -1)=-1 by rfl,show((-2:Int) -1)=(-1)*3 by rfl,O0];show(-1)^k*(1*(3:Int)^d)=_;have I:(-1:Int)^j*(-1)^p=(-1)^d*(-1)^k:=by rw[<-Bn,<-Bn,A,e6 j]
 have aM:=MF d;generalize(-1:Int)^j=D at*;generalize(-1:Int)^p=l at*;generalize(-1:Int)^d=af at*;generalize(-1:Int)^k=K at*;generalize(3:Int)^d=E at*;rw[<-pv D l,I,uH af K,pv K af,<-pv af af E,aM]
def eu(n:List (Nat×Nat)):List Nat:=(aH<|2^n.length).map λr=>dm n<|dk r
def ku(n:List (Nat×Nat)):List Nat:=(aH<|2^n.length).filter λr=>cu n.length (dk r)==bC n&&dm n (dk r)==bC n
def Nm(n:List (Nat×Nat)):dm n (dk<|2^n.length -1)=bC n:=by unfold bC dm;rw[uc λk y=>?_];show(2^n.length -1).testBit k=((aH n.length).contains k||av);rw[afG,Gx,gQ,fy,bl];simp
def abx(j:c<2^n.length):qk (eu n) c=(dm n (dk c)==bC n):=by have ax:=nk n.length;unfold qk eu;rw[jC,xM j,List.getLast?_eq_getElem?,jC,bZ,f9,xM<|uT (nk _) z];show(I (dm n<|dk c)==I (dm n<|dk<|2^n.length -1))=_;rw[Nm];rfl
def ac2:((aH 64).all λr=>(aH 6).all λk=>(aH 6).all λw=>!(r.testBit k&&!r.testBit w)||(aH 6).all λc=>(r -2^k+2^w).testBit c==(c==w||(!(c==k)&&r.testBit c)))=ah:=by decide+kernel
def N8(s:a.length<=6)(x:r<2^a.length)(y:k∈dr a.length r)(p:w∈el a.length r):qk (eu a) (r -2^k+2^w)=(dm a (br (h8 (dk r) k) w)==bC a):=by
 rw[abx (H8 s x y p).1];obtain⟨c,t⟩:=dP.mp y;obtain⟨g,f⟩:=dP.mp p;have q:r.testBit w=false:=by
  induction G:r.testBit w using bz with
  |false=>rfl
  |true=>
   have:w∈dr a.length r:=dP.mpr ⟨g,G⟩;simp[this]at f
 have A:r<64:=cq x<|fp (n:=2) z s;have D:=bl.mp c;have C:=bl.mp g;have B:=bG.mp ac2 r<|bl.mpr A;have l:=bG.mp B k<|bl.mpr<|cq o o;have d:=bG.mp l w<|bl.mpr<|cq o o;rw[t,q]at d;have F:d0 a (dk<|r -2^k+2^w)=d0 a (br (h8 (dk r) k) w):=uc λE b=>by simp only[OR,OQ,Bf,aey,bG]at d;exact beq_iff_eq.mp (d E<|bl.mpr<|show E<6 by exact cq o o)
 unfold dm;rw[F]
def Aa:k∈el y r↔k<y/\r.testBit k=false:=by
 unfold el;rw[dP,bl];constructor;rintro⟨s,l⟩;refine⟨s,?_⟩;induction j:r.testBit k using bz with
 |false=>rfl
 |true=>
  have:k∈dr y r:=dP.mpr ⟨bl.mpr s,j⟩;simp[this]at l
 rintro⟨s,l⟩;refine⟨s,?_⟩;have:k∉dr y r:=λq=>by rw[(dP.mp q).2]at l;cases l
 simp[this]
def wC:k∈dr y r↔k<y/\r.testBit k=ah:=by unfold dr;rw[dP,bl]
section
variable{gM:List (Nat×Nat)}(ry:gM.length<=6)(aW:List Nat)(Lq:∀i j,i<gM.length->j<gM.length->aW.getD i 0=aW.getD j 0->i=j){m:Nat}(hm:m<2^gM.length)
def lU(gM:List (Nat×Nat))(aW:List Nat)(m:Nat):List Nat:=pT aW<|j3 (eu gM) m (dr gM.length m)<|el gM.length m
include ry hm in
theorem Mv:k∈lU gM aW m↔∃f a,f∈dr gM.length m/\a∈el gM.length m/\dm gM (br (h8 (dk m) f) a)=bC gM/\(if aW.getD a 0<aW.getD f 0 then f else a)=k:=by unfold lU pT j3;rw[ez];constructor;rintro⟨b,ax,i⟩;rw[Bu]at ax;obtain⟨f,s,ax⟩:=ax;rw[ez]at ax;obtain⟨a,l,rfl⟩:=ax;obtain⟨d,n⟩:=dP.mp l;rw[N8 ry hm s d,beq_iff_eq]at n;exact⟨f,a,s,d,n,i⟩;rintro⟨f,a,s,l,d,i⟩;refine⟨(f,a),Bu.mpr ⟨f,s,ez.mpr ⟨a,dP.mpr ⟨l,?_⟩,rfl⟩⟩,i⟩;rw[N8 ry hm s l,beq_iff_eq];exact d
include ry hm in
theorem TU(y:k<gM.length)(c:m.testBit k=ah):(lU gM aW m).contains k=oE (dm gM) gM.length (bC gM) (λi=>aW.getD i 0) (dk m) k:=by rw[gQ,fy,Mv ry aW hm];unfold oE;rw[xI];constructor;rintro⟨f,a,s,l,d,g⟩;split at g;rename_i t;subst g;obtain⟨n,b⟩:=Aa.mp l;refine⟨a,bl.mpr n,?_⟩;simp only[bY,decide_eq_true_eq,beq_iff_eq,ew];exact⟨⟨t,b⟩,d⟩;subst g;rw[(Aa.mp l).2]at c;cases c;rintro⟨j,p,q⟩;simp only[bY,decide_eq_true_eq,beq_iff_eq,ew]at q;exact⟨k,j,wC.mpr ⟨y,c⟩,Aa.mpr ⟨bl.mp p,q.1.2⟩,q.2,if_pos q.1.1⟩
include ry hm Lq in
theorem TV(y:k<gM.length)(c:m.testBit k=av):(lU gM aW m).contains k=oF (dm gM) gM.length (bC gM) (λi=>aW.getD i 0) (dk m) k:=by rw[gQ,fy,Mv ry aW hm];unfold oF;rw[xI];constructor;rintro⟨f,a,s,l,d,g⟩;obtain⟨n,b⟩:=wC.mp s;split at g;subst g;rw[b]at c;cases c;rename_i t;subst g;refine⟨f,bl.mpr n,?_⟩;simp only[bY,decide_eq_true_eq,beq_iff_eq];refine⟨⟨?_,b⟩,d⟩;have:=Lq f a n y;rcases G4 (aW.getD f 0) (aW.getD a 0)with q|q;exact q;have:=this (by omega);subst this;rw[b]at c;cases c;rintro⟨j,p,q⟩;simp only[bY,decide_eq_true_eq,beq_iff_eq]at q;exact⟨j,k,wC.mpr ⟨bl.mp p,q.1.2⟩,Aa.mpr ⟨y,c⟩,q.2,if_neg<|afm q.1.1⟩
end
def adP(B:d.Perm a):r5 w i f s j b d c=r5 w i f s j b a c:=by unfold r5;induction B with|nil=>rfl|cons A Z q=>rw[Ph,Ph,q]|swap A C d=>simp only[Ph];rw[OZ]|trans Z t k l=>rw[k,l]
theorem OE:∀d:List Nat,r5 w c f s e b d a=e^(d.filter λk=>a k&&!oE w c f s a k).length*b^(d.filter λk=>!a k&&!oF w c f s a k).length
 |[]=>by
  show(1:Int)=_
  rw[Pe,Pe]
  show(1:Int)=e^0*b^0
  rw[sg,sg];rfl
 |k::d=>by
  show p1 w c f s e b a k*r5 w c f s e b d a=_
  rw[OE d,iM,iM]
  unfold p1
  induction g:a k using bz with
  |true=>
   induction q:oE w c f s a k using bz with
   |true=>simp
   |false=>
    simp only[OR,OQ,if_true,j8,if_false,Bf,aex,gG];rw[nc,<-pv,uH e]
  |false=>
   induction q:oF w c f s a k using bz with
   |true=>simp
   |false=>
    simp only[OR,OQ,if_true,j8,if_false,Bf,aex,gG];rw[nc,OZ,uH b]
def aaT(s:n.length<=6){aW:List Nat}(p:∀a w,a<n.length->w<n.length->aW.getD a 0=aW.getD w 0->a=w)(f:r<2^n.length)(A b:Int)(t:d.Perm (aH n.length)):r5 (dm n) n.length (bC n) (λa=>aW.getD a 0) A b d (dk r)=A^(hv n.length (eu n) aW r).1*b^(hv n.length (eu n) aW r).2:=by
 rw[adP t,OE];have aC:((aH n.length).filter λk=>dk r k&&!oE (dm n) n.length (bC n) (λa=>aW.getD a 0) (dk r) k)=k8 (dr n.length r) (lU n aW r):=by unfold k8;rw[show dr n.length r=(aH n.length).filter λk=>r.testBit k from rfl,Pd];refine si λk e=>?_;rw[aev];show(!oE _ _ _ _ _ _&&r.testBit k)=(!(lU n aW r).contains k&&r.testBit k);induction q:r.testBit k using bz with|true=>rw[TU s aW f (bl.mp e) q]|false=>rw[Gw,Gw]
 have aM:((aH n.length).filter λk=>!dk r k&&!oF (dm n) n.length (bC n) (λa=>aW.getD a 0) (dk r) k)=k8 (el n.length r) (lU n aW r):=by
  unfold k8;rw[show el n.length r=(aH n.length).filter λk=>!(dr n.length r).contains k from rfl,Pd];refine si λk e=>?_;have e:=bl.mp e;have g:(dr n.length r).contains k=r.testBit k:=by rw[gQ,fy,wC];exact⟨λl=>l.2,λl=>⟨e,l⟩⟩
  rw[g,aev];show(!oF _ _ _ _ _ _&&!r.testBit k)=(!(lU n aW r).contains k&&!r.testBit k);induction q:r.testBit k using bz with|true=>rw[Bf,Gw,Gw]|false=>rw[TV s aW p f e q]
 rw[aC,aM];rfl
theorem H7{s:Type}(r:s->Bool)(y:s->Int):∀d:List s,((d.filter r).map y).sum=(d.map λa=>if r a=true then y a else 0).sum
 |[]=>rfl
 |a::d=>by
  rw[iM,c8,j',<-H7 r y d]
  induction r a using bz with|true=>rw[if_pos rfl,if_pos rfl,c8,j']|false=>rw[if_neg z,if_neg z,qA]
def adj(D:kg n)(O:n.length<=6){aW:List Nat}(B:∀A w,A<n.length->w<n.length->aW.getD A 0=aW.getD w 0->A=w)(H I:Int):((ku n).map λr=>H^(hv n.length (eu n) aW r).1*I^(hv n.length (eu n) aW r).2).sum=iL n H I:=by
 let d:=(aH n.length).mergeSort λf p=>decide (aW.getD p 0<=aW.getD f 0);have ax:d.Perm (aH n.length):=List.mergeSort_perm _ _;have cg:d.Nodup:=ax.nodup_iff.mpr Bw;have t:∀k,k∈d↔k<n.length:=λk=>by rw[ax.mem_iff,bl]
 have F:d.Pairwise λf p=>decide (aW.getD p 0<=aW.getD f 0)=ah:=List.pairwise_mergeSort (λf p g s l=>by simp only[decide_eq_true_eq]at*;exact ao o o) (λf p=>by simp only[mu,decide_eq_true_eq];exact afl ..) _;have cH:d.Pairwise λf p=>aW.getD p 0<aW.getD f 0:=by have E:d.Pairwise (·≠·):=cg;refine ag6 (λ{f p} K M G=>?_)<|F.and E;have s:=of_decide_eq_true G.1;rcases G4 (aW.getD p 0) (aW.getD f 0)with q|q;exact q;exact absurd (B f p ((t f).mp K) ((t p).mp M)<|nh o o) G.2
 have J:dp ec d=dp ec (aH n.length):=funext λA=>by show(d.contains A||ec A)=((aH n.length).contains A||ec A);congr 1;rw[gQ,fy,fy,t,bl]
 have Q:=Ox (AB D) n.length (bC n) (λA=>aW.getD A 0) H I d ec cg (λP G=>⟨rfl,(t P).mp G⟩) cH (λP Z w N Z=>(t w).mpr N) (by rw[Fn D,y6]) (by rw[J];rfl);unfold iL;rw[tN,<-N6 (show d.Perm (aH n.length).reverse from ax.trans (GV _).symm),<-Q,N6<|show d.Perm (aH n.length).reverse from ax.trans (GV _).symm,<-tN];unfold ku;rw[H7];congr 1;refine jb λr C=>?_;have C:=bl.mp C;rw[<-aaT O B C H I ax];unfold jM;simp only[bY,beq_iff_eq]
noncomputable def nN(q b:Nat):List (Nat×Nat):=(aH b).flatMap λw=>(aH q).map λc=>(c,w)
theorem CO(d:0<a):∀q5,nN a q5=(aH<|a*q5).map λk=>(k%a,k/a)
 |0=>rfl
 |q5+1=>by
  unfold nN
  rw[sl,Pf]
  have g:=CO d q5
  unfold nN at g
  rw[g,uS,Pp,ig,dG]
  congr 1
  simp only[px,Pg,qB]
  refine jb λc b=>?_
  have b:=bl.mp b
  show(c,q5)=((a*q5+c)%a,(a*q5+c)/a)
  rw[Nat.mul_add_mod,qH b,aft d,uQ b,afd]
theorem C_{s:Type}(n:Nat)(y e:s->Nat):∀d:List s,cJ n (d.map λc=>y c+e c)=cJ n (d.map y)+cJ n (d.map e)
 |[]=>rfl
 |c::d=>by
  simp only[c8,cJ,C_ n y e d,uR]
  exact Pr ..
theorem zd{s:Type}(n:Nat):∀d:List s,cJ n (d.map λZ=>0)=0|[]=>rfl|c::d=>by simp only[c8,cJ,zd n d,BC]
theorem Dd(n gO:Nat):∀K,cJ n ((aH K).map λk=>if k=gO then 1 else 0)=if gO<K then 2^(n*gO)else 0
 |0=>rfl
 |K+1=>by
  rw[sl,ig,zb,Dd n gO K,bZ,f9]
  show _+2^(n*K)*((if K=gO then 1 else 0)+2^n*0)=_
  by_cases j:K=gO
  subst j;simp
  rw[if_neg j]
  by_cases l:gO<K
  rw[if_pos l,if_pos<|cq o<|cv _ _];simp
  rw[if_neg l,if_neg λq=>(afn<|ni q).elim l λi=>j i.symm];simp
theorem Kc(n:Nat)(d:0<a):∀m:List (Nat×Nat),(∀q∈m,q.1<a/\q.2<b)->cJ n ((nN a b).map λg=>m.count g)=(m.map λq=>2^(n*(q.1+a*q.2))).sum
 |[]=>@λZ=>zd n _
 |q::m=>@λj=>by
  have r:=Kc n d m λs ax=>j s<|dt _ ax
  have f:=j q dA
  rw[c8,j',<-r]
  have:(nN a b).map (λg=>(q::m).count g)=(nN a b).map λg=>(if g=q then 1 else 0)+m.count g:=jb λg Z=>by rw[nd,e6];congr 1;by_cases i:g=q;subst i;simp;rw[if_neg i,if_neg<|by simpa usingλl=>i l.symm]
  rw[this,C_,CO d,dG]
  congr 1
  have y:q.1+a*q.2<a*b:=by have:=iN a<|show q.2+1<=b from f.2;exact cq (kb (Pt f.1 _)<|e6 a<|a*q.2) this
  have aM:=Dd n (q.1+a*q.2)<|a*b
  rw[if_pos y]at aM
  rw[<-aM]
  congr 1
  refine jb λk Z=>?_
  show(if(k%a,k/a)=q then 1 else 0)=_
  congr 1
  rw[eq_iff_iff]
  constructor
  rintro rfl
  have:=GZ k a
  exact this.symm.trans (e6 ..)
  rintro rfl
  show((q.1+a*q.2)%a,(q.1+a*q.2)/a)=q
  rw[Pu,qH f.1,GY _ _ d,uQ f.1,ij]
theorem Dc(n:Nat)(r:Nat×Nat->Option Nat)(d:Nat->Nat×Nat)(b:∀k q,d k=q↔r q=some k){K:Nat}:∀m:List (Nat×Nat),(∀q∈m,∀k,r q=some k->k<K)->cJ n ((aH K).map λk=>m.count<|d k)=(m.map λq=>match r q with|some k=>2^(n*k)|none=>0).sum
 |[]=>@λZ=>zd n _
 |q::m=>@λj=>by
  have c:=Dc n r d b m λs ax=>j s<|dt _ ax
  have a:=j q dA
  rw[c8,j',<-c]
  have:(aH K).map (λk=>(q::m).count<|d k)=(aH K).map λk=>(if r q=some k then 1 else 0)+m.count (d k):=jb λk Z=>by rw[nd,e6];congr 1;by_cases i:r q=some k;rw[if_pos i,if_pos<|by simpa using((b k q).mpr i).symm];rw[if_neg i,if_neg<|by simpa usingλg=>i<|(b k q).mp g.symm]
  rw[this,C_]
  congr 1
  induction i:r q using b6 with
  |none=>
   simp only[reduceCtorEq,if_false];exact zd n _
  |some gO=>
   have aM:=Dd n gO K;rw[if_pos<|a gO i]at aM;show _=2^(n*gO);rw[<-aM];congr 1;refine jb λk Z=>?_;simp only[BH];by_cases j:k=gO;rw[if_pos j.symm,if_pos j];rw[if_neg λq=>j q.symm,if_neg j]
theorem C':∀{c:List Nat},(∀d∈c,d<2^w)->∀b(j:b<c.length),cJ w c/2^(w*b)%2^w=c[b]
 |d::c,a,0,Z=>by
  have:=a d dA
  simp only[cJ,BC,afz,afg,List.getElem_cons_zero]
  rw[Pu,qH this]
 |d::c,a,b+1,j=>by
  have e:=a d dA
  have g:=C' (w:=w) (c:=c) (λm ag=>a m<|dt _ ag) b (by simpa using j)
  simp only[cJ,ae3]
  rw[<-g,show w*(b+1)=w+w*b by rw[uS];exact e6 _ _,pC,<-BA,GY _ _<|nk w,uQ e,ij]
theorem zc:∀{c:List Nat},(∀d∈c,d<2^w)->cJ w c<2^(w*c.length)
 |[]=>@λZ=>by simp[cJ]
 |d::c=>@λb=>by
  have a:=b d dA
  have g:=zc (w:=w) (c:=c) λm ag=>b m<|dt _ ag
  simp only[cJ,gG]
  rw[uS,e6,pC]
  have:2^w*cJ w c+2^w<=2^w*2^(w*c.length):=by rw[<-uS];exact iN _ g
  rw[qI<|2^(w*c.length)]
  exact cq (xQ a _) this
def Kd(j:1<=w)(h:∀d∈g,d<2^w):d6 w (cJ w g)<=g.length/\ei w (cJ w g)++dw (g.length -d6 w (cJ w g)) 0=g:=by
 have q:=zc h;have s:dn ((cJ w g:Nat):Int)<=w*g.length:=nX q;have l:d6 w (cJ w g)<=g.length:=by unfold d6;rw[afe j,Bz j];exact qE s _
 refine⟨l,aeX (by unfold ei;simp;exact qF o) λk b f=>?_⟩;rw[List.getElem_append];split;simp only[ei,Br,Bs];exact C' h k f;rename_i e;rw[List.getElem_replicate];have y:(ei w<|cJ w g).length=d6 w (cJ w g):=by unfold ei;simp
 rw[y]at e;rw[<-C' h k f,uQ];rfl;have:=zz (n:=w) (a:=cJ w g) j;rw[PF]at this;exact cq this<|fp z<|iN _<|nj o
abbrev bc(k:Nat):Nat->cY:=sW k
def nA(s:vO.lookup y=ai)(l:zI.lookup y=ai)(c:v_.lookup y=I G)(e:(ju G.sc G.params&&g.length==G.params.length)=ah)(j:aE (bc k) (a0.fn G.sc) G.own (c4 G.params g) G.body (.ret d)):bR λt Z=>(bc (k+1) t).call y g=I d:=by obtain⟨q,j⟩:=j;refine⟨q,λt i b Z=>?_⟩;show gE (jO y g) (gE (oW y g)<|(v_.lookup y).bind λG=>m4 (sW k t) G.own G.sc G.params G.body t g)=I d;unfold jO oW;rw[s,l,c];show m4 (sW k t) G.own G.sc G.params G.body t g=I d;unfold m4;rw[if_pos e,j t t b b]
def lV(s:vO.lookup y=ai)(l:zI.lookup y=I g)(b:g a=I d):bR λt Z=>(bc k t).call y a=I d:=⟨0,λt c Z Z=>by
  induction k using cN with
  |zero=>
   show gE (jO y a) (oW y a)=I d;unfold jO oW;rw[s,l];exact b
  |succ k=>
   show gE (jO y a) (gE (oW y a) _)=I d;unfold jO oW;rw[s,l];show gE (g a) _=I d;rw[b];rfl⟩
def hl(s:vO.lookup y=I g)(b:g a=I d):bR λt Z=>(bc k t).call y a=I d:=⟨0,λt c Z Z=>by
  have i:jO y a=I d:=by unfold jO;rw[s];exact b
  induction k using cN with
  |zero=>
   show gE (jO y a) (oW y a)=I d;rw[i];rfl
  |succ k=>
   show gE (jO y a) _=I d;rw[i];rfl⟩
section
variable{O:Nat->cY}{S:a0}{aK:cf}{M:List au}{σ:aG}
def aj.leaf(K:Nat)(j:∀t q,bh (O<|t+K) (q+K) S aK i=x)(ag:x=I d):aj O S aK i d:=bR.of K λt q=>(j t q).trans ag
def bO.leaf(K:Nat)(j:∀t q,fB (O<|t+K) (q+K) S aK i=x)(ag:x=I k):bO O S aK i k:=bR.of K λt q=>(j t q).trans ag
def ck.leaf(K:Nat)(j:∀a q,er (O<|a+K) (q+K) S aK k i=x)(ag:x=I g):ck O S aK k i g:=bR.of K λa q=>(j a q).trans ag
def aj.lf(K:Nat){i:aq}(d:af)(j:∀t q,bh (O<|t+K) (q+K) S aK i=I d):aj O S aK i d:=bR.of K j
def bO.lf(K:Nat){i:aq}(k:Bool)(j:∀t q,fB (O<|t+K) (q+K) S aK i=I k):bO O S aK i k:=bR.of K j
def ck.lf(K:Nat){k i:aq}(g:List af)(j:∀a q,er (O<|a+K) (q+K) S aK k i=I g):ck O S aK k i g:=bR.of K j
def Jl(S:a0)(i:aq):Bool:=l6 i&&(S.comp<|d1 i).isSome&&(jP i).isEmpty&&(cb i).ifs.isEmpty
def Jm(S:a0)(i:aq):Bool:=l6 i&&(S.comp<|d1 i).isSome&&(jP i).isEmpty&&(cb i).ifs.length==1
def Cg(j:(S.comp<|d1 i).isSome=ah):S.comp (d1 i)=some (cC S i):=by unfold cC;induction q:S.comp (d1 i)using b6 with|none=>rw[q]at j;cases j|some m=>rfl
def Cf(j:(fw (cC S i) (cb i).target d<|eK (d1 i) aK).isSome=ah):fw (cC S i) (cb i).target d (eK (d1 i) aK)=some (eP S i aK d):=by unfold eP;induction q:fw (cC S i) (cb i).target d (eK (d1 i) aK)using b6 with|none=>rw[q]at j;cases j|some m=>rfl
def aj.dW{s:Type}(d:List s)(y i:s->af)(c:Jl S e=ah)(b:ck O S aK (cb e).target (cb e).iter (d.map y))(q:∀h,(fw (cC S e) (cb e).target (y h)<|eK (d1 e) aK).isSome=ah) (ag:∀h∈d,aj O (cC S e) (eP S e aK<|y h) (b8 e)<|i h) (r:d.length<=1000000):aj O S aK e (.list<|d.map i):=by unfold Jl at c;simp only[bY,pz]at c;refine aj.comp c.1.1.1 (Cg c.1.1.2) b ?_ (by rw[bZ];exact r);rw[c.1.2,c.2];have:=eJ.map (O:=O) (S:=cC S e) (aK:=eK (d1 e) aK) (elt:=b8 e) (t:=(cb e).target) (ifs:=[]) y i (λZ=>ah) d λh n=>⟨_,Cf<|q h,dZ.nil,λZ=>ag h n⟩;rwa [xJ.mpr λZ Z=>rfl]at this
def aj.wB{s:Type}(d:List s)(y p:s->af)(k:s->Bool)(c:Jm S i=ah)(w:ck O S aK (cb i).target (cb i).iter (d.map y))(q:∀m,(fw (cC S i) (cb i).target (y m)<|eK (d1 i) aK).isSome=ah) (x:∀m∈d,bO O (cC S i) (eP S i aK<|y m) (kK i)<|k m) (ag:∀m∈d,k m=ah->aj O (cC S i) (eP S i aK<|y m) (b8 i) (p m)) (r:d.length<=1000000):aj O S aK i (.list<|(d.filter k).map p):=by
 unfold Jm at c;simp only[bY,pz,beq_iff_eq]at c;refine aj.comp c.1.1.1 (Cg c.1.1.2) w ?_ (by rw[bZ];exact ao (mw ..) r);rw[c.1.2];have:(cb i).ifs=[kK i]:=by unfold kK;match(cb i).ifs,c.2 with|[b],Z=>rfl
 rw[this];exact eJ.map y p k d λm n=>⟨_,Cf<|q m,dZ.one<|x m n,λj=>ag m n j⟩
def az.to{st:aP}(a:yT M st=ah)(ax:(σ.pure||eD d)=ah)(q:rh S (kL st) (aO st) d=I hz)(e:σ.vals hz=aX)(f:aj O S σ.plus (aO st) d):az O S M σ st (.next aX):=e▸az.asg a ax f q
def az.name(m:au)(d:af){st:aP}(a:yT M st=ah)(ax:σ.pure=ah)(q:rh S (kL st) (aO st) d=I [(m,d)])(e:σ.vals [(m,d)]=aX)(f:aj O S σ.plus (aO st) d):az O S M σ st (.next aX):=az.to a (by rw[ax];rfl) q e f
def LN(S:a0)(aK:cf)(i:aq):Bool:=(zu i).elim av λab=>(S.global ab.1&&(aK.lookup ab.1).isNone)&&((o_ ab.1 ab.2).isNone&&((n' ab.2).isNone&&(mW ab.2).elim av λb=>S.global b.1&&(aK.lookup b.1).isNone&&S.global b.2.1&&(aK.lookup b.2.1).isNone))
def tT(i:aq):List aq:=(mW<|bo i).elim [] λb=>b.2.2.1
def qf(i:aq):List aq:=(mW<|bo i).elim [] λb=>b.2.2.2
def X4(j:LN S aK i=ah):∃y q k s b,i=.Call (.Name y q) k [] s/\(S.global y&&(aK.lookup y).isNone)=ah/\o_ y k=ai/\n' k=ai/\mW k=I b/\(S.global b.1&&(aK.lookup b.1).isNone&&S.global b.2.1&&(aK.lookup b.2.1).isNone)=ah:=(eU j).elim λab n=>(Dr n.1).elim λq c=>c.elim λs i=>(eU (aY (aY (aY n.2).2).2).2).elim λb a=>⟨ab.1,q,ab.2,s,b,i,(aY n.2).1,rH (aY (aY n.2).2).1,rH (aY (aY (aY n.2).2).2).1,a.1,a.2⟩
theorem aj.la(D:LN S aK i=ah)(c:aD O S aK (tT i) Fj)(r:eo Fj=I gj)(g:aD O S aK (qf i) ds)(a:bR λt Z=>(O t).move (mN i) gj ds=I d):aj O S aK i d:=by obtain⟨y,q,k,s,b,rfl,w,A,B,x,C⟩:=X4 D;have m:tT (.Call (.Name y q) k [] s)=b.2.2.1:=pX x rfl;have l:qf (.Call (.Name y q) k [] s)=b.2.2.2:=pX x rfl;rw[m]at c;rw[l]at g;exact((c.and g).and a).succ λt E j=>fE w<|oN B<|oN A<|pX x<|fE C<|b' j.1.1<|b' r<|b' j.1.2 j.2
end
section
def hj(f p:Nat):aI .Add (J f) (J p)=I (J<|f+p):=rfl
def jw(j:p<=f):aI .Sub (J f) (J p)=I (J<|f -p):=by exact congrArg (λc=>I<|af.int c) (uJ j).symm
def j0(f:Nat)(j:0<p):aI .Mod (J f) (J p)=I (J<|f%p):=by show(if(((p:Nat):Int)!=0)=ah then I (af.int _)else ai)=_;rw[if_pos<|wR j,Bj _<|fR _,<-O2];rfl
def mQ(f:Nat)(j:0<b)(q:b<2^250):aI .FloorDiv (J f) (J b)=I (J<|f/b):=by show(if(((b:Nat):Int)!=0)&&!nr (f:Nat) (b:Nat)then I (af.int _)else ai)=_;rw[yv<|show((b:Nat):Int).natAbs<2^250 from q,wR j,if_pos rfl,Bi _<|fR _,<-Bl];rfl
def rO(n:f<2^100)(y:k<=1000):aI .Pow (J f) (J k)=I (J<|f^k):=by
 show(if decide (0<=((k:Nat):Int))&&!uV (((dn (f:Nat):Nat):Int)*(k:Nat))then I (af.int _)else ai)=_;have q:dn ((f:Nat):Int)<=100:=nX n;have s:uV (((dn (f:Nat):Nat):Int)*(k:Nat))=av:=
  decide_eq_false (ja.mpr<|gR.mpr<|ao (jF q y)<|show 100*1000<=Qd by decide)
 rw[s,if_pos (by simp),sh];unfold J;rw[mv]
def aT(c:Nat):aP:=aN (bp hy) c
def cR:a0:=a0.fn<|b9 hy
abbrev h7:=UInt64×UInt64×UInt64×UInt64
set_option genInjectivity false in
structure c6 where
 ns:List Int
 mM:Nat
 bk:Nat
 kX:Nat
 oH:Nat
 n:Nat
 bT:List Nat
 ws:List (Nat×Nat)
 s0:Nat
 f6:List Nat
 iE:List Nat
 eb:List h7
 gj:h7
 iH:h7
 D1:h7
 b0:af
 to:List (List UInt64)
 dz:List Nat
 fr:af
 ld:af
 lj:List af
 lo:af
 ap:af
noncomputable def q(x:Str)(d:af)(σ:aG):aG:=(x,.val d)::σ
noncomputable def fZ(c:Nat):Nat:=[102,105,108,115].getD c 0
def fe(s:Nat×Nat):au:=⟨⟨[fZ s.1,fZ s.2]⟩⟩
variable(v:c6)
noncomputable def pH:aG:=[("script",.val<|.list<|v.ns.map af.int)]
def dg:aG:=q "cells" (.list [J v.mM,J v.bk,J v.kX,J v.oH])<|pH v
def dx:aG:=q "count" (J v.n)<|dg v
def eZ:aG:=q "drawn" (.list<|v.bT.map J)<|dx v
def dI:aG:=q "words" (.list<|v.ws.map λs=>.str<|fe s)<|eZ v
def lp(b:List Int)(w:Nat):List Int:=lg (lg b ai (I 60) ai) (I (w:Int)) ai<|I 4
def MY{s e:Type}(y:s->e)(d:List s)(lo b st:Option Int):lg (d.map y) lo b st=(lg d lo b st).map y:=by
 unfold lg;rw[bZ];dsimp only;generalize yb (kf lo b st d.length).1 (kf lo b st d.length).2.1 (kf lo b st d.length).2.2=a;induction a with
 |nil=>rfl
 |cons c w g=>
  rw[GL,GL,jC];induction d[c]?using b6 with
  |none=>exact g
  |some m=>
   show y m::_=y m::_;rw[g]
def aci:((aH 64).all λd=>bI (yb (kf ai (I 60) ai d).1 (kf ai (I 60) ai d).2.1 (kf ai (I 60) ai d).2.2).length 63&&(aH 4).all λw=>bI (yb (kf (I (w:Int)) ai (I 4) d).1 (kf (I (w:Int)) ai (I 4) d).2.1 (kf (I (w:Int)) ai (I 4) d).2.2).length 63)=ah:=by decide+kernel
def xd{s:Type}{d:List s}(a:d.length<=63):(lg d ai (I 60) ai).length<=63/\∀w:Nat,w<4->(lg d (I (w:Int)) ai<|I 4).length<=63:=by have:=bG.mp aci d.length<|bl.mpr<|b4 o z;simp only[bY,gH,bG]at this;refine⟨ao (Pm ..) this.1,λw p=>ao (Pm ..)<|this.2 w<|bl.mpr p⟩
def jh(b:List Int)(w:Nat):Nat:=(lq<|(lp b w).map λm=>m.fmod<|10^36).toNat
theorem N4:∀d:List Int,(∀x∈d,0<=x/\x<10^36)->0<=lq d/\lq d<=d.length*10^36
 |[]=>@λZ=>⟨z,z⟩
 |x::d=>@λj=>by
  have g:=N4 d λb k=>j b<|dt _ k
  have ag:=j x dA
  simp only[lq,gG]
  refine⟨OV ag.1 g.1,?_⟩
  rw[se,Gz,show((1:Nat):Int)*10^36=10^36 from sf _,uG x]
  exact Int.add_le_add g.2<|OX ag.2
def UT(a:b.length<=63)(p:w<4):lq ((lp b w).map λm=>m.fmod<|10^36)=((jh b w:Nat):Int)/\jh b w<=63*10^36:=by
 have r:(lp b w).length<=63:=(xd (xd a).1).2 w p;have e:=N4 ((lp b w).map λm=>m.fmod<|10^36) λc k=>by obtain⟨m,Z,rfl⟩:=ez.mp k;rw[Bj _ z];exact⟨sd _ z,GA _ z⟩
 rw[bZ]at e;have l:((lp b w).length:Int)*10^36<=63*10^36:=Int.mul_le_mul_of_nonneg_right (gR.mpr r) z;exact⟨(og e.1).symm,O6.mpr<|j9 e.2 l⟩
theorem DU:∀d:List Int,qZ (d.map af.int)=I d
 |[]=>rfl
 |x::d=>by
  show(qZ<|d.map af.int).map _=_
  rw[DU d];rfl
def Kj:aq:=aO<|aT 0
def Kk:aq:=((bo<|dy<|b8 Kj).head?).getD Kj
noncomputable def F_:List (Nat×Nat):=[(0,21801),(1,108331949894),(2,34252637),(3,734)]
def L1(s:Nat×Nat):af:=.tuple [J s.1,J s.2]
def Q1(j:v.ns.length<=63)(h0:v.mM=21801+jh v.ns 0)(s:v.bk=108331949894+jh v.ns 1)(l:v.kX=34252637+jh v.ns 2)(d:v.oH=734+jh v.ns 3):az (bc 8) cR [] (pH v) (aT 0) (.next<|dg v):=by
 refine az.name "cells" (.list [J v.mM,J v.bk,J v.kX,J v.oH]) z z z z ?_;have:=aj.dW (O:=bc 8) (S:=cR) (aK:=(pH v).plus) (e:=aO<|aT 0) F_ L1 (λi=>J<|i.2+jh v.ns i.1) z (ck.lf 9 (F_.map L1) λt q=>z) (λf=>z) (λf n=>?_) z;rw[h0,s,l,d];exact this;have c:f.1<4:=by unfold F_ at n;simp only[c9,lE,or_false]at n;rcases n with rfl|rfl|rfl|rfl<;>decide
 refine aj.bin (op:=.Add) (a:=J f.2) (b:=J<|jh v.ns f.1) z (aj.leaf 9 (λt q=>z) rfl) ?_ λt=>rfl;refine aj.call (ds:=[.list<|(lp v.ns f.1).map λm=>.int<|m.fmod<|10^36]) z z ?_ ?_;rw[(z:bo (dy<|b8<|aO<|aT 0)=[Kk])];refine aD.cons z ?_ aD.nil;refine aj.dW (lp v.ns f.1) af.int (λm=>.int<|m.fmod<|10^36) z ?_ (λm=>z) (λm Z=>aj.lf 9 (.int<|m.fmod<|10^36) λt q=>z) (by have:(lp v.ns f.1).length<=63:=(xd (xd j).1).2 _ c;exact ao o z);refine ck.leaf 9 (x:=((pf (.list<|v.ns.map af.int) .none (.int 60) .none).bind λr=>pf r (J f.1) .none<|.int 4).bind<|q0 (cb Kk).target) (λt q=>z) ?_;have aC:pf (.list<|v.ns.map af.int) .none (.int 60) .none=I (.list<|(lg v.ns ai (I 60) ai).map af.int):=by rw[<-MY];exact if_pos (by rw[bZ,gH];exact ao o z)
 rw[aC,a3];have aM:pf (.list<|(lg v.ns ai (I 60) ai).map af.int) (J f.1) .none (.int 4)=I (.list<|(lp v.ns f.1).map af.int):=by unfold lp;show(if bI ((lg v.ns ai (I 60) ai).map af.int).length 1000000=ah then I (af.list<|lg ((lg v.ns ai (I 60) ai).map af.int) (I (f.1:Int)) ai<|I 4)else ai)=_;rw[if_pos (by rw[bZ,gH];have:=(xd j).1;exact ao o z),MY]
 rw[aM];rfl;refine hl (k:=8) (g:=vJ) z ?_;show(qZ<|(lp v.ns f.1).map λm=>af.int<|m.fmod<|10^36).map (λa6=>af.int<|lq a6)=_;rw[show(lp v.ns f.1).map (λm=>af.int<|m.fmod<|10^36)=((lp v.ns f.1).map λm=>m.fmod<|10^36).map af.int by rw[dG];rfl,DU,kc,(UT j c).1];rfl
def n7(j:y<=1000):(I [J y]).bind eo=I ((aH y).map J):=by rw[a3];exact o' j
def Ra(j:v.n=4+v.mM%3):az (bc 8) cR [] (dg v) (aT 1) (.next<|dx v):=by
 have i:((aI .Mod (J v.mM)<|J 3).bind λp=>aI .Add (J 4) p)=I (J v.n):=by rw[j0 _ z,a3,hj,j]
 exact az.name "count" (J v.n) z z z z<|aj.leaf 9 (λt q=>z) i
def Ro(s:v.n<=6)(j:v.bT=(aH v.n).map λk=>v.mM/3/13^k%13):az (bc 8) cR [] (dx v) (aT 2) (.next<|eZ v):=by refine az.name "drawn" (.list<|v.bT.map J) z z z z ?_;rw[j,dG];refine aj.dW (aH v.n) J _ z (ck.leaf 9 (x:=(I [J v.n]).bind eo) (λt q=>(by kernel_rfl))<|n7<|ao o z) (λf=>z) (λk y=>?_) (by simp;exact ao o z);have y:=bl.mp y;refine aj.leaf 9 (x:=((aI .FloorDiv (J v.mM)<|J 3).bind λf=>(aI .Pow (J 13)<|J k).bind λp=>aI .FloorDiv f p).bind λf=>aI .Mod f<|J 13) (λt q=>z) ?_;have c:13^k<=13^6:=fp z<|ao (d_ o) o;have h0:0<13^k:=BD z;rw[mQ _ z z,a3,rO z<|ao (d_ o)<|ao o z,a3,mQ _ h0<|b4 c z,a3,j0 _ z];rfl
def jY{g:List Nat}(a:w<g.length)(r:g.length<=1000):c7 (.list<|g.map J) (J w)=I (J<|g.getD w 0):=by rw[zU a r,j_,hb a];rfl
noncomputable def p3:af:=.str "fils"
def nZ(c:Nat):au:=⟨⟨[fZ c]⟩⟩
def LW(j:c<4):c7 p3 (J c)=I (.str<|nZ c):=by exact rD j z z z z
def Sk(c w:Nat):aI .Add (.str<|nZ c) (.str<|nZ w)=I (.str<|fe (c,w)):=z
noncomputable def yy(a:List Nat)(k:Nat):Nat×Nat:=((k+a.getD k 0)%4,(k+a.getD k 0+1+a.getD k 0/4)%4)
def RB(s:v.n<=6)(l:v.bT.length=v.n)(j:v.ws=(aH v.n).map (yy v.bT)):az (bc 8) cR [] (eZ v) (aT 3) (.next<|dI v):=by
 refine az.name "words" (.list<|v.ws.map λm=>.str<|fe m) z z z z ?_;rw[j,dG];refine aj.dW (aH v.n) J _ z (ck.leaf 9 (x:=(I [J v.n]).bind eo) (λt q=>(by kernel_rfl))<|n7<|ao o z) (λf=>z) (λk y=>?_) (by simp;exact ao o z);have y:=bl.mp y;have i:(((((c7 (.list<|v.bT.map J)<|J k).bind λd=>aI .Add (J k) d).bind λf=>aI .Mod f<|J 4).bind λd=>c7 p3 d).bind λf=>
  (((((c7 (.list<|v.bT.map J)<|J k).bind λd=>aI .Add (J k) d).bind λf=>aI .Add f<|J 1).bind λf=>((c7 (.list<|v.bT.map J)<|J k).bind λg=>aI .FloorDiv g<|J 4).bind λd=>aI .Add f d).bind λf=>aI .Mod f<|J 4).bind (λd=>c7 p3 d) |>.bind λd=>aI .Add f d)=I (.str<|fe<|yy v.bT k):=by
  rw[jY (kb o<|i' o)<|ao (bQ o)<|ao o z,a3,a3,hj,a3,a3,j0 _ z,a3,LW<|f_ _ z,a3,hj,a3,mQ _ z z,a3,hj,a3,j0 _ z,a3,LW<|f_ _ z,a3,Sk]
  rfl
 exact aj.leaf 14 (λt q=>z) i
end
mutual
noncomputable def y8:af->af->Bool|.none=>λp=>p.ctorIdx==0|.bool f=>λp=>if j:p.ctorIdx=1 then af.bool.elim (motive_1:=λ_=>Bool) p j λm=>f==m else av|.int f=>λp=>if j:p.ctorIdx=2 then af.int.elim (motive_1:=λ_=>Bool) p j λm=>f==m else av|.float f=>λp=>if j:p.ctorIdx=3 then af.float.elim (motive_1:=λ_=>Bool) p j λm=>f==m else av|.str f=>λp=>if j:p.ctorIdx=4 then af.str.elim (motive_1:=λ_=>Bool) p j λm=>f==m else av|.tuple f=>λp=>if j:p.ctorIdx=5 then af.tuple.elim (motive_1:=λ_=>Bool) p j λm=>y9 f m else av|.list f=>λp=>if j:p.ctorIdx=6 then af.list.elim (motive_1:=λ_=>Bool) p j λm=>y9 f m else av|.obj g f=>λp=>if j:p.ctorIdx=7 then af.obj.elim (motive_1:=λ_=>Bool) p j λd m=>nf g d&&C2 f m else av|.dict _=>λ_=>av|.ref _=>λ_=>av
noncomputable def y9:List af->List af->Bool
 |[]=>λd=>d.isEmpty
 |a::d=>λw=>match w with|[]=>av|b::w=>y8 a b&&y9 d w
noncomputable def C2:List (au×af)->List (au×af)->Bool
 |[]=>λd=>d.isEmpty
 |(m,f)::d=>λw=>match w with|[]=>av|(c,p)::w=>m==c&&y8 f p&&C2 d w
end
mutual
theorem C4:∀{f p:af},y8 f p=ah->f=p
 |.none,p,j=>by cases p<;>first|rfl|exact fT j
 |.bool Z,p,j=>by cases p<;>first|exact congrArg _ (bF j)|exact fT j
 |.int Z,p,j=>by cases p<;>first|exact congrArg _ (bF j)|exact fT j
 |.float Z,p,j=>by cases p<;>first|exact congrArg _ (bF j)|exact fT j
 |.str Z,p,j=>by cases p<;>first|exact congrArg _ (bF j)|exact fT j
 |.tuple d,p,j=>by cases p<;>first|exact congrArg _ (C3 j)|exact fT j
 |.list d,p,j=>by cases p<;>first|exact congrArg _ (C3 j)|exact fT j
 |.obj g d,p,j=>by cases p<;>first|exact fT j|exact Px (aY j).1▸congrArg _ (J1 (aY j).2)
 |.dict Z,p,j=>by cases p<;>exact fT j
 |.ref Z,p,j=>by cases p<;>exact fT j
theorem C3:∀{a p:List af},y9 a p=ah->a=p
 |[],p,j=>by cases p<;>first|rfl|exact fT j
 |a::d,p,j=>by induction p using bb with|nil=>exact fT j|cons p w=>exact C4 (aY j).1▸congrArg _ (C3 (aY j).2)
theorem J1:∀{f p:List (au×af)},C2 f p=ah->f=p
 |[],p,j=>by cases p<;>first|rfl|exact fT j
 |(m,f)::d,p,j=>by
  induction p using bb with
  |nil=>exact fT j
  |cons p w=>
   cases p with|mk c p=>exact bF (aY (aY j).1).1▸C4 (aY (aY j).1).2▸congrArg _ (J1 (aY j).2)
end
def h'(x:Option af)(d:af):Bool:=match x with|some i=>y8 i d|none=>av
def ia(j:h' x d=ah):x=some d:=by induction x using b6 with|none=>cases j|some i=>exact congrArg some<|C4 j
section
variable{O:Nat->cY}{S:a0}{M:List au}{σ:aG}
def MR(S:a0)(M:List au)(m:au)(st:aP):Bool:=(i_ st).elim av λab=>(i2 ab.1).elim av λk=>(fo k).elim av λy=>m==y.1&&(M.contains m&&(ru ab.2.1&&i3 S m))
def aaL{st:aP}(j:MR S M m st=ah):∃a i q,st=.Assign [.Name m a] i q/\M.contains m=ah/\(ru i&&i3 S m)=ah:=by obtain⟨ab,l,j⟩:=eU j;obtain⟨k,w,j⟩:=eU j;obtain⟨y,s,j⟩:=eU j;exact⟨y.2,ab.2.1,ab.2.2,by rw[OG l,m2 w,jy s,bF (aY j).1],(aY (aY j).2).1,(aY (aY j).2).2⟩
def az.fresh(m:au){st:aP}(a:MR S M m st=ah)(c:gC ds=ah)(f:aj O S σ.plus (aO st) (.list ds))(b:σ.set m (.own ds)=aX):az O S M σ st (.next aX):=by obtain⟨d,i,q,rfl,s,l⟩:=aaL a;exact b▸f.succ λt y j=>fE s<|fE l<|b' (b' j rfl)<|fE c rfl
def CB(i:aP):aq:=(A5 i).elim ie (·.2.2.1)
def CD(S:a0)(m:au)(g:iP)(st:aP):Bool:=(A5 st).elim av λab=>(fo ab.1).elim av λy=>m==y.1&&(ab.2.1==g&&i3 S m)
def IZ{st:aP}(j:CD S m g st=ah):∃a i q,st=.AugAssign (.Name m a) g i q/\i3 S m=ah:=by obtain⟨ab,l,j⟩:=eU j;obtain⟨y,s,j⟩:=eU j;exact⟨y.2,ab.2.2.1,ab.2.2.2,by rw[ad8 l,jy s,bF (aY j).1,bF (aY (aY j).2).1],(aY (aY j).2).2⟩
def az.CC(m:au){st:aP}(a:CD S m .Add st=ah)(ag:σ.lookup m=I (.own l))(k:gC ds=ah)(r:l.length+ds.length<=1000000)(f:aj O S σ.plus (CB st) (.list ds))(b:σ.set m (.own<|l++ds)=aX):az O S M σ st (.next aX):=by
 obtain⟨s,i,q,rfl,d⟩:=IZ a;have g:(gC ds&&bI (l.length+ds.length) 1000000)=ah:=by rw[k,gH.mpr r];rfl
 exact b▸f.succ λt y j=>p9 (by rw[d];decide) (b' j (by rw[ag];exact fE rfl<|b' rfl<|fE g rfl))
def az.CE(m:au)(g:iP){st:aP}(k:CD S m g st=ah)(ag:σ.lookup m=I (.val a))(f:aj O S σ.plus (CB st) b)(w:∀t,(O t).aug g a b=I d)(c:(σ.pure||eD d)=ah)(l:σ.set m (.val d)=aX):az O S M σ st (.next aX):=by obtain⟨s,i,q,rfl,r⟩:=IZ k;exact l▸f.succ λt y j=>p9 (by rw[r];decide) (b' j (by rw[ag];exact b' (w t)<|fE c rfl))
def az.loop{st:aP}(a:DV st=ah)(c:ub S σ (l2 st)=ai)(d:ck O S σ.strict (jT st) (l2 st) ds)(ax:(σ.pure||gC ds)=ah)(j:gc O S M σ (jT st) (fk st) ds w):az O S M σ st w:=by obtain⟨k,g,f,s,rfl⟩:=LK a;exact(d.and j).succ λe y j=>b' (oN c<|b' j.1<|fE ax rfl) j.2
end
def hK(c:Nat):aP:=aN (bp mn) c
def xx(c:Nat):aP:=aN (fk<|hK 5) c
def q_:a0:=a0.fn<|b9 mn
noncomputable def d3:List Nat:=[173,847,6150,6155,6156,6157,8203,8204,8205,8288,65279]++(aH 16).map (65024+·)
noncomputable def iW:List Nat:=[97,65,119808,119860,119912,120016,120172,120224,120276,120328,120380,120432]
noncomputable def iR:List Nat:=[172,174,846,848,6149,6151,6154,6158,8202,8206,8287,8289,65023,65040,65278,65280]
def oZ:List (au×af):=[("ff",J 64256),("fi",J 64257),("fl",J 64258),("ss",J 223)]
def h_(j:Nat):List Nat:=if j<27 then[d3.getD j 0]else[]
noncomputable def mU(s:Nat×Nat):Option Nat:=if s=(0,0)then I 64256 else if s=(0,1)then I 64257 else if s=(0,2)then I 64258 else if s=(3,3)then I 223 else ai
def n4(k:Nat)(s:Nat×Nat):List Nat:=[iW.getD (k%12) 0+fZ s.1 -97,iW.getD (k%12) 0+fZ s.2 -97]
def ic(k:Nat)(s:Nat×Nat):List Nat:=if 11<k then(match mU s with|some g=>[g]|none=>n4 k s)else n4 k s
noncomputable def kZ:List (Nat×Nat)->Nat->List Nat|[],_=>[]|p::r,b=>h_ (b%29)++ic (b/29%24) p++kZ r (b/696)
def r4(y:List (Nat×Nat)):af:=.list<|y.map λs=>.str<|fe s
def OO(y:List (Nat×Nat))(b:Nat):aG:=[("words",.val<|r4 y),("number",.val<|J b)]
def uB(y:List (Nat×Nat))(b:Nat):aG:=q "joined" (.dict oZ)<|OO y b
def xC(y:List (Nat×Nat))(b:Nat):aG:=q "hidden" (.list<|d3.map J)<|uB y b
def xD(y:List (Nat×Nat))(b:Nat):aG:=q "dress" (.list<|iW.map J)<|xC y b
def Gu(y:List (Nat×Nat)):aG:=[("dress",.val<|.list<|iW.map J),("hidden",.val<|.list<|d3.map J),("joined",.val<|.dict oZ),("words",.val<|r4 y)]
def Bc(y:List (Nat×Nat))(b:Nat)(aS:List Nat):aG:=("codes",.own<|aS.map J)::xD y b
noncomputable def aem:Option (af×af)->aG|none=>[]|some (k,s)=>[("kind",.val k),("word",.val s)]
def r_(y:List (Nat×Nat))(b:Nat)(aS:List Nat)(m:Option (af×af)):aG:=("number",.val<|J b)::("codes",.own<|aS.map J)::(aem m++Gu y)
def OP(y:List (Nat×Nat))(b:Nat)(aS:List Nat)(m:Option (af×af))(s:af):aG:=(r_ y b aS m).vals [("word",s)]
def uC(y:List (Nat×Nat))(b:Nat)(aS:List Nat)(m:Option (af×af))(s:af)(j:List Nat):aG:=(OP y b aS m s).set "codes"<|.own<|(aS++j).map J
def Be(y:List (Nat×Nat))(b:Nat)(aS:List Nat)(s:af)(k:Nat):aG:=("kind",.val<|J k)::("codes",.own<|aS.map J)::("word",.val s)::("number",.val<|J b)::Gu y
def uD(y:List (Nat×Nat))(b:Nat)(aS:List Nat)(s:af)(k:Nat):aG:=("codes",.own<|aS.map J)::("kind",.val<|J k)::("word",.val s)::("number",.val<|J b)::Gu y
theorem tp:∀d:List Nat,gC (d.map J)=ah|[]=>rfl|a::d=>by rw[c8];exact tp d
def yR(f p:List Nat):f.map J++p.map J=(f++p).map J:=ig.symm
def Xw(f:j<29):pf (.list<|d3.map J) (J j) (J<|j+1) .none=I (.list<|(h_ j).map J):=by
 refine ia ?_;have:((aH 29).all λj=>h' (pf (.list<|d3.map J) (J j) (J<|j+1) .none)<|.list<|(h_ j).map J)=ah:=by decide+kernel
 exact bG.mp this j<|bl.mpr f
def LZ(s:Nat×Nat)(g:s.1<4)(l:s.2<4):oZ.lookup (fe s)=(mU s).map J:=by
 have:((aH 4).all λf=>(aH 4).all λc=>match(mU (f,c)).map J with
  |some d=>h' (oZ.lookup<|fe (f,c)) d
  |none=>(oZ.lookup<|fe (f,c)).isNone)=ah:=by decide+kernel
 have:=bG.mp (bG.mp this s.1<|bl.mpr g) s.2<|bl.mpr l;induction i:(mU (s.1,s.2)).map J using b6 with|some d=>rw[i]at this;exact ia this|none=>rw[i]at this;exact afJ.mp this
def acW(j:97<=f+p):(aI .Add (J f)<|J p).bind (λm=>aI .Sub m<|J 97)=I (J<|f+p -97):=by rw[hj,a3,jw j]
def Vr(j:k<12)(c:Nat)(b:c<4):97<=iW.getD k 0+fZ c:=by
 have:((aH 12).all λk=>(aH 4).all λc=>bI 97<|iW.getD k 0+fZ c)=ah:=by decide+kernel
 have:=bG.mp (bG.mp this k<|bl.mpr j) c<|bl.mpr b;simpa using this
section
variable(ws:List (Nat×Nat))(num:Nat)(aS:List Nat)(x:Option (af×af))(p:Nat×Nat)(k:Nat)
def l8:aq:=CB<|xx 2
def abd(s:p.1<4)(l:p.2<4):aj (bc 7) q_ (Be ws num aS (.str<|fe p) k).plus (dy l8) (.list<|(n4 k p).map J):=by
 have h:(n4 k p).map J=[p.1,p.2].map λc=>J (iW.getD (k%12) 0+fZ c -97):=rfl;rw[h];refine aj.dW [p.1,p.2] (λc=>.str<|nZ c) _ z (ck.lf 9 ([p.1,p.2].map λc=>.str<|nZ c) λt q=>z) (λf=>z) (λc g=>?_) (show 2<=1000000 by exact cy _ _);have g:c<4:=by rcases c9.mp g with rfl|g;exact s;rw[c_]at g;subst g;exact l
 have aM:((((aI .Mod (J k)<|J 12).bind λd=>c7 (.list<|iW.map J) d).bind λf=>aI .Add f<|J<|fZ c).bind λf=>aI .Sub f<|J 97)=I (J<|iW.getD (k%12) 0+fZ c -97):=by rw[j0 _ z,a3,jY (show k%12<12 from f_ _ z) z,a3];exact acW<|Vr (f_ _ z) c g
 exact aj.leaf 12 (λt q=>z) aM
def adn(s:p.1<4)(l:p.2<4):bO (bc 7) q_ (Be ws num aS (.str<|fe p) k).plus (s9 l8) (decide (11<k)&&(mU p).isSome):=by
 have i:((I<|decide ((11:Int)<((k:Nat):Int))).bind λf=>if f then((I (oZ.lookup<|fe p).isSome).bind λc=>if c then(I ah)else I av)else I av)=I (decide (11<k)&&(mU p).isSome):=by rw[LZ p s l,a3,a3,Option.isSome_map];have:decide ((11:Int)<((k:Nat):Int))=decide (11<k):=decide_eq_decide.mpr lB;rw[this];cases decide (11<k)<;>cases(mU p).isSome<;>rfl
 exact bO.leaf 9 (λt q=>z) i
def adN(s:p.1<4)(l:p.2<4):aj (bc 7) q_ (Be ws num aS (.str<|fe p) k).plus l8 (.list<|(ic k p).map J):=by
 refine aj.ite z (adn ws num aS p k s l) (λj=>?_) λj=>?_;rw[bY,decide_eq_true_eq]at j;obtain⟨g,w⟩:=qL.mp j.2;have:ic k p=[g]:=by unfold ic;rw[if_pos j.1,w]
 rw[this];refine aj.list z (ds:=[J g]) ?_ (show 1<=1000000 by exact cy _ _);rw[(z:cZ (cU l8)=[((cZ<|cU l8).head?).getD l8])];exact aD.cons z (aj.leaf 9 (x:=oZ.lookup<|fe p) (λt q=>z) (by rw[LZ p s l,w];rfl)) aD.nil;have:ic k p=n4 k p:=by
  unfold ic;split;rename_i y;rw[decide_eq_true y,Bh]at j;induction a:mU p using b6 with|none=>rfl|some g=>rw[a]at j;cases j
  rfl
 rw[this];exact abd ws num aS p k s l
def DK(j:Nat):(h_ j).length<=1:=by unfold h_;split<;>simp
def Ge(k:Nat)(p:Nat×Nat):(ic k p).length<=2:=by unfold ic;split;split<;>simp[n4];simp[n4]
def adz(s:p.1<4)(k:p.2<4)(r:aS.length<=1000):aE (bc 7) q_ ["codes"] (OP ws num aS x<|.str<|fe p) (fk<|hK 5) (.next<|r_ ws (num/696) (aS++h_ (num%29)++ic (num/29%24) p)<|I (J<|num/29%24,.str<|fe p)):=by
 rw[(z:fk (hK 5)=[xx 0,xx 1,xx 2,xx 3])];have g:=DK<|num%29;have w:=Ge (num/29%24) p;refine aE.cons (aX:=uC ws num aS x (.str<|fe p)<|h_<|num%29) ?_<|aE.cons (aX:=Be ws num (aS++h_ (num%29)) (.str<|fe p)<|num/29%24) ?_<|aE.cons (aX:=uD ws num (aS++h_ (num%29)++ic (num/29%24) p) (.str<|fe p)<|num/29%24) ?_<|aE.cons ?_ aE.nil;have i:((aI .Mod (J num)<|J 29).bind λc=>((aI .Mod (J num)<|J 29).bind λf=>aI .Add f<|J 1).bind λj=>pf (.list<|d3.map J) c j .none)=I (.list<|(h_<|num%29).map J):=by rw[j0 _ z,a3,a3,hj,a3];exact Xw<|f_ _ z
 rcases x with _|⟨m,n⟩;exact az.CC "codes" (l:=aS.map J) (ds:=(h_<|num%29).map J) z z (tp _) (by rw[bZ,bZ];exact ao (ka r g) z) (aj.leaf 9 (λt q=>z) i) (by rw[yR];rfl);exact az.CC "codes" (l:=aS.map J) (ds:=(h_<|num%29).map J) z z (tp _) (by rw[bZ,bZ];exact ao (ka r g) z) (aj.leaf 9 (λt q=>z) i) (by rw[yR];rfl);have i:((aI .FloorDiv (J num)<|J 29).bind λf=>aI .Mod f<|J 24)=I (J<|num/29%24):=by rw[mQ _ z z,a3,j0 _ z]
 rcases x with _|⟨m,n⟩;exact az.to (d:=J<|num/29%24) (hz:=[("kind",J<|num/29%24)]) z z z z<|aj.leaf 9 (λt q=>z) i;exact az.to (d:=J<|num/29%24) (hz:=[("kind",J<|num/29%24)]) z z z z<|aj.leaf 9 (λt q=>z) i;exact az.CC "codes" (l:=(aS++h_ (num%29)).map J) (ds:=(ic (num/29%24) p).map J) z z (tp _) (by rw[bZ,bZ,gF];exact ao (ka (ka r g) w) z) (adN ws num _ p _ s k) (by rw[yR];rfl);exact az.CE "number" .FloorDiv (a:=J num) (b:=J 696) (d:=J<|num/696) z z (aj.lf 9 (J 696) λt q=>z) (λt=>mQ num (b:=696) z z) z z
end
theorem Mk(y:List (Nat×Nat)):∀(d:List (Nat×Nat))(b:Nat)(aS:List Nat)(m:Option (af×af)),(∀p∈d,p.1<4/\p.2<4)->aS.length+3*d.length<=1000->∃a f,gc (bc 7) q_ ["codes"] (r_ y b aS m) (jT<|hK 5) (fk<|hK 5) (d.map λp=>.str<|fe p) (.next<|r_ y a (aS++kZ d b) f)
 |[]=>@λb aS m Z t=>⟨b,m,by
  rw[show kZ [] b=[]from rfl,qB]
  exact gc.nil⟩
 |p::d=>@λb aS m j e=>by
  obtain⟨s,i⟩:=j p dA
  rw[gG]at e
  have k:=DK<|b%29
  have w:=Ge (b/29%24) p
  obtain⟨n,f,g⟩:=Mk y d (b/696) (aS++h_ (b%29)++ic (b/29%24) p) (I (J<|b/29%24,.str<|fe p)) (λq c=>j q<|dt _ c) (by rw[gF,gF,jE aS.length];exact ao (qE (hB (ka k w) _) _)<|ao (bQ<|e7 _ 3 _) e)
  refine⟨n,f,?_⟩
  rw[c8]
  rw[show kZ (p::d) b=h_ (b%29)++ic (b/29%24) p++kZ d (b/696)from rfl,<-lC,<-lC]
  exact gc.cons (aK:=[("word",.str<|fe p)]) z (adz y b aS m p s i<|ao (cv _ _) o) g
noncomputable def eT(g:Nat):au:=⟨⟨[g]⟩⟩
def Gf(aS:List Nat):af:=.tuple [.list<|aS.map λg=>.str<|eT g,.list<|aS.map λg=>.bool<|d3.contains g]
def nO(y:List (Nat×Nat))(b:Nat):List Nat:=iR.getD (b%16) 0::kZ y (b/16)
def Uq(j:g<0x110000):y4 [J g]=I (.str<|eT g):=by show(if(decide ((0:Int)<=(g:Nat))&&decide (((g:Nat):Int)<0x110000))=ah then I (af.str ⟨#[((g:Nat):Int).toNat]⟩)else ai)=_;rw[if_pos (by rw[decide_eq_true<|lB.mpr j];rfl),sh];rfl
def abH(y:List (Nat×Nat))(b:Nat)(aS:List Nat)(m:Option (af×af))(w:∀d∈aS,d<0x110000)(r:aS.length<=1000):aj (bc 7) q_ (r_ y b aS m).plus (aO<|hK 6) (Gf aS):=by
 refine aj.tuple z (ds:=[.list<|aS.map λd=>.str<|eT d,.list<|aS.map λd=>.bool<|d3.contains d]) ?_ (show 2<=1000000 by exact cy _ _);rw[show cZ (aO<|hK 6)=[((cZ<|aO<|hK 6).head?).getD l8,((cZ<|aO<|hK 6)[1]?).getD l8]by kernel_rfl];rcases m with _|⟨s,e⟩;all_goals
  refine aD.cons z ?_<|aD.cons z ?_ aD.nil
  refine aj.dW aS J _ z (ck.lf 9 (aS.map J) λt q=>z) (λf=>z) (λd j=>?_)<|ao o z
  refine aj.call (ds:=[J d]) z z ?_<|hl (k:=7) (g:=y4) z<|Uq<|w d j
  rw[(z:bo (b8<|((cZ<|aO<|hK 6).head?).getD l8)=[((bo<|b8<|((cZ<|aO<|hK 6).head?).getD l8).head?).getD l8])]
  exact aD.cons z (aj.lf 9 (J d) λt q=>z) aD.nil
  exact aj.dW aS J _ z (ck.lf 9 (aS.map J) λt q=>z) (λf=>z) (λd j=>aj.leaf 9 (x:=(mG (J d)<|.list<|d3.map J).map .bool) (λt q=>z) (by rw[tw];rfl))<|ao o z
theorem CV:∀(d:List (Nat×Nat))(b:Nat),(kZ d b).length<=3*d.length
 |[]=>@λZ=>cO _
 |p::d=>@λb=>by
  have f:=DK<|b%29
  have w:=Ge (b/29%24) p
  have:=CV d<|b/696
  show(h_ _++ic _ _++kZ d _).length<=3*d.length+3
  rw[gF,gF,e6<|3*d.length]
  exact ka (ka f w) this
def adE(j:∀s∈ws,s.1<4/\s.2<4)(r:ws.length<=6)(w:∀x∈nO ws num,x<0x110000):bR λt Z=>(bc 8 t).call "_law_typed" [r4 ws,J num]=I (Gf<|nO ws num):=by
 refine nA (k:=7) (G:=gf mn ["codes"]) z z z z ?_;show aE (bc 7) q_ ["codes"] (c4 (bH mn) [r4 ws,J num]) (bp mn) _;rw[show c4 (bH mn) [r4 ws,J num]=OO ws num by kernel_rfl,(z:bp mn=[hK 0,hK 1,hK 2,hK 3,hK 4,hK 5,hK 6])];obtain⟨m,n,ag⟩:=Mk ws ws (num/16) [iR.getD (num%16) 0] ai j<|ao (hB (iN 3 r) 1) z;have h:=CV ws<|num/16;refine aE.cons (aX:=uB ws num) ?_<|aE.cons (aX:=xC ws num) ?_<|aE.cons (aX:=xD ws num) ?_<|aE.cons (aX:=Bc ws num [iR.getD (num%16) 0]) ?_<|aE.cons (aX:=r_ ws (num/16) [iR.getD (num%16) 0] ai) ?_<|aE.cons (aX:=r_ ws m (nO ws num) n) ?_<|aE.ret ?_;exact az.name "joined" (.dict oZ) z z z z<|aj.lf 9 (.dict oZ) λt q=>z;exact az.name "hidden" (.list<|d3.map J) z z z z<|aj.lf 30 (.list<|d3.map J) λt q=>z;exact az.name "dress" (.list<|iW.map J) z z z z<|aj.lf 30 (.list<|iW.map J) λt q=>z;refine az.fresh "codes" (ds:=[J<|iR.getD (num%16) 0]) z z (aj.list z ?_<|show 1<=1000000 by exact cy _ _) z;rw[(z:cZ (aO<|hK 3)=[((cZ<|aO<|hK 3).head?).getD l8])];have i:((aI .Mod (J num)<|J 16).bind λf=>c7 (.list<|iR.map J) f)=I (J<|iR.getD (num%16) 0):=by rw[j0 _ z,a3,jY (show num%16<16 from f_ _ z) z]
 exact aD.cons z (aj.leaf 30 (λt q=>z) i) aD.nil;exact az.CE "number" .FloorDiv (a:=J num) (b:=J 16) (d:=J<|num/16) z z (aj.lf 9 (J 16) λt q=>z) (λt=>mQ num (b:=16) z z) z z;exact az.loop (ds:=ws.map λs=>.str<|fe s) z z (ck.lf 9 (ws.map λs=>.str<|fe s) λt q=>z) (by
  have:gC (ws.map λs=>af.str<|fe s)=ah:=by clear ag j r w h;induction ws with|nil=>rfl|cons s y g=>exact g
  rw[this,Bg]) ag
 exact az.ret z<|abH ws m (nO ws num) n w<|gS<|ao h<|ao (iN 3 r) z
section
variable{O:Nat->cY}{S:a0}{aK:cf}
def LM(i:aq):Bool:=(pq i).elim av λab=>qh ab.1&&bI ab.2.2.2.1.length 20&&ab.2.2.1.endLine==ab.2.2.2.2.line&&(tI ab.2.1 ab.2.2.2.1).isNone
def Zu(i:aq):au:=(pq i).elim "" (·.2.1)
inductive Ib:aq->Prop
 |mk {a4 m ap args p} (k3:(qh a4&&bI args.length 20&&ap.endLine==p.line)=true) (Lg:tI m args=none):Ib (.Call (.Attribute a4 m ap) args [] p)
def X3(j:LM i=ah):Ib i:=(eU j).elim λab n=>A_ n.1▸.mk (aY n.2).1 (rH (aY n.2).2)
theorem aj.e'(f:LM i=ah)(g:aj O S aK (Ea i) a)(b:aD O S aK (bo i) ds)(c:bR λt Z=>(O t).e' a (Zu i) ds=I d):aj O S aK i d:=by
 cases X3 f with|mk s l=>
 exact((g.and b).and c).succ λt y j=>fE s<|b' j.1.1<|oN l<|b' j.1.2 j.2
def mV{k:Nat}{f d:af}{r:au}{g:List af}(c:(match f with|.obj Z t=>av|Z=>ah)=ah)(b:ma f r g=I d):bR λe Z=>(bc k e).e' f r g=I d:=⟨0,λe y Z Z=>by
  induction k using cN with
  |zero=>exact b
  |succ k=>cases f<;>first|exact b|cases c⟩
def X5(i:aq):Bool:=(xA i).elim av λab=>ab.1==.Not
def bO.not(f:X5 i=ah)(j:bO O S aK (cU i) k):bO O S aK i (!k):=by obtain⟨ab,l,a⟩:=eU f;obtain⟨m,s,rfl⟩:∃m s,i=.UnaryOp .Not m s:=⟨_,_,bF a▸OM l⟩;exact j.succ λt y j=>n0 j rfl
def XW(i:aq):Bool:=(kM i).isSome||(fo i).isSome
def bO.ev(f:XW i=ah)(j:aj O S aK i d)(y:∀t,(O t).truth d=I k):bO O S aK i k:=by rcases OS.mp f with q|q;obtain⟨ab,l⟩:=mT q;rw[A7 l]at j ⊢;exact j.succ λt n j=>b' j<|y t;obtain⟨ab,l⟩:=mT q;rw[jy l]at j ⊢;exact j.succ λt n j=>b' j<|y t
def pS(g:uU)(i:aq):List aq:=(A6 i).elim [] λab=>if ab.1==g then ab.2.1 else[]
def dZ.As:dZ O S aK .Or [] av:=bR.rQ λt y=>rfl
def dZ.n3(j:bO O S aK i av)(k:dZ O S aK .Or b av):dZ O S aK .Or (i::b) av:=(j.and k).succ λt y j=>b' j.1 j.2
def TR(j:pS g i≠[]):∃s,i=.BoolOp g (pS g i) s:=by
 unfold pS at j ⊢;induction l:A6 i using b6 with
 |none=>rw[l]at j;exact absurd rfl j
 |some ab=>
  rw[l]at j;by_cases n:(ab.1==g)=ah;refine⟨ab.2.2,(ad9 l).trans ?_⟩;show _=PySem.Expr.BoolOp g (if(ab.1==g)=ah then ab.2.1 else[]) _;rw[if_pos n,bF n];exact absurd (if_neg n) j
def bO.or(f:pS .Or i=bA)(s:bA≠[])(j:dZ O S aK .Or bA k):bO O S aK i k:=by subst f;obtain⟨a,q⟩:=TR s;rw[q];exact j.succ λt y j=>j
end
noncomputable def rl(a6:List au):au:=⟨(a6.flatMap λm=>m.cps.toList).toArray⟩
def xk{f p:au}(j:f.cps.toList=p.cps.toList):f=p:=by cases f;cases p;exact congrArg Hl<|aeu.mp j
def Yq:∀a6:List au,Hn "" a6=rl a6:=λa6=>by
 show ahi "" a6=_;rw[StrLaws.glued_eq_join];induction a6 with
 |nil=>rfl
 |cons m w g=>
  induction w using bb with
  |nil=>exact xk (by show m.cps.toList=_;simp[rl])
  |cons b w=>
   show m++bM ""++Str.join (bM "") (b::w)=_;rw[g];refine xk ?_;show((m.cps++(bM "").cps)++(rl<|b::w).cps).toList=_;rw[show(bM "").cps=#[]by decide];simp[rl]
theorem N0:∀d:List au,sU (d.map af.str)=I d
 |[]=>rfl
 |x::d=>by
  show(sU<|d.map af.str).map _=_
  rw[N0 d];rfl
def L0(c:d.length<=100)(j:∀m∈d,m.length<=100):ma (.str "") "join" [.list<|d.map af.str]=I (.str<|rl d):=by
 show(sU<|d.map af.str).bind (λa6=>if JoinOk "" a6=ah then I (af.str<|Hn "" a6)else ai)=_;rw[N0,a3,if_pos,Yq];refine joinOk_of ?_;have e:∀d:List au,(∀m∈d,m.length<=100)->(d.map (·.length)).sum<=d.length*100:=λd=>by
  induction d with
  |nil=>intro _;exact cz _
  |cons m w g=>
   intro j;have s:=g λb k=>j b<|dt _ k;have a:=j m dA;rw[c8,j',gG,BE,e6<|w.length*100];exact ka a s
 have s:=e d j;have a:(bM "").length=0:=z;rw[a,BC];exact ao s<|ao (qJ 100 ‹d.length<=100›) z
def jr(g:Nat):au:=match js g with|some (.str l)=>l|_=>""
def UI:((aH 12).all λk=>(aH 4).all λc=>h' (js<|iW.getD k 0+fZ c -97) (.str<|eT<|fZ c)&&!d3.contains (iW.getD k 0+fZ c -97)&&ng (iW.getD k 0+fZ c -97) 0x110000)=ah:=by decide+kernel
def Ys:([((0,0),64256),((0,1),64257),((0,2),64258),((3,3),223)].all λm:(Nat×Nat)×Nat=>h' (js m.2) (.str<|fe m.1)&&!d3.contains m.2)=ah:=by decide+kernel
def Sl:(iR.all λg=>h' (js g) (.str<|eT g)&&!d3.contains g&&ng g 0x110000)=ah:=by decide+kernel
def Xv:(d3.all λg=>ng g 0x110000)=ah:=by decide+kernel
def I2(g:Nat):oB.contains (g:Int)=d3.contains g:=by
 have s:(d3.all λg=>oB.contains (g:Int))=ah:=by decide+kernel
 have l:(oB.all λa=>decide (0<=a)&&d3.contains a.toNat)=ah:=by decide+kernel
 rw[gQ];constructor;intro j;have:=bG.mp l _<|fy.mp j;simp only[bY,sh]at this;exact this.2;intro j;exact bG.mp s _<|fy.mp j
def qe(j:js g=I (.str l)):jr g=l:=by unfold jr;rw[j]
def M0(y:k<12)(b:c<4):js (iW.getD k 0+fZ c -97)=I (.str<|eT<|fZ c)/\d3.contains (iW.getD k 0+fZ c -97)=av/\iW.getD k 0+fZ c -97<0x110000:=by have:=bG.mp (bG.mp UI k<|bl.mpr y) c<|bl.mpr b;simp only[bY,ew,oi]at this;exact⟨ia this.1.1,this.1.2,this.2⟩
def Yr(j:mU s=I g):js g=I (.str<|fe s)/\d3.contains g=av/\g<0x110000:=by
 have y:∀m∈[((0,0),64256),((0,1),64257),((0,2),64258),((3,3),223)],js m.2=I (.str<|fe m.1)/\d3.contains m.2=av:=λm ag=>by have:=bG.mp Ys m ag;simp only[bY,ew]at this;exact⟨ia this.1,this.2⟩
 unfold mU at j;split at j;cases j;subst_vars;have:=y ((0,0),64256)<|.head _;exact⟨this.1,this.2,z⟩;split at j;cases j;subst_vars;have:=y ((0,1),64257)<|.tail _<|.head _;exact⟨this.1,this.2,z⟩;split at j;cases j;subst_vars;have:=y ((0,2),64258)<|.tail _<|.tail _<|.head _;exact⟨this.1,this.2,z⟩;split at j;cases j;subst_vars;have:=y ((3,3),223)<|.tail _<|.tail _<|.tail _<|.head _;exact⟨this.1,this.2,z⟩;cases j
def adD(s:Nat×Nat)(b:s.1<4)(l:s.2<4):(∀g∈ic k s,js g=some (.str<|jr g)/\d3.contains g=av/\g<0x110000/\(jr g).length<=100)/\(ic k s).flatMap (λg=>(jr g).cps.toList)=[fZ s.1,fZ s.2]:=by
 have ax:(∀g∈n4 k s,js g=some (.str<|jr g)/\d3.contains g=av/\g<0x110000/\(jr g).length<=100)/\(n4 k s).flatMap (λg=>(jr g).cps.toList)=[fZ s.1,fZ s.2]:=by have dO:=M0 (f_ k<|show 12>0 by decide) b;have ej:=M0 (f_ k<|show 12>0 by decide) l;unfold n4;refine⟨λg w=>?_,?_⟩;rcases c9.mp w with rfl|w;rw[qe dO.1];exact⟨dO.1,dO.2.1,dO.2.2,show 1<=100 by decide⟩;rw[c_]at w;subst w;rw[qe ej.1];exact⟨ej.1,ej.2.1,ej.2.2,show 1<=100 by decide⟩;simp only[px,Pg,qe dO.1,qe ej.1];rfl
 unfold ic;split;induction e:mU s using b6 with
 |none=>exact ax
 |some g=>
  have q:=Yr e;refine⟨λd a=>?_,?_⟩;rw[c_]at a;subst a;rw[qe q.1];exact⟨q.1,q.2.1,q.2.2,show 2<=100 by decide⟩;simp only[px,Pg,qe q.1];rfl
 exact ax
def iI(y:List (Nat×Nat)):List Nat:=y.flatMap λs=>[fZ s.1,fZ s.2]
def pa(l:Nat)(y:List (Nat×Nat)):au:=⟨⟨l::iI y⟩⟩
def Ll(w:g∈h_ j):d3.contains g=ah:=by unfold h_ at w;split at w;rename_i f;rw[c_]at w;subst w;have r:d3.length=27:=z;rw[fy,j_,hb<|cq o z];exact kP _;cases w
theorem JK:∀(y:List (Nat×Nat))(b:Nat),(∀p∈y,p.1<4/\p.2<4)->(∀g∈kZ y b,g<0x110000/\(d3.contains g=av->js g=I (.str<|jr g)/\(jr g).length<=100))/\((kZ y b).filter λg=>!d3.contains g).flatMap (λg=>(jr g).cps.toList)=iI y
 |[]=>@λb Z=>⟨λg w=>absurd (show g∈([]:List Nat)from w) lE,rfl⟩
 |p::y=>@λb j=>by
  obtain⟨s,l⟩:=j p dA
  obtain⟨di,dq⟩:=JK y (b/696) λd a=>j d<|dt _ a
  obtain⟨bW,cn⟩:=adD (k:=b/29%24) p s l
  unfold kZ
  refine⟨λg w=>?_,?_⟩
  rcases jD.mp w with w|w
  rcases jD.mp w with w|w
  have:=Ll w
  refine⟨?_,λq=>by rw[this]at q;cases q⟩
  have:=bG.mp Xv g<|fy.mp this
  rwa [oi]at this
  exact⟨(bW g w).2.2.1,λZ=>⟨(bW g w).1,(bW g w).2.2.2⟩⟩
  exact di g w
  rw[Pb,Pb,Pf,Pf,dq]
  have aC:(h_<|b%29).filter (λg=>!d3.contains g)=[]:=Pc.mpr λg w=>by rw[Ll w];decide
  have aM:(ic (b/29%24) p).filter (λg=>!d3.contains g)=ic (b/29%24) p:=xJ.mpr λg w=>by rw[(bW g w).2.1];rfl
  rw[aC,aM,cn]
  rfl
def Sm(y:Nat):js (iR.getD (y%16) 0)=I (.str<|eT<|iR.getD (y%16) 0)/\d3.contains (iR.getD (y%16) 0)=av/\iR.getD (y%16) 0<0x110000:=by
 have r:iR.length=16:=z;have x:y%16<iR.length:=by rw[r];exact f_ _ z
 rw[j_,hb x];have:=bG.mp Sl _<|kP x;simp only[bY,ew,oi]at this;exact⟨ia this.1.1,this.1.2,this.2⟩
def NQ(y:List (Nat×Nat))(b:Nat)(j:∀s∈y,s.1<4/\s.2<4):(∀g∈nO y b,g<0x110000/\(d3.contains g=av->js g=I (.str<|jr g)/\(jr g).length<=100))/\rl (((nO y b).filter λg=>!d3.contains g).map jr)=pa (iR.getD (b%16) 0) y:=by obtain⟨di,dq⟩:=JK y (b/16) j;obtain⟨aJ,dV,fi⟩:=Sm b;unfold nO;refine⟨λg w=>?_,?_⟩;rcases c9.mp w with rfl|w;rw[qe aJ];exact⟨fi,λZ=>⟨aJ,show 1<=100 by decide⟩⟩;exact di g w;refine xk ?_;show(aeZ _<|Bt jr _)=_;rw[iM,dV,if_pos z,c8,px,qe aJ,ae0,dq];rfl
section
def DX(a:j<l.length)(p:j<=1000):c7 (.list l) (J j)=I l[j]:=by show(kT l.length ((j:Nat):Int)).bind (λj=>l[j]?)=_;rw[zN a<|ao o z,a3,hb a]
def Yh(a:j<l.length)(p:j<=1000):c7 (.str ⟨⟨l⟩⟩) (J j)=I (.str<|eT l[j]):=by
 show(kT l.length ((j:Nat):Int)).bind (λj=>((⟨l⟩:Array Nat)[j]?).map λg=>af.str ⟨#[g]⟩)=_;rw[zN a<|ao o z,a3];have:(⟨l⟩:Array Nat)[j]?=I l[j]:=by simp[a]
 rw[this];rfl
theorem Cb(c q:Nat):∀d:List af,(∀x∈d,(iv c x).isSome=ah/\jq c x<=q)->(hP (iv c) d).isSome=ah/\pj (jq c) d<=3+d.length*(q+2)
 |[]=>@λZ=>⟨rfl,show 3<=3+0*(q+2)by exact cv _ _⟩
 |x::d=>@λj=>by
  obtain⟨s,i⟩:=j x dA
  obtain⟨di,dq⟩:=Cb c q d λm k=>j m<|dt _ k
  obtain⟨f,e⟩:=qL.mp s
  obtain⟨p,g⟩:=qL.mp di
  refine⟨by unfold hP;rw[e,a3,g];rfl,?_⟩
  show jq c x+2+pj (jq c) d<=_
  rw[gG,GX,afx,e6<|d.length*(q+2),afa 3]
  exact ka (qE (j x dA).2 2) dq
def FQ(d:∀m∈l,(iv 5 m).isSome=ah/\jq 5 m<=B)(j:l.length*(B+2)<=1000000):∃k,lH [.list l]=I (.str k):=by obtain⟨s,a⟩:=Cb 5 B l d;obtain⟨c,q⟩:=qL.mp s;refine⟨(qO c).shown,?_⟩;show((hP (iv 5) l).map qO).bind (λe=>if bI (pj (jq 5) l) 16000000=ah then I (af.str e.shown)else ai)=_;rw[q,kc,a3,if_pos<|pA<|ao a<|ao (hB j 3) z]
def Ai(k:au):fC .NotEq (.str k) (.str k)=I av:=by show(cW 9 (.str k)<|.str k).map (!·)=_;show(I<|k==k).map (!·)=_;rw[beq_self_eq_true];rfl
variable(v:c6)
def mH:aG:=q "flags" (.list<|v.f6.map λg=>.bool<|d3.contains g)<|q "signs" (.list<|v.f6.map λg=>.str<|eT g)<|dI v
def rU:aG:=q "read" (.str<|pa v.s0 v.ws)<|mH v
def AG:aG:=q "ends" (.list<|v.ws.map c3)<|rU v
structure jI:Prop where
 mb:4<=v.n
 da:v.n<=6
 len:v.ws.length=v.n
 lt:∀p∈v.ws,p.1<4/\p.2<4
 f6:v.f6=nO v.ws v.bk
 s0:v.s0=iR.getD (v.bk%16) 0
variable{v}(H:jI v)
include H
def cp(i:aq):aq:=((bo i).head?).getD i
def jI.NK:v.f6.length<=19:=by rw[H.f6];unfold nO;have:=CV v.ws<|v.bk/16;rw[H.len]at this;exact gS<|ao this<|iN 3 H.da
def RC:az (bc 8) cR [] (dI v) (aT 4) (.next<|mH v):=by obtain⟨s,l⟩:=NQ v.ws v.bk H.lt;refine az.to (d:=Gf v.f6) (hz:=[("flags",.list<|v.f6.map λg=>.bool<|d3.contains g),("signs",.list<|v.f6.map λg=>.str<|eT g)]) z z z z ?_;have w:=adE (ws:=v.ws) (num:=v.bk) H.lt (by rw[H.len];exact H.da) λg a=>(s g a).1;rw[<-H.f6]at w;refine aj.call (ds:=[r4 v.ws,J v.bk]) z z ?_ w;rw[show bo (aO<|aT 4)=[cp<|aO<|aT 4,((bo<|aO<|aT 4)[1]?).getD bJ]by kernel_rfl];exact aD.cons z (aj.lf 9 (r4 v.ws) λt q=>z)<|aD.cons z (aj.lf 9 (J v.bk) λt q=>z) aD.nil
def RF:az (bc 8) cR [] (mH v) (aT 5) (.next<|rU v):=by obtain⟨s,l⟩:=NQ v.ws v.bk H.lt;have r:=H.NK;rw[<-H.f6,<-H.s0]at l;rw[<-H.f6]at s;refine az.name "read" (.str<|pa v.s0 v.ws) z z z z ?_;rw[<-l];refine aj.e' (a:=.str "") (ds:=[.list<|((v.f6.filter λe=>!d3.contains e).map jr).map af.str]) z (aj.lf 9 (.str "") λt q=>z) ?_ (mV (k:=8) rfl<|L0 (by rw[bZ];exact ao (mw ..)<|ao o z) λm ag=>?_);rw[show bo (aO<|aT 5)=[cp<|aO<|aT 5]by kernel_rfl,dG];refine aD.cons z ?_ aD.nil;refine aj.wB v.f6 (λe=>.str<|eT e) _ (λe=>!d3.contains e) z (ck.lf 9 (v.f6.map λe=>.str<|eT e) λt q=>z) (λf=>z) (λe w=>?_) (λe w y=>?_)<|ao o z;refine bO.not z<|bO.ev (d:=.bool<|d3.contains e) z ?_ λt=>rfl;refine aj.call (ds:=[.str<|eT e]) z z ?_<|lV (k:=8) (g:=yt) z z<|congrArg (λp=>I<|af.bool p)<|I2 e;rw[(z:bo (cU<|kK<|cp<|aO<|aT 5)=[cp<|cU<|kK<|cp<|aO<|aT 5])];exact aD.cons z (aj.lf 9 (.str<|eT e) λt q=>z) aD.nil;refine aj.call (ds:=[.str<|eT e]) z z ?_ (lV (k:=8) (g:=DJ) z z ((s e w).2<|by simpa using y).1);rw[(z:bo (b8<|cp<|aO<|aT 5)=[cp<|b8<|cp<|aO<|aT 5])];exact aD.cons z (aj.lf 9 (.str<|eT e) λt q=>z) aD.nil;obtain⟨e,w,rfl⟩:=ez.mp ag;obtain⟨w,y⟩:=dP.mp w;exact((s e w).2<|by simpa using y).2
omit H in
theorem YP(y:List (Nat×Nat)):rl (y.map fe)=⟨⟨iI y⟩⟩:=xk (by
 show(aeZ _<|y.map fe)=iI y;rw[ae0];rfl)
omit H in
theorem D4:∀y:List (Nat×Nat),(iI y).length=2*y.length
 |[]=>rfl
 |p::y=>by
  have:=D4 y
  unfold iI at this ⊢
  rw[px,gF,this,gG]
  show 2+2*y.length=2*(y.length+1)
  exact e6 _ _
def Kq:List aq:=pS .Or<|aO<|aT 6
def rr:aq:=(Kq.head?).getD bJ
def Dj:aq:=(Kq[1]?).getD bJ
def RG:az (bc 8) cR [] (rU v) (aT 6) (.next<|rU v):=by
 have r:=H.NK;refine az.skip z (bO.or (bA:=[rr,Dj]) z (by simp)<|dZ.n3 ?_<|dZ.n3 ?_ dZ.As);obtain⟨A,w⟩:=FQ (l:=v.f6.map λd=>.bool<|d3.contains d) (B:=202) (λm ag=>by
  obtain⟨d,Z,rfl⟩:=ez.mp ag;exact⟨rfl,cz _⟩) (by rw[bZ];exact ao (qJ _ r) z)
 refine bO.cmp (op:=.NotEq) (a:=.str A) (b:=.str A) z ?_ ?_ λh=>Ai A;refine aj.call (ds:=[.list<|v.f6.map λd=>.bool<|d3.contains d]) z z ?_<|hl (k:=8) (g:=lH) z w;rw[(z:bo (cU rr)=[cp<|cU rr])];refine aD.cons z (aj.dW v.f6 (λd=>.str<|eT d) _ z (ck.lf 9 (v.f6.map λd=>.str<|eT d) λh q=>z) (λf=>z) (λd E=>?_)<|ao o z) aD.nil;refine aj.call (ds:=[.str<|eT d]) z z ?_<|lV (k:=8) (g:=yt) z z<|congrArg (λD=>I<|af.bool D)<|I2 d;rw[(z:bo (b8<|cp<|cU rr)=[cp<|b8<|cp<|cU rr])];exact aD.cons z (aj.lf 9 (.str<|eT d) λh q=>z) aD.nil;refine aj.call (ds:=[.list<|v.f6.map λd=>.bool<|d3.contains d]) z z ?_<|hl (k:=8) (g:=lH) z w;rw[(z:bo (dy rr)=[cp<|dy rr])];exact aD.cons z (aj.lf 9 (.list<|v.f6.map λd=>.bool<|d3.contains d) λh q=>z) aD.nil;refine bO.cmp (op:=.NotEq) (a:=.str<|pa v.s0 v.ws) (b:=.str<|pa v.s0 v.ws) z (aj.lf 9 (.str<|pa v.s0 v.ws) λh q=>z) ?_ λh=>Ai _;refine aj.bin (op:=.Add) (a:=.str<|eT v.s0) (b:=.str ⟨⟨iI v.ws⟩⟩) z ?_ ?_ λh=>?_;have y:(v.f6.map λd=>af.str<|eT d)=.str (eT v.s0)::(kZ v.ws<|v.bk/16).map λd=>.str (eT d):=by rw[H.f6,H.s0];rfl
 have i:c7 (.list<|v.f6.map λd=>af.str<|eT d) (J 0)=I (.str<|eT v.s0):=by rw[y];exact DX (l:=.str (eT v.s0)::(kZ v.ws<|v.bk/16).map λd=>.str<|eT d) (j:=0) (by simp)<|cy _ _
 exact aj.leaf 9 (λh q=>z) i;refine aj.e' (a:=.str "") (ds:=[.list<|(v.ws.map fe).map af.str]) z (aj.lf 9 (.str "") λh q=>z) ?_ (mV (k:=8) rfl (by
  rw[<-YP];exact L0 (by rw[bZ,H.len];have:=H.da;exact ao o z) λm ag=>by
   obtain⟨C,Z,rfl⟩:=ez.mp ag;exact show 2<=100 by decide))
 rw[show bo (dy<|dy Dj)=[cp<|dy<|dy Dj]by kernel_rfl,dG];exact aD.cons z (aj.lf 9 (.list<|v.ws.map λC=>.str<|fe C) λh q=>z) aD.nil;show(if bI ((eT v.s0).length+(Hl ⟨iI v.ws⟩).length) 1000000=ah then I (af.str<|eT v.s0++⟨⟨iI v.ws⟩⟩)else ai)=_;have s:(eT v.s0).length=1:=rfl;have n:(Hl ⟨iI v.ws⟩).length=(iI v.ws).length:=rfl;rw[if_pos (by rw[s,n,D4,H.len];exact pA<|ao (hB (iN 2 H.da) 1) z)];refine congrArg (λm=>I<|af.str m)<|xk ?_;show((eT v.s0).cps++(Hl ⟨iI v.ws⟩).cps).toList=_;rw[aet];rfl
omit H in
theorem LD(j:c<4):ma p3 "index" [.str<|nZ c]=I (J c):=by exact rD j z z z z
omit H in
theorem mX(n:a<2^200)(q:b<2^200):aI .Mult (J a) (J b)=I (J<|a*b):=Ac (cq n<|fp z<|cy _ _)<|cq q<|fp z<|cy _ _
omit H in
theorem L_:∀{ws:List (Nat×Nat)}{k:Nat}(j:k<ws.length),(iI ws)[2*k]?=I (fZ (ws[k]).1)/\(iI ws)[2*k+1]?=I (fZ (ws[k]).2)
 |p::ws,0,Z=>⟨rfl,rfl⟩
 |p::ws,k+1,j=>by
  have:=L_ (ws:=ws) (k:=k) (by simpa using j)
  unfold iI at this ⊢
  rw[px]
  exact this
def Dk:aq:=((cZ<|b8<|aO<|aT 7).head?).getD bJ
def Dl:aq:=((cZ<|b8<|aO<|aT 7)[1]?).getD bJ
def RH:az (bc 8) cR [] (rU v) (aT 7) (.next<|AG v):=by
 refine az.name "ends" (.list<|v.ws.map c3) z z z z ?_;have s:=H.da;have A:=H.len;have C:v.ws.map c3=(aH v.n).map λk=>c3 (v.ws.getD k (0,0)):=by have:=congrArg (Bt c3)<|B' (0,0) v.ws;rw[dG]at this;rw[<-A];exact this.symm
 rw[C];refine aj.dW (aH v.n) J _ z (ck.leaf 9 (x:=(I [J v.n]).bind eo) (λt q=>(by kernel_rfl))<|n7<|ao o z) (λf=>z) (λk y=>?_) (by simp;exact ao o z);have y:=bl.mp y;have h:k<v.ws.length:=kb o<|i' o;have B:v.ws.getD k (0,0)=v.ws[k]:=by rw[j_,hb h];rfl
 obtain⟨df,b7⟩:=L_ h;obtain⟨D,E⟩:=H.lt _<|kP h;have r:=D4 v.ws;rw[B];have d:∀w(g:Nat),w<(iI v.ws).length->(iI v.ws)[w]?=I g->c7 (.str<|pa v.s0 v.ws) (J<|w+1)=I (.str<|eT g):=λw g m i=>by have:=Yh (l:=v.s0::iI v.ws) (j:=w+1) (by simpa using m)<|ao (cq m<|ao (bQ r)<|iN 2<|ao (bQ H.len) H.da) z;rw[ae3]at this;rw[hb m]at i;cases i;exact this
 refine aj.tuple z (ds:=[J (v.ws[k]).1,J (v.ws[k]).2]) ?_ (show 2<=1000000 by exact cy _ _);rw[(z:cZ (b8<|aO<|aT 7)=[Dk,Dl])];refine aD.cons z ?_<|aD.cons z ?_ aD.nil;refine aj.e' (a:=p3) (ds:=[.str<|nZ (v.ws[k]).1]) z (aj.lf 9 p3 λt q=>z) ?_<|mV (k:=8) rfl<|LD D;rw[(z:bo Dk=[cp Dk])];have i:(((aI .Mult (J 2)<|J k).bind λf=>aI .Add f<|J 1).bind λp=>c7 (.str<|pa v.s0 v.ws) p)=I (.str<|nZ (v.ws[k]).1):=by rw[mX z<|jc (cq y H.da) z,a3,hj,a3];exact d _ _ (r▸cq (xR z:2*k<2*k+2) (iN 2 h)) df
 exact aD.cons z (aj.leaf 12 (λt q=>z) i) aD.nil;refine aj.e' (a:=p3) (ds:=[.str<|nZ (v.ws[k]).2]) z (aj.lf 9 p3 λt q=>z) ?_<|mV (k:=8) rfl<|LD E;rw[(z:bo Dl=[cp Dl])];have i:(((aI .Mult (J 2)<|J k).bind λf=>aI .Add f<|J 2).bind λp=>c7 (.str<|pa v.s0 v.ws) p)=I (.str<|nZ (v.ws[k]).2):=by rw[mX z<|jc (cq y H.da) z,a3,hj,a3];exact d _ _ (r▸iN 2 h) b7
 exact aD.cons z (aj.leaf 12 (λt q=>z) i) aD.nil
end
section
noncomputable def fF(d:h7):af:=.list [.float d.1,.float d.2.1,.float d.2.2.1,.float d.2.2.2]
noncomputable def i9:List (List Nat):=[[0,4,20],[20,0,4],[4,20,0]]
variable(v:c6)
def w8:aG:=q "hues" (.list<|v.iE.map J)<|AG v
def FH:aG:=q "lamps" (.list<|v.eb.map fF)<|w8 v
def w7:aG:=q "lights" (.list [fF v.gj,fF v.iH,fF v.D1])<|FH v
def Fw:aG:=q "mixes" v.b0<|w7 v
def Fx:aG:=q "told" (.list<|v.to.map λw=>.list<|w.map af.float)<|Fw v
def Fy:aG:=q "turns" (.list<|i9.map λw=>.list<|w.map J)<|Fx v
def Fz:aG:=q "numbers" (.list<|v.dz.map J)<|Fy v
def FA:aG:=q "front" v.fr<|Fz v
def FC:aG:=q "leads" v.ld<|FA v
def FD:aG:=q "seen" (.list v.lj)<|FC v
noncomputable def wu(c:List Nat):af:=.list<|c.map λf=>.list<|c.map λp=>.bool<|decide (p<f)
def FE:aG:=q "lesser" (wu v.dz)<|FD v
def FF:aG:=q "longer" v.lo<|FE v
def md:aG:=q "apart" v.ap<|FF v
def kG(e:List (List Nat)):af:=.list<|e.map λw=>.list<|w.map J
def lR:Option (Nat×Nat)->aG|none=>[]|some s=>[("b",.val<|J s.2),("a",.val<|J s.1)]
def qd(m:Option (Nat×Nat))(e:List (List Nat))(d:List Nat):aG:=("sizes",.val<|.list<|d.map J)::("labels",.val<|kG e)::(lR m++md v)
def Mq(s:Nat×Nat)(e:List (List Nat))(d:List Nat):aG:=("b",.val<|J s.2)::("a",.val<|J s.1)::("sizes",.val<|.list<|d.map J)::("labels",.val<|kG e)::md v
def Zi(s:Nat×Nat)(e:List (List Nat))(d:List Nat):aG:=("labels",.val<|kG e)::("b",.val<|J s.2)::("a",.val<|J s.1)::("sizes",.val<|.list<|d.map J)::md v
def Gg(c:Nat):aP:=aN (fk<|aT 24) c
def Rf:az (bc 8) cR [] (md v) (aT 23) (.next<|qd v ai [[0,1,2,3]] [0]):=az.to (d:=.tuple [kG [[0,1,2,3]],.list<|[0].map J]) (hz:=[("sizes",.list<|[0].map J),("labels",kG [[0,1,2,3]])]) z z z z<|aj.lf 40 (.tuple [kG [[0,1,2,3]],.list<|[0].map J]) λt q=>z
def Zo:aq:=dy<|aO<|Gg 0
def yM(j:f.length+p.length<=1000000):aI .Add (.list f) (.list p)=I (.list<|f++p):=if_pos (by rw[gH];exact j)
def mO(f p:Nat):fC .Eq (J f) (J p)=I (f==p):=oQ f p 9
def Zt(s:Nat×Nat)(g:List (List Nat))(d:List Nat)(j:s.1<4)(l:s.2<4)(A:g.length<=1000)(c:∀w∈g,w.length=4):aj (bc 8) cR (Mq v s g d).plus Zo (kG<|g.map λw=>k' w s.1 s.2):=by
 unfold kG;rw[dG];refine aj.dW g (λw=>.list<|w.map J) _ z (ck.lf 9 (g.map λw=>.list<|w.map J) λt q=>z) (λf=>z) (λw h=>?_)<|ao o z;have n:=c w h;show aj _ _ _ _ (.list<|(k' w s.1 s.2).map J);unfold k';rw[dG];refine aj.dW w J _ z (ck.lf 9 (w.map J) λt q=>z) (λf=>z) (λm Z=>?_)<|ao (bQ o) z;have i:(((c7 (.list<|w.map J)<|J s.2).bind λb=>fC .Eq (J m) b).bind λk=>if k then c7 (.list<|w.map J) (J s.1)else I (J m))=I (J<|if m==w.getD s.2 0 then w.getD s.1 0 else m):=by rw[jY (kb o<|i' o)<|ao (bQ o) z,a3,mO,a3,jY (kb o<|i' o)<|ao (bQ o) z];cases m==w.getD s.2 0<;>rfl
 exact aj.leaf 12 (λt q=>z) i
def ady(m:Option (Nat×Nat))(s:Nat×Nat)(e:List (List Nat))(d:List Nat)(g:s.1<4)(l:s.2<4)(h:e.length<=500)(c:∀w∈e,w.length=4)(i:d.length<=500):aE (bc 8) cR [] ((qd v m e d).vals [("b",J s.2),("a",J s.1)]) (fk<|aT 24) (.next (qd v (I s) (e++e.map λw=>k' w s.1 s.2) (d++d.map (·+1)))):=by
 have cD:(qd v m e d).vals [("b",J s.2),("a",J s.1)]=Mq v s e d:=by rcases m with _|m<;>kernel_rfl
 rw[cD,(z:fk (aT 24)=[Gg 0,Gg 1])];refine aE.cons (aX:=Zi v s (e++e.map λw=>k' w s.1 s.2) d) ?_<|aE.cons ?_ aE.nil;refine az.name "labels" (kG<|e++e.map λw=>k' w s.1 s.2) z z z z ?_;refine aj.bin (op:=.Add) (a:=kG e) (b:=kG<|e.map λw=>k' w s.1 s.2) z (aj.lf 9 (kG e) λt q=>z) (Zt v s e d g l (ao o z) c) λt=>?_;refine(yM (by rw[bZ,bZ,bZ];exact ao (ka o o) z)).trans ?_;unfold kG;rw[ig];refine az.name "sizes" (.list ((d++d.map (·+1)).map J)) z z z z ?_;refine aj.bin (op:=.Add) (a:=.list<|d.map J) (b:=.list ((d.map (·+1)).map J)) z (aj.lf 9 (.list<|d.map J) λt q=>z) ?_ λt=>?_;rw[dG];exact aj.dW d J _ z (ck.lf 9 (d.map J) λt q=>z) (λf=>z) (λk Z=>aj.leaf 9 (x:=aI .Add (J k)<|J 1) (λt q=>z)<|hj k 1)<|ao o z;refine(yM (by rw[bZ,bZ,bZ];exact ao (ka o o) z)).trans ?_;rw[ig]
def tC(e:List (List Nat))(s:Nat×Nat):List (List Nat):=e++e.map λw=>k' w s.1 s.2
noncomputable def xb(d:List Nat)(_:Nat×Nat):List Nat:=d++d.map (·+1)
theorem Mj:∀(a:List (Nat×Nat))(k:Nat)(m:Option (Nat×Nat))(e:List (List Nat))(d:List Nat),(∀p∈a,p.1<4/\p.2<4)->k+a.length<=6->e.length=2^k->d.length=2^k->(∀w∈e,w.length=4)->∃f,(m.isSome=ah\/a≠[]->f.isSome=ah)/\gc (bc 8) cR [] (qd v m e d) (jT<|aT 24) (fk<|aT 24) (a.map c3) (.next<|qd v f (a.foldl tC e)<|a.foldl xb d)
 |[]=>@λk m e d Z B C D E=>⟨m,λj=>j.resolve_right λq=>q rfl,gc.nil⟩
 |p::a=>@λk m e d j y n A c=>by
  obtain⟨s,i⟩:=j p dA
  rw[gG]at y
  have ax:2^k<=2^6:=fp z<|ao (cv _ _) o
  obtain⟨f,ag,g⟩:=Mj a (k+1) (I p) (tC e p) (xb d p) (λw c=>j w<|dt _ c) (ao (bQ<|e7 k 1 _) y) (by unfold tC;rw[gF,bZ,n,xU,xT]) (by unfold xb;rw[gF,bZ,A,xU,xT]) (λw b=>by
   unfold tC at b;rcases jD.mp b with q|q;exact c w q;obtain⟨t,h0,rfl⟩:=ez.mp q;unfold k';rw[bZ];exact c t h0)
  exact⟨f,λZ=>ag<|.inl rfl,gc.cons (aK:=[("b",J p.2),("a",J p.1)]) z (ady v m p e d s i (ao (bQ o)<|ao o z) c<|ao (bQ o)<|ao o z) g⟩
end
section
def z0(n:List (Nat×Nat)):kg n->n.foldl tC [[0,1,2,3]]=((aH<|2^n.length).map λr=>hR<|d0 n<|dk r)/\n.foldl xb [0]=(aH<|2^n.length).map λr=>cu n.length (dk r):=by
 induction n using pJ with
 |h0=>intro _;exact⟨rfl,rfl⟩
 |k3 n i g=>
  intro f;obtain⟨di,dq⟩:=g λd ag=>f d<|mx _ ag;have b:=f i<|my _ dA;rw[Bp,Bp,di,dq,gF,Pn,xU,xT,Pp];have lo:∀r,r∈aH (2^n.length)->dk r n.length=av:=λr a=>G9<|bl.mp a;have c:∀r,br (dk r) n.length n.length=ah:=λr=>by show(n.length==n.length||_)=ah;simp
  constructor;show _++_=_;rw[ig,dG,dG];congr 1;exact jb λr a=>by rw[pb,lo r a,if_neg z]
  refine jb λr a=>?_;show k' (hR<|d0 n<|dk r) i.1 i.2=hR (d0 (n++[i])<|dk<|2^n.length+r);rw[y0<|bl.mp a,pb,c,if_pos rfl,Nu b.1 b.2];rw[uc (s:=br (dk r) n.length) (ae:=dk r) λk y=>?_]at⊢;show(k==n.length||dk r k)=dk r k;have:(k==n.length)=av:=by simp only[beq_eq_false_iff_ne,ne_eq];exact f' o
  rw[this];rfl;show _++_=_;rw[ig,dG,dG];congr 1;exact jb λr a=>by rw[CN<|lo r a]
  refine jb λr a=>?_;show cu n.length (dk r)+1=cu (n.length+1) (dk<|2^n.length+r);rw[y0<|bl.mp a,pU (lo r a)<|fS _,CN<|lo r a]
variable(v:c6)(cS:Nat×Nat)
def pL:List (List Nat):=v.ws.foldl tC [[0,1,2,3]]
def mF:List Nat:=v.ws.foldl xb [0]
def FW:aG:=qd v (I cS) (pL v)<|mF v
def FX:aG:=q "ranks" (.list<|(eu v.ws).map J)<|FW v cS
def FY:aG:=q "full" (J<|bC v.ws)<|FX v cS
def xo:aG:=q "frames" (.list<|(ku v.ws).map J)<|FY v cS
variable{v}(H:jI v)
include H
def jI.ends:kg v.ws:=λi f=>H.lt i f
def jI.pow:2^v.ws.length<=64:=by rw[H.len];exact ao (fp z H.da) z
theorem jI.w5:(eu v.ws).length=2^v.ws.length:=by unfold eu;simp
def jI.YF:(pL v).length=2^v.ws.length:=by unfold pL;rw[(z0 _ H.ends).1];simp
def jI.N':(mF v).length=2^v.ws.length:=by unfold mF;rw[(z0 _ H.ends).2];simp
omit H in
theorem Kf(w:List Nat):((aH 4).filter λk=>w.contains k).length=ko w:=rfl
def Rg:∃cS,az (bc 8) cR [] (qd v ai [[0,1,2,3]] [0]) (aT 24) (.next<|FW v cS):=by have s:=H.mb;have a:=H.len;obtain⟨f,ag,j⟩:=Mj v v.ws 0 ai [[0,1,2,3]] [0] H.lt (by rw[ij,a];exact H.da) rfl rfl (λw c=>by rw[c_]at c;subst c;rfl);obtain⟨cS,rfl⟩:=qL.mp<|ag<|.inr λi=>absurd (ao s<|bQ<|a.symm.trans<|congrArg sk i) z;exact⟨cS,az.loop (ds:=v.ws.map c3) z z (ck.lf 9 (v.ws.map c3) λt q=>z) z j⟩
def Vu:aq:=cp<|dy<|b8<|aO<|aT 25
def Rh:az (bc 8) cR [] (FW v cS) (aT 25) (.next<|FX v cS):=by
 have ax:=H.pow;have d:=H.YF;have aC:eu v.ws=(pL v).map λw=>4 -ko w:=by unfold eu pL;rw[(z0 _ H.ends).1,dG];rfl
 refine az.name "ranks" (.list<|(eu v.ws).map J) z z z z ?_;rw[aC,dG];refine aj.dW (pL v) (λw=>.list<|w.map J) _ z (ck.lf 9 ((pL v).map λw=>.list<|w.map J) λt q=>z) (λf=>z) (λw c=>?_)<|ao (bQ o)<|ao o z;have e:=Df w;refine aj.bin (op:=.Sub) (a:=J 4) (b:=J<|ko w) z (aj.lf 9 (J 4) λt q=>z) ?_ λt=>jw e;refine aj.call (ds:=[.list<|((aH 4).filter λk=>w.contains k).map J]) z z ?_ (hl (k:=8) (g:=iB) z<|(qc _ (by rw[bZ,Kf];exact ao o z)).trans<|by rw[bZ,Kf]);rw[(z:bo (dy<|b8<|aO<|aT 25)=[Vu])];exact aD.cons z (aj.wB (aH 4) J J (λk=>w.contains k) z (ck.leaf 9 (x:=(I [J 4]).bind eo) (λt q=>z)<|n7<|cy _ _) (λf=>z) (λk Z=>bO.leaf 9 (x:=mG (J k)<|.list<|w.map J) (λt q=>z)<|tw k w) (λk Z Z=>aj.lf 9 (J k) λt q=>z)<|by simp) aD.nil
def jI.last:eu v.ws≠[]/\∀j:eu v.ws≠[],(eu v.ws).getLast j=bC v.ws:=by have ax:=nk v.ws.length;have r:=H.w5;refine⟨λi=>absurd (r.symm.trans<|congrArg sk i)<|ih ax,λj=>?_⟩;rw[ae4];unfold eu;simp only[Br,Bs,bZ,f9];exact Nm v.ws
def Ri:az (bc 8) cR [] (FX v cS) (aT 26) (.next<|FY v cS):=by
 have ax:=H.pow;have r:=H.w5;obtain⟨s,l⟩:=H.last;have i:c7 (.list<|(eu v.ws).map J) (.int<|-1)=I (J<|bC v.ws):=by rw[LV s<|ao (bQ o)<|ao o z,l s]
 exact az.name "full" (J<|bC v.ws) z z z z<|aj.leaf 9 (λt q=>z) i
omit H in
theorem Nb(j:y<=6):((aI .Pow (J 2)<|J y).bind λd=>(I []).bind λw=>I<|d::w).bind eo=I ((aH<|2^y).map J):=by have a:2^y<=2^6:=fp z j;rw[show aI .Pow (J 2) (J y)=I (J<|2^y)from E' y<|ao o z,a3,a3,a3];exact o'<|ao o z
def jI.get(x:m<2^v.ws.length):(eu v.ws).getD m 0=dm v.ws (dk m)/\(mF v).getD m 0=cu v.ws.length (dk m):=by unfold mF;rw[(z0 _ H.ends).2];unfold eu;constructor;rw[j_,jC,xM x];rfl;rw[j_,jC,xM x];rfl
def Rj:az (bc 8) cR [] (FY v cS) (aT 27) (.next<|xo v cS):=by
 have ax:=H.pow;have A:=H.w5;have l:=H.N';refine az.name "frames" (.list<|(ku v.ws).map J) z z z z ?_;unfold ku;rw[H.len]at*;refine aj.wB (aH<|2^v.n) J J _ z (ck.leaf 12 (x:=((aI .Pow (J 2)<|J v.n).bind λd=>(I []).bind λw=>I<|d::w).bind eo) (λt y=>z)<|Nb H.da) (λf=>z) (λh j=>?_) (λh Z Z=>aj.lf 9 (J h) λt y=>z) (by simp;exact ao o z);have j:=bl.mp j;have i:((c7 (.list<|(mF v).map J)<|J h).bind λf=>(c7 (.list<|(eu v.ws).map J)<|J h).bind λp=>(I<|J<|bC v.ws).bind λg=>(fC .Eq f p).bind λk=>(fC .Eq p g).bind λs=>I<|k&&s)=I (cu v.n (dk h)==bC v.ws&&dm v.ws (dk h)==bC v.ws):=by obtain⟨df,b7⟩:=H.get (m:=h) (by rw[H.len];exact j);rw[jY (kb o<|i' o)<|ao (bQ o)<|ao o z,a3,jY (kb o<|i' o)<|ao (bQ o)<|ao o z,a3,a3,mO,a3,mO,a3,df,b7,H.len];refine congrArg I ?_;generalize cu v.n (dk h)=f;generalize dm v.ws (dk h)=p;generalize bC v.ws=g;rw[gQ];simp only[bY,beq_iff_eq];exact⟨λq=>⟨q.1.trans q.2,q.2⟩,λq=>⟨q.1.trans q.2.symm,q.2⟩⟩
 exact bO.leaf 12 (λt y=>z) i
end
section
section
variable{O:Nat->cY}{S:a0}{aK:cf}
def jV(i:aq):mA:=((jP i).head?).getD ⟨i,i,[],1⟩
def Jo(S:a0)(i:aq):Bool:=l6 i&&(S.comp<|d1 i).isSome&&(cb i).ifs.isEmpty&&(jP i).length==1&&(jV i).ifs.isEmpty&&(jV i).is_async==0
def aj.D_{s H:Type}(I:List s)(y:s->af)(j:s->List H)(B:H->af)(J:s->H->af)(G:Jo S d=ah)(U:ck O S aK (cb d).target (cb d).iter (I.map y))(R:∀A,(fw (cC S d) (cb d).target (y A)<|eK (d1 d) aK).isSome=ah) (L:∀A∈I,ck O (cC S d) (eP S d aK<|y A) (jV d).target (jV d).iter<|(j A).map B) (w:∀A C,(fw (cC S d) (jV d).target (B C)<|eP S d aK<|y A).isSome=ah) (ag:∀A∈I,∀C∈j A,aj O (cC S d) (sX (cC S d) (jV d).target (eP S d aK<|y A)<|B C) (b8 d)<|J A C) (V:(I.flatMap λA=>(j A).map<|J A).length<=1000000):aj O S aK d (.list<|I.flatMap λA=>(j A).map<|J A):=by
 unfold Jo at G;simp only[bY,pz,beq_iff_eq]at G;obtain⟨⟨⟨⟨⟨M,N⟩,P⟩,Q⟩,E⟩,F⟩:=G;have r:jP d=[⟨(jV d).target,(jV d).iter,[],0⟩]:=by
  unfold jV at E F ⊢;match T:jP d,Q with
  |[⟨h,c,p,k⟩],Z=>
   rw[T]at E F
   simp only[List.head?_cons,G_]at E F ⊢
   rw[E,F]
 have D:∀A C,fw (cC S d) (jV d).target (B C) (eP S d aK<|y A)=some (sX (cC S d) (jV d).target (eP S d aK<|y A)<|B C):=λA C=>by have:=w A C;unfold sX;induction q:fw (cC S d) (jV d).target (B C) (eP S d aK<|y A)using b6 with|none=>rw[q]at this;cases this|some m=>rfl
 refine aj.comp M (Cg N) U ?_ V;rw[r,P];refine eJ.flat (O:=O) (S:=cC S d) (aK:=eK (d1 d) aK) (elt:=b8 d) (t:=(cb d).target) (ifs:=[]) (AX:=(jV d).target) (DN:=(jV d).iter) (Dq:=[]) (DH:=[]) y (λA=>(j A).map<|J A) I λA n=>⟨_,_,Cf<|R A,dZ.nil,L A n,?_⟩;have:=eJ.map (O:=O) (S:=cC S d) (aK:=eP S d aK<|y A) (elt:=b8 d) (t:=(jV d).target) (ifs:=[]) B (J A) (λZ=>ah) (j A) λC K=>⟨_,D A C,dZ.nil,λZ=>ag A n C K⟩;rwa [xJ.mpr λZ Z=>rfl]at this
end
theorem JQ(q:Nat×Nat):∀d:List (Nat×Nat),hn (c3 q) (d.map en)=I (d.count q)
 |[]=>rfl
 |p::d=>by
  rw[c8]
  unfold hn
  have i:cW 8 (en p) (c3 q)=I (p==q):=by show(cW 7 (J p.1)<|J q.1).bind (λk=>((cW 7 (J p.2)<|J q.2).bind λs=>(I ah).map λw=>s&&w).map λw=>k&&w)=_;rw[oQ,a3,oQ,a3];show I ((p.1==q.1)&&((p.2==q.2)&&ah))=I ((p.1==q.1)&&(p.2==q.2));rw[aew]
  rw[i,a3,JQ q d,kc,nd]
  refine congrArg I ?_
  cases p==q<;>rfl
def CY(q:Nat×Nat){d:List (Nat×Nat)}(j:d.length<=1000000):ma (.list<|d.map en) "count" [c3 q]=I (J<|d.count q):=by show(if bI (d.map en).length 1000000=ah then(hn (c3 q)<|d.map en).map (λ(y:Nat)=>af.int ((y:Nat):Int))else ai)=_;rw[if_pos (by rw[gH,bZ];exact j),JQ];rfl
theorem JO(a:Bool):∀d:List Bool,hn (.bool a) (d.map af.bool)=I (d.count a)
 |[]=>rfl
 |p::d=>by
  rw[c8]
  unfold hn
  rw[show cW 8 (.bool p) (.bool a)=I (p==a)from rfl,a3,JO a d,kc,nd]
  refine congrArg I ?_
  cases p==a<;>rfl
def UP(p:Bool){d:List Bool}(j:d.length<=1000000):ma (.list<|d.map af.bool) "count" [.bool p]=I (J<|d.count p):=by show(if bI (d.map af.bool).length 1000000=ah then(hn (.bool p)<|d.map af.bool).map (λ(y:Nat)=>af.int ((y:Nat):Int))else ai)=_;rw[if_pos (by rw[gH,bZ];exact j),JO];rfl
theorem JU{s:Type}(r:s->Bool):∀d:List s,(d.map r).count ah=(d.filter r).length
 |[]=>rfl
 |a::d=>by
  rw[c8,nd,JU r d,iM]
  cases r a<;>simp
noncomputable def wz(x d:h7):Bool:=gI x.2.2.2 d.2.2.2==I om
noncomputable def nD{s:Type}(m:s->s->Bool)(d:List s):List Nat:=d.map λf=>(d.filter λp=>m p f).length
variable(v:c6)(cS:Nat×Nat)
def dR:List Nat:=nD wz v.eb
def d9:List Nat:=nD (λp f=>decide (p<f)) v.dz
def e8(aW:List Nat):List (Nat×Nat):=rZ<|(ku v.ws).map<|hv v.ws.length (eu v.ws) aW
noncomputable def bB:Nat:=8+v.kX/1024%4
def gx(aW:List Nat):List Nat:=(nN (bC v.ws+1)<|v.n -bC v.ws+1).map λg=>(e8 v aW).count g
def fM:Nat:=((aH<|2^v.n).map λr=>(2^bB v -1)^(bC v.ws -(eu v.ws).getD r 0)*(2^(bB v*(bC v.ws+1)) -1)^((mF v).getD r 0 -(eu v.ws).getD r 0)).sum
def FZ:aG:=q "tables" (.list<|[e8 v<|dR v,e8 v<|d9 v].map λm=>.list<|m.map en)<|xo v cS
def F0:aG:=q "width" (J<|bB v)<|FZ v cS
def F1:aG:=q "pages" (.list [.list<|(gx v<|dR v).map J,.list<|(gx v<|d9 v).map J])<|F0 v cS
def F2:aG:=q "whitney" (J<|fM v)<|F1 v cS
def xp:aG:=q "figures" (.list<|(ei (bB v)<|fM v).map J)<|F2 v cS
structure mI:Prop extends jI v where
 eb:v.eb.length=v.n
 dz:v.dz.length=v.n
 dR:∀i j,i<v.n->j<v.n->(dR v).getD i 0=(dR v).getD j 0->i=j
 d9:∀i j,i<v.n->j<v.n->(d9 v).getD i 0=(d9 v).getD j 0->i=j
variable{v}(H:mI v)
include H
def Kn:List aq:=bo<|aO<|aT 28
def zi:aq:=(Kn[2]?).getD bJ
def zg:aq:=((cZ zi).head?).getD bJ
def zh:aq:=((cZ zi)[1]?).getD bJ
def Rl:aj (bc 8) cR (xo v cS).plus zg (.list<|(dR v).map J):=by have r:=H.eb;have s:=H.da;unfold dR nD;rw[dG];refine aj.dW v.eb fF _ z (ck.lf 9 (v.eb.map fF) λt q=>z) (λf=>z) (λd h=>?_)<|ao (bQ o)<|ao o z;refine aj.call (ds:=[.list<|(v.eb.filter λx=>wz x d).map fF]) z z ?_ (hl (k:=8) (g:=iB) z<|(qc _ (by rw[bZ];exact ao (mw ..)<|ao (bQ o)<|ao o z)).trans (by rw[bZ];rfl));rw[(z:bo (b8 zg)=[cp<|b8 zg])];exact aD.cons z (aj.wB v.eb fF fF (λx=>wz x d) z (ck.lf 9 (v.eb.map fF) λt q=>z) (λf=>z) (λx Z=>bO.lf 9 (wz x d) λt q=>z) (λx Z Z=>aj.lf 9 (fF x) λt q=>z)<|ao (bQ o)<|ao o z) aD.nil
def Rm:aj (bc 8) cR (xo v cS).plus zh (.list<|(d9 v).map J):=by
 have r:=H.dz;have s:=H.da;unfold d9 nD;rw[dG];refine aj.dW v.dz (λf=>.list<|v.dz.map λp=>.bool<|decide (p<f)) _ z (ck.lf 9 (v.dz.map λf=>.list<|v.dz.map λp=>.bool<|decide (p<f)) λt q=>z) (λf=>z) (λf n=>?_)<|ao (bQ o)<|ao o z;have i:ma (.list<|(v.dz.map λp=>decide (p<f)).map af.bool) "count" [.bool ah]=I (J (v.dz.filter λp=>decide (p<f)).length):=by rw[UP ah (by rw[bZ];exact ao (bQ o)<|ao o z),JU]
 rw[dG]at i;refine aj.e' (a:=.list<|v.dz.map λp=>.bool<|decide (p<f)) (ds:=[.bool ah]) z (aj.lf 9 (.list<|v.dz.map λp=>.bool<|decide (p<f)) λt q=>z) ?_<|mV (k:=8) rfl i;rw[(z:bo (b8 zh)=[cp<|b8 zh])];exact aD.cons z (aj.lf 9 (.bool ah) λt q=>z) aD.nil
def Rk:az (bc 8) cR [] (xo v cS) (aT 28) (.next<|FZ v cS):=by
 have ax:=H.pow;have y:=H.len;have j:=H.eb;have d:=H.dz;have E:=H.da;refine az.name "tables" (.list<|[e8 v<|dR v,e8 v<|d9 v].map λa=>.list<|a.map en) z z z z ?_;have f:(dR v).length=v.n:=by unfold dR nD;rw[bZ,j]
 have p:(d9 v).length=v.n:=by unfold d9 nD;rw[bZ,d]
 have C:we [.list<|(ku v.ws).map J,.list<|(eu v.ws).map J,t7 (dR v)<|d9 v]=I (.list<|[e8 v<|dR v,e8 v<|d9 v].map λa=>.list<|a.map en):=by
  show(j1<|(ku v.ws).map J).bind (λh=>(j1<|(eu v.ws).map J).bind λA=>(j1<|(dR v).map J).bind λe=>(j1<|(d9 v).map J).bind λl=>
   if(e.length==l.length&&bI e.length 6&&(h.all λr=>ng r<|2^e.length)&&A.length==2^e.length&&ng h.length 64)=ah then I (AY h A e l)else ai)=_
  rw[rI,a3,rI,a3,rI,a3,rI,a3,if_pos];unfold AY e8 uh;rw[f,y];rfl;have b:(ku v.ws).length<64:=by
   have s:(ku v.ws).length<(aH<|2^v.ws.length).length:=ae5.mpr (by
    have w:=nk v.ws.length;by_cases h0:bC v.ws=0;refine⟨2^v.ws.length -1,bl.mpr<|uT w z,?_⟩;have:cu v.ws.length (dk<|2^v.ws.length -1)=v.ws.length:=by unfold cu;rw[xJ.mpr λk D=>?_,f9];show(2^v.ws.length -1).testBit k=ah;rw[afG];exact decide_eq_true<|bl.mp D
    have B:=H.mb;rw[this,h0,show(v.ws.length==0)=av from beq_eq_false_iff_ne.mpr<|ih<|cq z<|ao B<|bQ y.symm];simp;refine⟨0,bl.mpr w,?_⟩;have:cu v.ws.length (dk 0)=0:=by rw[show dk 0=ec from funext λc=>PG c];exact y6 _
    rw[this,show(0==bC v.ws)=av from beq_eq_false_iff_ne.mpr<|nq h0];simp)
   rw[f9]at s;exact cq o o
  rw[f,p];simp only[bY,beq_self_eq_true,true_and,gH,bG,oi,beq_iff_eq];refine⟨⟨⟨E,λr x=>?_⟩,by rw[H.w5,y]⟩,b⟩;have:=bl.mp (dP.mp x).1;rwa [y]at this
 refine aj.call (ds:=[.list<|(ku v.ws).map J,.list<|(eu v.ws).map J,t7 (dR v)<|d9 v]) z z ?_<|lV (k:=8) (g:=we) z z C;rw[show bo (aO<|aT 28)=[cp<|aO<|aT 28,(Kn[1]?).getD bJ,zi]by kernel_rfl];refine aD.cons z (aj.lf 9 (.list<|(ku v.ws).map J) λt q=>z)<|aD.cons z (aj.lf 9 (.list<|(eu v.ws).map J) λt q=>z)<|aD.cons z ?_ aD.nil;refine aj.list z (ds:=[.list<|(dR v).map J,.list<|(d9 v).map J]) ?_ (show 2<=1000000 by exact cy _ _);rw[(z:cZ zi=[zg,zh])];exact aD.cons z (Rl cS H)<|aD.cons z (Rm cS H) aD.nil
theorem Rn:az (bc 8) cR [] (FZ v cS) (aT 29) (.next<|F0 v cS):=by
 have i:(((aI .FloorDiv (J v.kX)<|J 1024).bind λf=>aI .Mod f<|J 4).bind λp=>aI .Add (J 8) p)=I (J<|bB v):=by rw[mQ _ z z,a3,j0 _ z,a3,hj];rfl
 exact az.name "width" (J<|bB v) z z z z<|aj.leaf 9 (λt q=>z) i
end
section
variable{v:c6}(cS:Nat×Nat)(H:mI v)
include H
def mI.nU:bC v.ws<=3/\bC v.ws<=v.n:=by
 obtain⟨Z,Z,Z,a,b⟩:=AA H.ends (wL _) (wD _) (m:=ec) (by
  have:∀(d:List Nat)(l:cT),eL d l l:=λd=>by induction d with|nil=>exactλl=>rfl|cons i d g=>exactλl=>.inl<|g l
  exact this _ _)
 rw[H.len]at b;exact⟨a,b⟩
def ui(aW:List Nat):(e8 v aW).length<=64:=by unfold e8;rw[(FO _).length_eq,bZ];have ax:=H.pow;have:(ku v.ws).length<=2^v.ws.length:=ao (mw ..) (by simp);exact ao o o
def yx{aW:List Nat}:∀q∈e8 v aW,q.1<=bC v.ws/\q.2<=v.n -bC v.ws:=λq c=>by
 have c:=(FO _).mem_iff.mp c;obtain⟨r,x,rfl⟩:=ez.mp c;obtain⟨s,p⟩:=dP.mp x;simp only[bY,beq_iff_eq]at p;have t:(dr v.ws.length r).length=bC v.ws:=p.1;have b:(el v.ws.length r).length+(dr v.ws.length r).length=v.ws.length:=by
  have i:el v.ws.length r=(aH v.ws.length).filter λk=>!r.testBit k:=si λk w=>by
   have:(dr v.ws.length r).contains k=r.testBit k:=by rw[gQ,fy,wC];exact⟨λj=>j.2,λj=>⟨bl.mp w,j⟩⟩
   rw[this]
  have y:∀d:List Nat,(d.filter λk=>!r.testBit k).length+(d.filter λk=>r.testBit k).length=d.length:=λd=>by
   induction d with
   |nil=>rfl
   |cons f d g=>
    rw[iM,iM];induction r.testBit f using bz with|true=>exact congrArg (·+1) g|false=>exact(e7 ..).trans (congrArg (·+1) g)
  have:=y<|aH v.ws.length;rw[f9]at this;rw[i];exact this
 have A:=H.len;have aJ:=tE (dr v.ws.length r)<|lU v.ws aW r;have dV:=tE (el v.ws.length r)<|lU v.ws aW r;unfold hv;show(k8 _<|lU v.ws aW r).length<=_/\(k8 _<|lU v.ws aW r).length<=_;exact⟨ao aJ<|bQ t,ao dV<|bQ<|Nat.eq_sub_of_add_eq<|t▸b.trans A⟩
def E6(aW:List Nat):(gx v aW).length<=28:=by unfold gx;rw[bZ,CO<|BF _,bZ,f9];obtain⟨s,l⟩:=H.nU;have d:=H.da;have:(bC v.ws+1)*(v.n -bC v.ws+1)<=4*7:=jF (gS s)<|gS<|ao (fz ..) d;assumption
def E7(aW:List Nat):∀d∈gx v aW,d<2^bB v:=λd b=>by unfold gx at b;obtain⟨g,Z,rfl⟩:=ez.mp b;have s:=O_ (a:=g) (l:=e8 v aW);have e:=ui H aW;have f:2^8<=2^bB v:=fp z (by unfold bB;exact cv _ _);exact b4 s<|b4 e<|cq z f
def Rp:az (bc 8) cR [] (F0 v cS) (aT 30) (.next<|F1 v cS):=by
 obtain⟨D,C⟩:=H.nU;have E:=H.da;refine az.name "pages" (.list [.list<|(gx v<|dR v).map J,.list<|(gx v<|d9 v).map J]) z z z z ?_;refine aj.dW [e8 v<|dR v,e8 v<|d9 v] (λm=>.list<|m.map en) (λm=>.list<|((nN (bC v.ws+1)<|v.n -bC v.ws+1).map λg=>m.count g).map J) z (ck.lf 9 ([e8 v<|dR v,e8 v<|d9 v].map λm=>.list<|m.map en) λt q=>z) (λe=>z) (λm A=>?_) (show 2<=1000000 by exact cy _ _);have s:m.length<=64:=by rcases c9.mp A with rfl|A;exact ui H _;rw[c_]at A;subst A;exact ui H _
 have cD:((nN (bC v.ws+1)<|v.n -bC v.ws+1).map λg=>m.count g).map J=(aH<|v.n -bC v.ws+1).flatMap λx=>(aH<|bC v.ws+1).map λB=>J (m.count (B,x)):=by unfold nN;rw[dG,Po];refine congrArg (λy=>(aH<|v.n -bC v.ws+1).flatMap y)<|funext λx=>?_;rw[dG];rfl
 rw[cD];have h:(((aI .Sub (J v.n)<|J<|bC v.ws).bind λe=>aI .Add e<|J 1).bind λd=>(I []).bind λw=>I<|d::w).bind eo=I ((aH<|v.n -bC v.ws+1).map J):=by rw[jw C,a3,hj,a3,a3,a3];exact o'<|ao (gS<|ao (fz ..) H.da) z
 have l:((aI .Add (J<|bC v.ws)<|J 1).bind λd=>(I []).bind λw=>I<|d::w).bind eo=I ((aH<|bC v.ws+1).map J):=by rw[hj,a3,a3,a3];exact o'<|b4 o<|b4 o z
 refine aj.D_ (aH<|v.n -bC v.ws+1) J (λZ=>aH<|bC v.ws+1) J (λx B=>J<|m.count (B,x)) z (ck.leaf 12 (λt q=>z) h) (λe=>z) (λx Z=>ck.leaf 12 (λt q=>(by kernel_rfl)) l) (λe p=>z) (λx Z B Z=>?_) ?_;refine aj.e' (a:=.list<|m.map en) (ds:=[c3 (B,x)]) z (aj.lf 9 (.list<|m.map en) λt q=>z) ?_<|mV (k:=8) rfl<|CY (B,x)<|ao o z;rw[(z:bo (b8<|b8<|aO<|aT 30)=[cp<|b8<|b8<|aO<|aT 30])];exact aD.cons z (aj.lf 12 (c3 (B,x)) λt q=>z) aD.nil;refine ao (tn (c:=4) λx Z=>by simp;assumption) ?_;rw[f9];exact ao (qJ 4<|gS<|ao (fz ..) H.da) z
omit H in
theorem acX:∀d:List Nat,vJ [.list<|d.map J]=I (J d.sum):=λd=>by
 have s:∀d:List Nat,lq (d.map λ(y:Nat)=>(y:Int))=((d.sum:Nat):Int):=λd=>by induction d with|nil=>rfl|cons f d g=>rw[c8,j',se,<-g];rfl
 show(qZ<|d.map J).map (λa6=>af.int<|lq a6)=_;rw[show d.map J=(d.map λ(y:Nat)=>(y:Int)).map af.int by rw[dG];rfl,DU,kc,s];rfl
omit H in
theorem abj(j:f<2^s):f^k<=2^(s*k):=by rw[Nat.pow_mul];exact Nat.pow_le_pow_left (d_ j) k
theorem mI.bB:8<=bB v/\bB v<=11:=⟨cv ..,hB (ni<|f_ _ z) 8⟩
def Rq:az (bc 8) cR [] (F1 v cS) (aT 31) (.next<|F2 v cS):=by
 obtain⟨ae,af⟩:=H.nU;obtain⟨ai,C⟩:=H.bB;have T:=H.da;have ax:=H.pow;have W:=H.w5;have X:=H.N';refine az.name "whitney" (J<|fM v) z z z z ?_;refine aj.call (ds:=[.list<|((aH<|2^v.n).map λc=>(2^bB v -1)^(bC v.ws -(eu v.ws).getD c 0)*(2^(bB v*(bC v.ws+1)) -1)^((mF v).getD c 0 -(eu v.ws).getD c 0)).map J]) z z ?_<|hl (k:=8) (g:=vJ) z<|acX _;rw[show bo (aO<|aT 31)=[cp<|aO<|aT 31]by kernel_rfl,dG];have ag:(2:Nat)^v.n<=64:=by rw[<-H.len];exact ax
 refine aD.cons z (aj.dW (aH<|2^v.n) J _ z (ck.leaf 12 (x:=((aI .Pow (J 2)<|J v.n).bind λd=>(I []).bind λw=>I<|d::w).bind eo) (λab ad=>z)<|Nb H.da) (λf=>z) (λc q=>?_) (by simp;exact ao o z)) aD.nil;have q:=bl.mp q;rw[H.len]at W X;obtain⟨df,b7⟩:=H.get (m:=c) (by rw[H.len];exact q);obtain⟨M,O,P,Z,Z⟩:=AA H.ends (wL _) (wD _) (m:=dk c) (by
  have:∀y c,c<2^y->eL (aH y).reverse ec (dk c):=λy=>by
   induction y with
   |zero=>
    intro c q;have:c=0:=by simpa using q
    subst this;exact funext λah=>PG ah
   |succ y Q=>
    intro c q;rw[sl,GU];show eL (aH y).reverse ec (dk c)\/eL (aH y).reverse (br ec y) (dk c);by_cases Y:c<2^y;exact .inl<|Q c Y;right;have R:c=2^y+(c -2^y):=by exact(afc<|nj o).symm
    have t:c -2^y<2^y:=Nat.sub_lt_left_of_lt_add (nj Y)<|kb q<|xT<|2^y;rw[R,y0 t];exact(Q _ t).lift
  exact this _ _ (by rw[H.len];exact q))
 have E:2^bB v<=2^11:=fp z C;have G:2^(bB v*(bC v.ws+1))<=2^44:=fp z (jF C<|show bC v.ws+1<=4 by exact hC o);have K:=nk<|bB v;have L:=nk<|bB v*(bC v.ws+1);have aa:bB v*(bC v.ws+1)<=44:=jF C (show bC v.ws+1<=4 by exact hC o);rw[<-df]at M O;rw[<-b7]at M P;have S:v.ws.length<=6:=by rw[H.len];exact T
 have D:∀{f l k:Nat},f<2^l->l<=44->k<=6->f^k<2^100000:=λ{f l k} U ax V=>b4 (abj (k:=k) U)<|afy z<|b4 (jF ax V) z;have R:((((aI .Pow (J 2)<|J<|bB v).bind λf=>aI .Sub f<|J 1).bind λf=>((c7 (.list<|(eu v.ws).map J)<|J c).bind λw=>aI .Sub (J<|bC v.ws) w).bind λj=>aI .Pow f j).bind λac=>
   (((((aI .Add (J<|bC v.ws)<|J 1).bind λj=>aI .Mult (J<|bB v) j).bind λj=>aI .Pow (J 2) j).bind λf=>aI .Sub f<|J 1).bind λf=>((c7 (.list<|(mF v).map J)<|J c).bind λam=>(c7 (.list<|(eu v.ws).map J)<|J c).bind λw=>aI .Sub am w).bind λj=>aI .Pow f j).bind λal=>aI .Mult ac al)=
   I (J<|(2^bB v -1)^(bC v.ws -(eu v.ws).getD c 0)*(2^(bB v*(bC v.ws+1)) -1)^((mF v).getD c 0 -(eu v.ws).getD c 0)):=by
  rw[rO z<|ao o z,a3,jw K,a3,jY (kb o<|i' o)<|ao (bQ o)<|ao o z,a3,jw O,a3,rO (b4 (fz ..)<|b4 E z)<|ao (fz ..)<|ao ‹bC v.ws<=3› z,a3,hj,a3,mX (b4 o z)<|b4 (gS ‹bC v.ws<=3›) z,a3,rO z<|ao o z,a3,jw L,a3,jY (kb o<|i' o)<|ao (bQ o)<|ao o z,a3,a3,jw M,a3,rO (b4 (fz ..)<|b4 G z)<|ao (fz ..)<|ao P<|ao S z,a3]
  exact Ac (D (l:=11) (cq (uT K z) E) z<|ao (fz _ _)<|ao o o)<|D (l:=44) (cq (uT L z) G) z<|ao (fz _ _)<|ao o o
 exact aj.leaf 14 (λab ad=>z) R
end
section
def acY{s:Type}{d q:List s}(j:d.Perm q)(y:s->Int):(d.map y).sum=(q.map y).sum:=by induction j with|nil=>rfl|cons i Z g=>rw[c8,c8,j',j',g]|swap i p d=>exact OT (y p) (y i) (d.map y).sum|trans Z t c e=>rw[c,e]
theorem xn{s:Type}(y:s->Nat):∀d:List s,(((d.map y).sum:Nat):Int)=(d.map λa=>((y a:Nat):Int)).sum|[]=>rfl|a::d=>by rw[c8,c8,j',j',se,xn y d]
variable{v:c6}(cS:Nat×Nat)(H:mI v)
include H
def mI.wV:∀c w,c<v.ws.length->w<v.ws.length->(Mine.dR v).getD c 0=(Mine.dR v).getD w 0->c=w:=by rw[H.len];exact H.dR
def mI.Av:∀c w,c<v.ws.length->w<v.ws.length->(Mine.d9 v).getD c 0=(Mine.d9 v).getD w 0->c=w:=by rw[H.len];exact H.d9
def r3{aW:List Nat}(p:∀c w,c<v.ws.length->w<v.ws.length->aW.getD c 0=aW.getD w 0->c=w)(m b:Int):((e8 v aW).map λq=>m^q.1*b^q.2).sum=iL v.ws m b:=by unfold e8;rw[acY<|FO _,dG];exact adj H.ends (by rw[H.len];exact H.da) p m b
def Sd:((fM v:Nat):Int)=iL v.ws (2^bB v) (2^(bB v*(bC v.ws+1))):=by unfold fM iL;rw[xn,H.len];congr 1;refine jb λr x=>?_;obtain⟨df,b7⟩:=H.get (m:=r) (by rw[H.len];exact bl.mp x);rw[df,b7,H.len];unfold j6;have s:=nk<|bB v;have l:=nk<|bB v*(bC v.ws+1);rw[Bm,mv,mv,aeI s,aeI l,mv,mv];rfl
def De{aW:List Nat}(p:∀c w,c<v.ws.length->w<v.ws.length->aW.getD c 0=aW.getD w 0->c=w):cJ (bB v) (gx v aW)=fM v:=by
 have b:((cJ (bB v) (gx v aW):Nat):Int)=((fM v:Nat):Int):=by unfold gx;rw[Kc (bB v) (BF _) (e8 v aW) λq a=>⟨hC (yx H q a).1,hC (yx H q a).2⟩,xn,Sd H,<-r3 H p];congr 1;refine jb λq Z=>?_;rw[uR,pC,Bm,mv,mv,GI,<-PB,GI];rfl
 exact uI b
def Rr:az (bc 8) cR [] (F2 v cS) (aT 32) (.next<|xp v cS):=by obtain⟨c,j⟩:=H.bB;obtain⟨f,Z⟩:=Kd (w:=bB v) (ao (cy _ _) o)<|E7 H<|dR v;rw[De H H.wV]at f;have r:=E6 H<|dR v;refine az.name "figures" (.list<|(ei (bB v)<|fM v).map J) z z z z ?_;refine aj.call (ds:=[J<|fM v,J<|bB v]) z z ?_<|lV (k:=8) (g:=zG) z z ?_;rw[show bo (aO<|aT 32)=[cp<|aO<|aT 32,((bo<|aO<|aT 32)[1]?).getD bJ]by kernel_rfl];exact aD.cons z (aj.lf 9 (J<|fM v) λt q=>z)<|aD.cons z (aj.lf 9 (J<|bB v) λt q=>z) aD.nil;show(if(bI 1 (bB v)&&bI (bB v) 10000&&bI (d6 (bB v)<|fM v) 200)=ah then I (af.list<|ea<|ei (bB v)<|fM v)else ai)=_;rw[if_pos (by rw[pA<|ao z c,pA<|ao j z,pA<|ao f<|ao r z];rfl)];rfl
omit H in
theorem Kv(y:Nat):∀d:List Nat,h4 (cW y) (d.map J) (d.map J)=I ah
 |[]=>rfl
 |a::d=>by
  rw[c8]
  rw[Cw]
  rw[oQ,a3,Kv y d,kc,beq_self_eq_true]
  rfl
omit H in
theorem ZW(d:List Nat):fC .NotEq (.list<|d.map J) (.list<|d.map J)=I av:=by show(if((d.map J).length==(d.map J).length)=ah then h4 (cW 8) (d.map J) (d.map J)else I av).map (!·)=_;rw[if_pos (by simp),Kv];rfl
omit H in
theorem ZV(f:Nat):fC .NotEq (J f) (J f)=I av:=by show(cW 9 (J f)<|J f).map (!·)=_;rw[oQ,beq_self_eq_true];rfl
theorem DI{c:List Nat}{n:Nat}(s:1<=n)(e:n<=100)(r:c.length<=100)(q:∀d∈c,d<2^n):p7 [.list<|c.map J,J n]=I (J<|cJ n c):=by show(j1<|c.map J).bind (λb=>if(bI 1 n&&bI n 10000&&bI b.length 200&&b.all λd=>ng d<|2^10000)=ah then I (af.int (cJ n b:Nat))else ai)=_;rw[rI,a3,if_pos];rfl;simp only[bY,gH,bG,oi];exact⟨⟨⟨s,by exact ao o z⟩,by exact ao o z⟩,λd a=>cq (q d a)<|fp z<|ao o z⟩
def Ko:List aq:=pS .Or<|aO<|aT 33
def zj:aq:=(Ko.head?).getD bJ
def vX:aq:=(Ko[1]?).getD bJ
def Rt:az (bc 8) cR [] (xp v cS) (aT 33) (.next<|xp v cS):=by
 obtain⟨c,j⟩:=H.bB;obtain⟨f,vR⟩:=Kd (w:=bB v) (ao (cy _ _) o)<|E7 H<|d9 v;rw[De H H.Av]at f vR;have r:=E6 H<|dR v;have h:=E6 H<|d9 v;have i:(ei (bB v)<|fM v).length=d6 (bB v) (fM v):=by unfold ei;simp
 refine az.skip z (bO.or (bA:=[zj,vX]) z (by simp)<|dZ.n3 ?_<|dZ.n3 ?_ dZ.As);refine bO.cmp (op:=.NotEq) (a:=J<|fM v) (b:=J<|fM v) z ?_ (aj.lf 9 (J<|fM v) λt q=>z) λt=>ZV _;refine aj.call (ds:=[.list<|(gx v<|dR v).map J,J<|bB v]) z z ?_ (lV (k:=8) (g:=p7) z z<|(DI H (ao (cy _ _) o) (ao o z) (ao o z)<|E7 H _).trans<|by rw[De H H.wV]);rw[show bo (cU zj)=[cp<|cU zj,((bo<|cU zj)[1]?).getD bJ]by kernel_rfl];exact aD.cons z (aj.lf 9 (.list<|(gx v<|dR v).map J) λt q=>z)<|aD.cons z (aj.lf 9 (J<|bB v) λt q=>z) aD.nil;refine bO.cmp (op:=.NotEq) (a:=.list<|(gx v<|d9 v).map J) (b:=.list<|(gx v<|d9 v).map J) z ?_ (aj.lf 9 (.list<|(gx v<|d9 v).map J) λt q=>z) λt=>ZW _;refine aj.bin (op:=.Add) (a:=.list<|(ei (bB v)<|fM v).map J) (b:=.list<|(dw ((gx v<|d9 v).length -d6 (bB v) (fM v)) 0).map J) z (aj.lf 9 (.list<|(ei (bB v)<|fM v).map J) λt q=>z) ?_ λt=>?_;refine aj.bin (op:=.Mult) (a:=.list [J 0]) (b:=J<|(gx v<|d9 v).length -d6 (bB v) (fM v)) z (aj.lf 12 (.list [J 0]) λt q=>z) ?_ λt=>?_;refine aj.bin (op:=.Sub) (a:=J (gx v<|d9 v).length) (b:=J<|d6 (bB v)<|fM v) z ?_ ?_ λt=>jw f;refine aj.call (ds:=[.list<|(gx v<|d9 v).map J]) z z ?_ (hl (k:=8) (g:=iB) z<|(qc _ (by rw[bZ];exact ao o z)).trans<|by rw[bZ]);rw[(z:bo (cU<|dy<|dy<|cU vX)=[cp<|cU<|dy<|dy<|cU vX])];exact aD.cons z (aj.lf 9 (.list<|(gx v<|d9 v).map J) λt q=>z) aD.nil;refine aj.call (ds:=[.list<|(ei (bB v)<|fM v).map J]) z z ?_ (hl (k:=8) (g:=iB) z<|(qc _ (by rw[bZ,i];exact ao f<|ao o z)).trans<|by rw[bZ,i]);rw[(z:bo (dy<|dy<|dy<|cU vX)=[cp<|dy<|dy<|dy<|cU vX])];exact aD.cons z (aj.lf 9 (.list<|(ei (bB v)<|fM v).map J) λt q=>z) aD.nil;generalize m:(gx v<|d9 v).length -d6 (bB v) (fM v)=ab;have e:ab<=28:=m▸ao (fz ..) o;show(if(decide (((ab:Nat):Int)<=1000)&&decide (-1000<=((ab:Nat):Int))&&bI 1 1000)=ah then I (af.list (dw ((ab:Nat):Int).toNat [J 0]).flatten)else ai)=_;rw[if_pos (by rw[decide_eq_true<|show((ab:Nat):Int)<=1000 from gR.mpr<|ao e z];rfl),sh];refine congrArg (λd=>I<|af.list d) ?_;clear m e;induction ab with|zero=>rfl|succ ab n=>rw[qD,uM,n,qD,c8];rfl
 refine(yM (by rw[bZ,bZ,xN,i,qF f];exact ao o z)).trans ?_;rw[yR,vR]
end
section
def gp(g:List Nat):af:=.list<|g.map J
def i4(t:c6):List (List Nat):=hG.filter λg=>qi t.ws<|jg g
def F3(t:c6)(a:Nat×Nat):aG:=q "paintings" (.list<|(i4 t).map gp)<|xp t a
def adC(j:c<3):c7 (.list<|i9.map λw=>.list<|w.map J) (J c)=I (gp<|i9.getD c []):=rC j z z z
def Ow(b:c<3)(p:w<3):(i9.getD c []).length=3/\((0==(i9.getD c []).getD w 0)=(c==w)):=by
 have:((aH 3).all λc=>(aH 3).all λw=>(i9.getD c []).length==3&&((0==(i9.getD c []).getD w 0)==(c==w)))=ah:=by decide+kernel
 have:=bG.mp (bG.mp this c<|bl.mpr b) w<|bl.mpr p;simpa using this
def UL:∀g∈hG,∀k,k<4->g.getD k 0<3:=λg w k y=>by
 have:(hG.all λg=>(aH 4).all λk=>ng (g.getD k 0) 3)=ah:=by decide+kernel
 have:=bG.mp (bG.mp this g w) k<|bl.mpr y;rwa [oi]at this
variable{v:c6}(cS:Nat×Nat)(H:mI v)
include H
def Ru:az (bc 8) cR [] (xp v cS) (aT 34) (.next<|F3 v cS):=by
 have K:=H.da;have E:=H.len;refine az.name "paintings" (.list<|(i4 v).map gp) z z z z ?_;refine aj.wB hG gp gp (λg=>qi v.ws<|jg g) z (ck.lf 60 (hG.map gp) λt D=>z) (λG=>z) (λg C=>?_) (λg Z Z=>aj.lf 9 (gp g) λt D=>z) z;have n:=CW g C;have x:=UL g C;refine bO.cmp (op:=.NotIn) (a:=J 0) (b:=.list<|(v.ws.map λd=>(i9.getD (g.getD d.1 0) []).getD (g.getD d.2 0) 0).map J) z (aj.lf 9 (J 0) λt D=>z) ?_ λt=>?_;rw[dG];refine aj.dW v.ws c3 _ z (ck.lf 9 (v.ws.map c3) λt D=>z) (λG=>z) (λd A=>?_)<|ao (bQ o)<|ao o z;obtain⟨s,l⟩:=H.lt d A;have m:(((c7 (.list<|g.map J)<|J d.1).bind λf=>c7 (.list<|i9.map λw=>.list<|w.map J) f).bind λw=>(c7 (.list<|g.map J)<|J d.2).bind λk=>c7 w k)=I (J<|(i9.getD (g.getD d.1 0) []).getD (g.getD d.2 0) 0):=by have L:=(Ow (x _ s)<|x _ l).1;have p:=x _ l;rw[jY (kb o<|i' o)<|ao (bQ o) z,a3,adC<|x _ s,a3,jY (kb o<|i' o)<|ao (bQ o) z,a3];exact jY (kb o<|i' o)<|ao (bQ o) z
 exact aj.leaf 12 (λt D=>z) m;show(mG (J 0) _).map (!·)=_;rw[tw,kc];refine congrArg I ?_;unfold qi;rw[gQ,ew,<-r',fy,bG,ez];have y:∀d∈v.ws,((i9.getD (g.getD d.1 0) []).getD (g.getD d.2 0) 0=0↔jg g d.1=jg g d.2):=λd A=>by obtain⟨s,l⟩:=H.lt d A;have:=(Ow (x _ s)<|x _ l).2;rw[gQ,beq_iff_eq,beq_iff_eq]at this;exact⟨λB=>this.mp B.symm,λB=>(this.mpr B).symm⟩
 constructor;intro B d A;rw[ew,beq_eq_false_iff_ne];exactλq=>B ⟨d,A,(y d A).mpr q⟩;rintro B ⟨d,A,q⟩;have:=B d A;rw[ew,beq_eq_false_iff_ne]at this;exact this<|(y d A).mp q
omit H
def l0(b:List (List Nat)):af:=.list<|b.map gp
def Nj(v:c6):aG:=q "paintings" (.list<|(i4 v).map gp)<|q "figures" (.list<|(ei (bB v)<|fM v).map J)<|q "whitney" (J<|fM v)<|q "pages" (.list [.list<|(gx v<|dR v).map J,.list<|(gx v<|d9 v).map J])<|q "width" (J<|bB v)<|q "tables" (.list<|[e8 v<|dR v,e8 v<|d9 v].map λm=>.list<|m.map en)<|q "frames" (.list<|(ku v.ws).map J)<|q "full" (J<|bC v.ws)<|q "ranks" (.list<|(eu v.ws).map J)<|q "sizes" (.list<|(mF v).map J)<|q "labels" (kG<|pL v)<|md v
def F4(v:c6)(cS:Nat×Nat):aG:=q "flows" (l0 [[0,0,0,0]])<|F3 v cS
def xt(v:c6)(s:Nat×Nat)(b:List (List Nat)):aG:=q "flows" (l0 b)<|q "b" (J s.2)<|q "a" (J s.1)<|Nj v
def Oy(v:c6)(s:Nat×Nat)(b:List (List Nat)):aG:=q "b" (J s.2)<|q "a" (J s.1)<|q "flows" (l0 b)<|Nj v
theorem Rv:az (bc 8) cR [] (F3 v cS) (aT 35) (.next<|F4 v cS):=az.name "flows" (l0 [[0,0,0,0]]) z z z z<|aj.lf 30 (l0 [[0,0,0,0]]) λt q=>z
theorem ZO(w:k<=3)(a:d=-1\/d=0\/d=1):aI .Mult (J k) (.int d)=I (.int<|(k:Nat)*d):=by show(if bI (dn (k:Nat)) 100000&&bI (dn d) 100000 then I (af.int _)else ai)=_;rw[pA<|ao (nX<|b4 w<|show 3<2^2 by decide) z];rcases a with rfl|rfl|rfl<;>rfl
theorem Ws(f:Nat×Nat)(g:List (List Nat))(P:g.length<=1000)(M:∀V∈g,V.length=4):aj (bc 8) cR (Oy v f g).plus (aO<|aN (fk<|aT 36) 0) (l0<|g.flatMap λs=>[dF s 1 f.1 f.2,dF s 2 f.1 f.2]):=by
 have cD:l0 (g.flatMap λs=>[dF s 1 f.1 f.2,dF s 2 f.1 f.2])=.list (g.flatMap λs=>[1,2].map λn=>gp<|dF s n f.1 f.2):=by unfold l0;rw[Po];rfl
 rw[cD];refine aj.D_ g gp (λZ=>[1,2]) J (λs n=>gp<|dF s n f.1 f.2) z (ck.lf 9 (g.map gp) λH K=>z) (λB=>z) (λB Z=>ck.lf 12 ([1,2].map J) λH K=>z) (λB D=>z) (λs Q n C=>?_)<|ao (tn (c:=2) λW Z=>cz 2)<|ao (qJ 2 P) z;have T:=M s Q;have E:n<=3:=by rcases c9.mp C with rfl|C;decide;rw[c_]at C;subst C;decide
 show aj _ _ _ _ (.list<|(dF s n f.1 f.2).map J);unfold dF;rw[dG];refine aj.dW (aH 4) J _ z (ck.leaf 12 (x:=(I [J 4]).bind eo) (λH K=>z)<|n7<|cy _ _) (λB=>z) (λl G=>?_) (by simp);have G:=bl.mp G;have U:(((c7 (.list<|s.map J)<|J l).bind λm=>((((fC .Eq (J l)<|J f.1).map af.bool).bind λk=>((fC .Eq (J l)<|J f.2).map af.bool).bind λw=>aI .Sub k w).bind λd=>aI .Mult (J n) d).bind λA=>aI .Add m A).bind λab=>aI .Mod ab<|J 3)=I (J ((((s.getD l 0:Nat):Int)+(n:Nat)*d' l f.1 f.2)%3).toNat):=by
  have R:aI .Sub (.bool<|l==f.1) (.bool<|l==f.2)=I (.int<|d' l f.1 f.2):=by
   show I (af.int<|b2i (l==f.1) -b2i (l==f.2))=_;refine congrArg (λS=>I<|af.int S) ?_;unfold d';have q:∀B D:Nat,b2i (B==D)=if B=D then 1 else 0:=λB D=>by by_cases L:B=D;subst L;simp[b2i];rw[if_neg L,show(B==D)=av by simpa using L];rfl
   rw[q,q]
  have O:d' l f.1 f.2=-1\/d' l f.1 f.2=0\/d' l f.1 f.2=1:=by unfold d';split<;>split<;>first|exact .inr (.inl rfl)|exact .inl rfl|exact .inr<|.inr rfl
  rw[jY (kb o<|i' o)<|ao (bQ o) z,a3,mO,kc,a3,mO,kc,a3,R,a3,ZO E O,a3];show(I<|af.int<|((s.getD l 0:Nat):Int)+(n:Nat)*d' l f.1 f.2).bind (λab=>aI .Mod ab<|J 3)=_;rw[a3];show I (af.int<|OW _ ((3:Nat):Int))=_;rw[Bj _ z];refine congrArg (λS=>I<|af.int S) ?_;exact(og<|sd _ z).symm
 exact aj.leaf 16 (λH K=>z) U
theorem Ml(v:c6):∀(d:List (Nat×Nat))(k:Nat)(σ:aG)(b:List (List Nat)),(∀p:Nat×Nat,σ.vals [("b",J p.2),("a",J p.1)]=Oy v p b)->d≠[]->k+d.length<=6->b.length<=2^k->(∀C∈b,C.length=4)->∃a,gc (bc 8) cR [] σ (jT<|aT 36) (fk<|aT 36) (d.map c3) (.next<|xt v a<|d.foldl (λb i=>b.flatMap λs=>[dF s 1 i.1 i.2,dF s 2 i.1 i.2]) b)
 |[]=>@λZ t D E j m F G=>absurd rfl j
 |p::d=>@λk σ b A Z y H n=>by
  rw[gG]at y
  have ax:2^k<=2^6:=fp z<|ao (cv _ _) o
  have q:aE (bc 8) cR [] (σ.vals [("b",J p.2),("a",J p.1)]) (fk<|aT 36) (.next<|xt v p<|b.flatMap λs=>[dF s 1 p.1 p.2,dF s 2 p.1 p.2]):=by rw[A,(z:fk (aT 36)=[aN (fk<|aT 36) 0])];exact aE.cons (az.name "flows" (l0<|b.flatMap λs=>[dF s 1 p.1 p.2,dF s 2 p.1 p.2]) z z z z<|Ws p b (ao o<|ao o z) n) aE.nil
  have w:eR cR (jT<|aT 36) (c3 p) []=I ([("b",J p.2),("a",J p.1)]:cf):=z
  by_cases f:d=[]
  subst f
  exact⟨p,gc.cons w q gc.nil⟩
  obtain⟨a,g⟩:=Ml v d (k+1) (xt v p<|b.flatMap λs=>[dF s 1 p.1 p.2,dF s 2 p.1 p.2]) (b.flatMap λs=>[dF s 1 p.1 p.2,dF s 2 p.1 p.2]) (λC=>z) f (by omega) (ao (tn (c:=2) λZ Z=>show 2<=2 by decide)<|qJ 2 o) (λC B=>by
   obtain⟨K,Z,ag⟩:=Bu.mp B;rcases c9.mp ag with rfl|ag;rfl;rw[c_]at ag;subst ag;rfl)
  exact⟨a,gc.cons w q g⟩
include H
def Rw:∃a,az (bc 8) cR [] (F4 v cS) (aT 36) (.next<|xt v a<|gD v.ws):=by have n:=H.mb;have b:=H.len;obtain⟨a,j⟩:=Ml v v.ws 0 (F4 v cS) [[0,0,0,0]] (λs=>z) (λi=>absurd (ao n<|bQ<|b.symm.trans<|congrArg sk i) z) (by rw[ij,b];exact H.da) (cz _) (λw c=>by rw[c_]at c;subst c;rfl);exact⟨a,az.loop (ds:=v.ws.map c3) z z (ck.lf 9 (v.ws.map c3) λt q=>z) z j⟩
end
section
variable{O:Nat->cY}{S:a0}{M:List au}{σ:aG}{r:h3}
def e9(i:aP):List aP:=(pn i).elim [] (·.2.2.1)
def DW(i:aP):Bool:=(pn i).isSome
def LL{st:aP}(j:DW st=ah):∃k a x s,st=.If k a x s:=(mT j).elim λab n=>⟨_,_,_,_,OJ n⟩
def az.g9{st:aP}(a:DW st=ah)(j:bO O S σ.plus (aO st) ah)(k:aE O S M σ (c2 st) r):az O S M σ st r:=by obtain⟨e,d,x,s,rfl⟩:=LL a;exact(j.and k).succ λc y j=>b' j.1 j.2
def az.nW{st:aP}(a:DW st=ah)(j:bO O S σ.plus (aO st) av)(k:aE O S M σ (e9 st) r):az O S M σ st r:=by obtain⟨e,d,x,s,rfl⟩:=LL a;exact(j.and k).succ λc y j=>b' j.1 j.2
def B6(st:aP):aq:=((uw st).bind λab=>(kM ab.1).bind λg=>g.2.1.head?).getD ie
def D8(st:aP):Option (au×au×a8×List aq×a8):=(uw st).bind λab=>(pq ab.1).bind λg=>(fo g.1).map λb=>(b.1,g.2)
def Mt{st:aP}{ab}(j:D8 st=I ab):∃d q,st=.Expr (.Call (.Attribute (.Name ab.1 d) ab.2.1 ab.2.2.1) ab.2.2.2.1 [] ab.2.2.2.2) q:=bK j λm ag j=>bK j λg w j=>fm j λb k i=>⟨b.2,m.2,by rw[aea ag,A_ w,jy k,<-i]⟩
def D9(a r:au)(k:aq->Bool)(st:aP):Bool:=(D8 st).elim av λab=>(i2 ab.2.2.2.1).elim av λi=>a==ab.1&&(ab.2.1==r&&(ab.2.2.1.endLine==ab.2.2.2.2.line&&k i))
inductive Ig(x m:Str)(t:aq->Bool):Stmt->Prop
 |mk {np ap e p q} (k3:(ap.endLine==p.line)=true) (Lg:t e=true):Ig x m t (.Expr (.Call (.Attribute (.Name x np) m ap) [e] [] p) q)
def Mu{a r k st}(j:D9 a r k st=ah):Ig a r k st:=by obtain⟨ab,l,j⟩:=eU j;obtain⟨i,f,j⟩:=eU j;obtain⟨d,q,cD⟩:=Mt l;have p:=aY (aY j).2;rw[cD,m2 f,bF (aY j).1,bF p.1];exact .mk (aY p.2).1 (aY p.2).2
def SF(m:au):aP->Bool:=D9 m "append" λi=>(rN i).isNone
def az.app(m:au){st:aP}(a:SF m st=ah)(ag:σ.lookup m=I (.own l))(i:eD d=ah)(r:l.length<=1000000)(f:aj O S σ.plus (B6 st) d)(e:σ.set m (.own<|l++[d])=aX):az O S M σ st (.next aX):=by
 cases Mu a with|mk s b=>
 replace b:=rH b;have g:(eD d&&bI l.length 1000000)=ah:=by rw[i,gH.mpr r];rfl
 have k:lL (σ.lookup m)=I l:=by rw[ag];rfl
 exact e▸f.succ λt y j=>fE (by rw[s];rfl)<|oN b<|b' k<|b' j<|fE g rfl
def Nk(m:au)(st:aP):Bool:=(D8 st).elim av λab=>ab.2.2.2.1.isEmpty&&(m==ab.1&&(ab.2.1==("reverse":au)&&ab.2.2.1.endLine==ab.2.2.2.2.line))
inductive Ij(x:Str):Stmt->Prop
 |mk {np ap p q} (k3:(ap.endLine==p.line)=true):Ij x (.Expr (.Call (.Attribute (.Name x np) ("reverse":Str) ap) [] [] p) q)
def abJ{st:aP}(j:Nk m st=ah):Ij m st:=by obtain⟨ab,l,j⟩:=eU j;obtain⟨d,q,cD⟩:=Mt l;have f:=aY j;have p:=aY (aY f.2).2;rw[cD,pz.mp f.1,bF (aY f.2).1,bF p.1];exact .mk p.2
def az.rev(m:au){st:aP}(a:Nk m st=ah)(ag:σ.lookup m=I (.own l))(r:l.length<=1000000)(e:σ.set m (.own l.reverse)=aX):az O S M σ st (.next aX):=by
 cases abJ a with|mk s=>
 have b:lL (σ.lookup m)=I l:=by rw[ag];rfl
 exact e▸bR.rQ λt y=>fE (by rw[s];rfl)<|b' b<|fE (gH.mpr r) rfl
end
def RU:a0:=a0.fn<|b9 ll
def ri(c:Nat):aP:=aN (bp ll) c
def ael(f p y:Nat):aG:=[("a",.val<|J f),("b",.val<|J p),("n",.val<|J y)]
def nT(f p:Nat):af:=.tuple [J<|f/p,J<|f%p]
def Vn(f:Nat)(j:0<p)(q:p<2^250):y5 [J f,J p]=I (nT f p):=by show(if(((p:Nat):Int)!=0&&!nr (f:Nat) (p:Nat))=ah then I (af.tuple [.int<|(f:Int).fdiv (p:Nat),.int<|(f:Int).fmod (p:Nat)])else ai)=_;rw[yv<|show((p:Nat):Int).natAbs<2^250 from q,wR j,if_pos rfl,Bi _<|fR _,<-Bl,Bj _<|fR _,<-O2];rfl
def Vl(k:Nat)(j:0<p)(d:p<2^250)(c:f<2^200):bR λt Z=>(bc (k+1) t).call "_div2n1n" [J f,J p,J y]=I (nT f p):=by
 refine nA (k:=k) (G:=gf ll []) z z z z ?_;show aE (bc k) RU [] (c4 (bH ll) [J f,J p,J y]) (bp ll) _;rw[show c4 (bH ll) [J f,J p,J y]=ael f p y by kernel_rfl,(z:bp ll=ri 0::(bp ll).tail)];have m:dn ((f:Nat):Int)<=200:=nX c;refine aE.ret<|az.g9 z (bO.cmp (op:=.LtE) (a:=.int<|(dn ((f:Nat):Int):Int) -(y:Nat)) (b:=J 4000) z ?_ ?_ λt=>?_) ?_;refine aj.bin (op:=.Sub) (a:=J<|dn ((f:Nat):Int)) (b:=J y) z ?_ (aj.leaf 9 (x:=I<|J y) (λt q=>by cases k<;>kernel_rfl) rfl) λt=>by cases k<;>rfl
 refine aj.e' (a:=J f) (ds:=[]) z (aj.leaf 9 (x:=I<|J f) (λt q=>by cases k<;>kernel_rfl) rfl) ?_<|mV (k:=k) rfl rfl;rw[(z:bo (cU<|cU<|aO<|ri 0)=[])];exact aD.nil;exact aj.leaf 9 (x:=I<|J 4000) (λt q=>by cases k<;>kernel_rfl) rfl;have:fC .LtE (.int<|(dn ((f:Nat):Int):Int) -(y:Nat)) (J 4000)=I ah:=congrArg I<|decide_eq_true<|j9 (aeL _<|fR _)<|gR.mpr<|ao o z;cases k<;>exact this;rw[(z:c2 (ri 0)=[aN (c2<|ri 0) 0])];refine aE.ret<|az.ret z<|aj.call (ds:=[J f,J p]) z z ?_<|hl (k:=k) (g:=y5) z<|Vn f j d;rw[show bo (aO<|aN (c2<|ri 0) 0)=[cp<|aO<|aN (c2<|ri 0) 0,((bo<|aO<|aN (c2<|ri 0) 0)[1]?).getD bJ]by kernel_rfl];exact aD.cons z (aj.leaf 9 (x:=I<|J f) (λt q=>by cases k<;>kernel_rfl) rfl) (aD.cons z (aj.leaf 9 (x:=I<|J p) (λt q=>by cases k<;>kernel_rfl) rfl) aD.nil)
def yG:a0:=a0.fn<|b9 me
def hI(c:Nat):aP:=aN (bp me) c
def rk(c:Nat):aP:=aN (fk<|hI 4) c
def Ad(f p y:Nat)(g:List Nat):aG:=[("a_digits",.val<|.list<|g.map J),("n",.val<|J y),("a",.val<|J f),("b",.val<|J p)]
def cG:Option (Nat×Nat)->aG|none=>[]|some s=>[("q_digit",.val<|J s.1),("a_digit",.val<|J s.2)]
def p5(f p y:Nat)(g h:List Nat)(w:Nat)(m:Option (Nat×Nat)):aG:=("q_digits",.own<|h.map J)::("r",.val<|J w)::(cG m++Ad f p y g)
def Le(f p y:Nat)(g h:List Nat)(w d:Nat)(m:Option (Nat×Nat)):aG:=(p5 f p y g h w m).vals [("a_digit",J d)]
def XC(f p y:Nat)(g h:List Nat)(w d i:Nat):aG:=("r",.val<|J w)::("q_digit",.val<|J i)::("a_digit",.val<|J d)::("q_digits",.own<|h.map J)::Ad f p y g
def acb(n:f<2^200)(y:k<=250):aI .LShift (J f) (J k)=I (J<|f*2^k):=FK n<|ao (hB y 200) z
def adx(k A p c:Nat)(g h:List Nat)(w d:Nat)(m:Option (Nat×Nat))(h0:0<p)(q:p<2^100)(s:c<=100)(E:w<p)(D:d<2^c)(G:h.length<=1000):aE (bc<|k+1) yG ["q_digits"] (Le A p c g h w d m) (fk<|hI 4) (.next<|p5 A p c g (h++[(w*2^c+d)/p]) ((w*2^c+d)%p)<|I ((w*2^c+d)/p,d)):=by
 rw[(z:fk (hI 4)=[rk 0,rk 1])];have C:2^c<=2^100:=fp z s;have ag:w*2^c+d<2^200:=by
  have:w*2^c+2^c<=2^100*2^100:=by rw[<-BE];exact jF (jc o o) C
  exact cq (xQ D _)<|ao this<|bQ (pC 2 100 100).symm
 refine aE.cons (aX:=XC A p c g h ((w*2^c+d)%p) d<|(w*2^c+d)/p) ?_<|aE.cons ?_ aE.nil;have i:((aI .LShift (J w)<|J c).bind λf=>aI .Add f<|J d)=I (J<|w*2^c+d):=by rw[acb (jc (jc E q) z)<|ao o z,a3,hj]
 have j:∀m,aj (bc<|k+1) yG (Le A p c g h w d m).plus (aO<|rk 0) (nT (w*2^c+d) p):=λm=>by
  refine aj.call (ds:=[J<|w*2^c+d,J p,J c]) (by rcases m with _|m<;>kernel_rfl) (by rcases m with _|m<;>kernel_rfl) ?_<|Vl k h0 (jc q<|afy z z) ag;rw[show bo (aO<|rk 0)=[cp<|aO<|rk 0,((bo<|aO<|rk 0)[1]?).getD bJ,((bo<|aO<|rk 0)[2]?).getD bJ]by kernel_rfl];rcases m with _|m;all_goals
   exact aD.cons z (aj.leaf 12 (λt B=>z) i)<|aD.cons z (aj.lf 9 (J p) λt B=>z)<|aD.cons z (aj.lf 9 (J c) λt B=>z) aD.nil
 exact az.to (d:=nT (w*2^c+d) p) (hz:=[("r",J<|(w*2^c+d)%p),("q_digit",J<|(w*2^c+d)/p)]) z (by rcases m with _|m<;>kernel_rfl) z (by rcases m with _|m<;>kernel_rfl)<|j m;exact az.app "q_digits" (l:=h.map J) (d:=J<|(w*2^c+d)/p) z z z (by rw[bZ];exact ao o z) (aj.lf 9 (J<|(w*2^c+d)/p) λt B=>z) (by rw[show h.map J++[J<|(w*2^c+d)/p]=(h++[(w*2^c+d)/p]).map J by rw[ig];rfl];rfl)
def fJ(y:Nat)(d:List Nat):Nat:=cJ y d.reverse
def Lo(y:Nat)(a:List Nat)(d:Nat):fJ y (a++[d])=fJ y a*2^y+d:=by unfold fJ;rw[GU];show d+2^y*cJ y a.reverse=_;rw[qI,e6]
theorem Mi(k H p c:Nat)(g:List Nat)(h0:0<p)(F:p<2^100)(s:c<=100):∀(f i e:List Nat)(m:Option (Nat×Nat)),(∀d∈f,d<2^c)->e.length+f.length<=1000->fJ c e=fJ c i/p->∃E A,gc (bc<|k+1) yG ["q_digits"] (p5 H p c g e (fJ c i%p) m) (jT<|hI 4) (fk<|hI 4) (f.map J) (.next<|p5 H p c g A (fJ c (i++f)%p) E)/\fJ c A=fJ c (i++f)/p/\A.length=e.length+f.length/\(∀d∈A,d∈e\/d<2^200)
 |[]=>@λi e m Z t j=>⟨m,e,by rw[qB];exact gc.nil,by rw[qB];exact j,rfl,λd B=>.inl B⟩
 |d::f=>@λi e m B r j=>by
  rw[gG]at r
  have C:=B d dA
  have L:fJ c i%p<p:=f_ _ h0
  have G:=Lo c i d
  have aC:(fJ c i%p*2^c+d)%p=fJ c (i++[d])%p:=by rw[G,GW,afu,Nat.mod_mod,<-afu,<-GW]
  have aM:fJ c e*2^c+(fJ c i%p*2^c+d)/p=fJ c (i++[d])/p:=by
   rw[G,j];have:fJ c i*2^c+d=(fJ c i%p*2^c+d)+p*(fJ c i/p*2^c):=by have:=GZ (fJ c i) p;rw[<-PB,e7,<-GX,e6<|fJ c i%p,this]
   rw[this,GY _ _ h0,e6]
  have K:2^c<=2^100:=fp z s
  have ag:fJ c i%p*2^c+d<2^200:=by
   have:fJ c i%p*2^c+2^c<=2^100*2^100:=by rw[<-BE];exact jF (jc o o) K
   exact cq (xQ C _)<|ao this<|bQ (pC 2 100 100).symm
  obtain⟨E,A,di,dq,M,w⟩:=Mi k H p c g h0 F s f (i++[d]) (e++[(fJ c i%p*2^c+d)/p]) (I ((fJ c i%p*2^c+d)/p,d)) (λN D=>B N<|dt _ D) (by rw[gF];exact ao (bQ<|e7 e.length 1 f.length) r) (by rw[Lo,aM])
  rw[lC]at di dq
  refine⟨E,A,?_,dq,by rw[M];simp;exact e7 _ _ _,λN D=>?_⟩
  rw[<-aC]at di
  exact gc.cons (aK:=[("a_digit",J d)]) z (adx k H p c g e _ d m h0 F s L C<|ao (cv _ _) o) di
  rcases w N D with q|q
  rcases jD.mp q with q|q
  exact .inl q
  rw[c_]at q
  subst q
  exact .inr<|b4 (aff _ _) ag
  exact .inr q
theorem Ke(y f:Nat):∀K,cJ y ((aH K).map λc=>f/2^(y*c)%2^y)=f%2^(y*K)
 |0=>by simp[cJ,Nat.mod_one]
 |K+1=>by
  rw[sl,ig,zb,Ke y f K,bZ,f9]
  show _+_*(f/2^(y*K)%2^y+2^y*0)=_
  rw[BC,afd,uS,pC,Nat.mod_mul]at⊢
def MT(f p:Nat):aG:=[("a",.val<|J f),("b",.val<|J p)]
def aaN(f p y:Nat):aG:=("n",.val<|J y)::MT f p
def Vo(k:Nat)(h0:0<p)(E:p<2^100)(K:f<2^100):bR λt Z=>(bc (k+2) t).call "_divmod_pos" [J f,J p]=I (nT f p):=by
 refine nA (k:=k+1) (G:=gf me ["q_digits"]) z z z z ?_;show aE (bc<|k+1) yG ["q_digits"] (c4 (bH me) [J f,J p]) (bp me) _;have m:dn ((p:Nat):Int)<=100:=nX E;have r:1<=dn ((p:Nat):Int):=by have:=D7 p;rcases afi (dn ((p:Nat):Int))with j|j;rw[j]at this;exact absurd this<|Nat.not_lt_of_le h0;exact j
 generalize M:dn ((p:Nat):Int)=y at m r;have H:d6 y f<=100:=by unfold d6;rw[afe r,Bz r];exact qE (ao (nX K)<|Nat.le_mul_of_pos_left 100 r) _
 have x:(ei y f).length=d6 y f:=by unfold ei;simp
 have c:fJ y ((ei y f).reverse)=f:=by unfold fJ ei;rw[List.reverse_reverse,Ke];have:=zz (n:=y) (a:=f) r;rw[PF]at this;exact qH this
 obtain⟨A,e,di,dq,P,w⟩:=Mi k f p y (ei y f) h0 E m (ei y f).reverse [] [] ai (λd B=>by
  have B:=uO.mp B;unfold ei at B;obtain⟨Q,Z,rfl⟩:=ez.mp B;exact f_ _<|nk y) (by simp[x];exact ao o z) (by show 0=0/p;rw[Nat.zero_div])
 rw[GR,c]at di dq;have O:fJ y []%p=0:=Nat.zero_mod p;rw[O]at di;rw[show c4 (bH me) [J f,J p]=MT f p by kernel_rfl,(z:bp me=[hI 0,hI 1,hI 2,hI 3,hI 4,hI 5,hI 6,hI 7])];have L:e.length<=100:=by rw[P];simp[x];assumption
 refine aE.cons (aX:=aaN f p y) ?_<|aE.cons (aX:=Ad f p y<|ei y f) ?_<|aE.cons (aX:=("r",.val<|J 0)::Ad f p y (ei y f)) ?_<|aE.cons (aX:=p5 f p y (ei y f) [] 0 ai) ?_<|aE.cons (aX:=p5 f p y (ei y f) e (f%p) A) ?_<|aE.cons (aX:=p5 f p y (ei y f) e.reverse (f%p) A) ?_<|aE.cons (aX:=("q",.val<|J<|f/p)::p5 f p y (ei y f) e.reverse (f%p) A) ?_<|aE.ret ?_;refine az.to (d:=J y) (hz:=[("n",J y)]) z z z z ?_;refine aj.e' (a:=J p) (ds:=[]) z (aj.lf 9 (J p) λt C=>z) ?_ (mV (k:=k+1) rfl (by rw[<-M];rfl));rw[(z:bo (aO<|hI 0)=[])];exact aD.nil;refine az.to (d:=.list<|(ei y f).map J) (hz:=[("a_digits",.list<|(ei y f).map J)]) z z z z ?_;refine aj.call (ds:=[J f,J y]) z z ?_<|lV (k:=k+1) (g:=zG) z z ?_;rw[show bo (aO<|hI 1)=[cp<|aO<|hI 1,((bo<|aO<|hI 1)[1]?).getD bJ]by kernel_rfl];exact aD.cons z (aj.lf 9 (J f) λt C=>z)<|aD.cons z (aj.lf 9 (J y) λt C=>z) aD.nil;show(if(bI 1 y&&bI y 10000&&bI (d6 y f) 200)=ah then I (af.list<|ea<|ei y f)else ai)=_;rw[if_pos (by rw[pA r,pA<|ao m z,pA<|ao H z];rfl)];rfl;exact az.to (d:=J 0) (hz:=[("r",J 0)]) z z z z<|aj.lf 9 (J 0) λt C=>z;exact az.fresh "q_digits" (ds:=[]) z z (aj.lf 9 (.list []) λt C=>z) z;refine az.loop (ds:=((ei y f).reverse).map J) z z ?_ (by rw[tp,Bg]) di;rw[ae7];exact ck.lf 9 ((ei y f).map J).reverse λt C=>z;refine az.rev "q_digits" (l:=e.map J) z z (by rw[bZ];exact ao o z) ?_;rw[<-ae7];rcases A with _|A<;>kernel_rfl
 ·have B:p7 [.list<|e.reverse.map J,J y]=I (J<|f/p):=by have s:cJ y e.reverse=f/p:=dq;show(j1<|e.reverse.map J).bind (λD=>if(bI 1 y&&bI y 10000&&bI D.length 200&&D.all λd=>ng d<|2^10000)=ah then I (af.int (cJ y D:Nat))else ai)=_;rw[rI,a3,if_pos];rw[s];rfl;simp only[bY,gH,bG,oi,GO];refine⟨⟨⟨r,by exact ao o z⟩,by exact ao o z⟩,λd B=>?_⟩;rcases w d (uO.mp B)with q|q;cases q;exact cq q (fp z<|cy _ _)
  refine az.to (d:=J<|f/p) (hz:=[("q",J<|f/p)]) z (by rcases A with _|A<;>kernel_rfl) z (by rcases A with _|A<;>kernel_rfl) ?_;refine aj.call (ds:=[.list<|e.reverse.map J,J y]) z (by rcases A with _|A<;>kernel_rfl) ?_<|lV (k:=k+1) (g:=p7) z z B;rw[show bo (aO<|hI 6)=[cp<|aO<|hI 6,((bo<|aO<|hI 6)[1]?).getD bJ]by kernel_rfl];rcases A with _|A;all_goals
   exact aD.cons z (aj.lf 9 (.list<|e.reverse.map J) λt C=>z)<|aD.cons z (aj.lf 9 (J y) λt C=>z) aD.nil
 ·rcases A with _|A;all_goals
   exact az.ret z<|aj.lf 12 (nT f p) λt C=>z
def vs:a0:=a0.fn<|b9 mf
def DO:aP:=aN (bp mf) 0
def di:aP:=aN (e9 DO) 0
def dq:aP:=aN (e9 di) 0
noncomputable def pW(f p:Int):aG:=[("a",.val<|.int f),("b",.val<|.int p)]
def Km(f p q w:Int):aG:=("r",.val<|.int w)::("q",.val<|.int q)::pW f p
def kD(q w:Int):af:=.tuple [.int q,.int w]
def DR(k:Nat)(h0:b≠0)(j:aE (bc k) vs [] (pW a b) [di] (.ret d)):bR λt Z=>(bc (k+1) t).call "int_divmod" [.int a,.int b]=I d:=by
 refine nA (k:=k) (G:=gf mf []) z z z z ?_;show aE (bc k) vs [] (c4 (bH mf) [.int a,.int b]) (bp mf) _;rw[show c4 (bH mf) [.int a,.int b]=pW a b by kernel_rfl,(z:bp mf=[DO])];have q:(b==0)=av:=by simpa using h0
 refine aE.ret (az.nW z (bO.cmp (op:=.Eq) (a:=.int b) (b:=.int 0) z (aj.leaf 9 (x:=I<|.int b) (λt c=>by cases k<;>kernel_rfl) rfl) (aj.leaf 9 (x:=I<|.int 0) (λt c=>by cases k<;>kernel_rfl) rfl) λt=>?_) ?_);have:fC .Eq (.int b) (.int 0)=I av:=by show I (b==0)=_;rw[q]
 cases k<;>exact this;rw[(z:e9 DO=[di])];exact j
def wA(k:Nat)(f:zP .Lt e=ah)(s:aj (bc k) vs aK (cU e) (.int a))(l:aj (bc k) vs aK (dy e) (.int 0)):bO (bc k) vs aK e (decide (a<0)):=bO.cmp (op:=.Lt) f s l λt=>by cases k<;>rfl
def Lx(k:Nat)(h0:0<p)(d:p<2^100)(n:a<2^100):bR λt Z=>(bc (k+3) t).call "int_divmod" [J a,J p]=I (nT a p):=by refine DR (k+2) (a:=(a:Nat)) (b:=(p:Nat)) (λq=>absurd (uI q)<|ih h0) ?_;have r:=wA (k+2) (a:=(p:Nat)) (e:=aO di) (aK:=(pW (a:Nat) (p:Nat)).plus) z (aj.lf 9 (J p) λt c=>z)<|aj.lf 9 (.int 0) λt c=>z;have j:=wA (k+2) (a:=(a:Nat)) (e:=aO dq) (aK:=(pW (a:Nat) (p:Nat)).plus) z (aj.lf 9 (J a) λt c=>z)<|aj.lf 9 (.int 0) λt c=>z;rw[decide_eq_false<|ja.mpr<|fR p]at r;rw[decide_eq_false<|ja.mpr<|fR a]at j;refine aE.ret<|az.nW z r ?_;rw[(z:e9 di=[dq])];refine aE.ret<|az.nW z j ?_;rw[(z:e9 dq=[aN (e9 dq) 0])];refine aE.ret<|az.ret z<|aj.call (ds:=[J a,J p]) z z ?_<|Vo k h0 d n;rw[show bo (aO<|aN (e9 dq) 0)=[cp<|aO<|aN (e9 dq) 0,((bo<|aO<|aN (e9 dq) 0)[1]?).getD bJ]by kernel_rfl];exact aD.cons z (aj.lf 9 (J a) λt c=>z)<|aD.cons z (aj.lf 9 (J p) λt c=>z) aD.nil
def ME(k:Nat):Int.negSucc k=-(k:Int) -1:=(Int.negSucc_eq k).trans Int.neg_add
def ZT(k:Nat):(-(k:Int) -1).natAbs=k+1:=congrArg Int.natAbs (ME k).symm
def ZX(m w p:Int):-(m+w) -1=p -1 -w+(-m -p):=by omega
def Lw(k:Nat)(h0:0<p)(m:p<2^100)(n:f.natAbs<2^100):bR λt Z=>(bc (k+4) t).call "int_divmod" [.int f,J p]=I (kD (f/(p:Nat))<|f%(p:Nat)):=by
 rcases Int.lt_or_le f 0 with s|s;obtain⟨c,rfl⟩:∃c:Nat,f=-(c:Int) -1:=(Int.eq_negSucc_of_lt_zero s).elim λc B=>⟨c,B.trans<|ME c⟩;refine DR (k+3) (b:=(p:Nat)) (λq=>absurd (uI q)<|ih h0) ?_;have r:=wA (k+3) (a:=(p:Nat)) (e:=aO di) (aK:=(pW (-(c:Int) -1) (p:Nat)).plus) z (aj.lf 9 (J p) λt h=>z)<|aj.lf 9 (.int 0) λt h=>z;have j:=wA (k+3) (a:=-(c:Int) -1) (e:=aO dq) (aK:=(pW (-(c:Int) -1) (p:Nat)).plus) z (aj.lf 9 (.int<|-(c:Int) -1) λt h=>z)<|aj.lf 9 (.int 0) λt h=>z;rw[decide_eq_false<|ja.mpr<|fR p]at r;rw[decide_eq_true<|by assumption]at j;refine aE.ret<|az.nW z r ?_;rw[(z:e9 di=[dq])];refine aE.ret<|az.g9 z j ?_;rw[(z:c2 dq=[aN (c2 dq) 0,aN (c2 dq) 1])];refine aE.cons (aX:=Km (-(c:Int) -1) (p:Nat) ((c/p:Nat):Int) ((c%p:Nat):Int)) ?_<|aE.ret<|az.ret z ?_;refine az.to (d:=nT c p) (hz:=[("r",J<|c%p),("q",J<|c/p)]) z z z z<|aj.call (ds:=[J c,J p]) z z ?_<|Lx k h0 m<|G3<|show c+1<2^100 from ZT c▸n;rw[show bo (aO<|aN (c2 dq) 0)=[cp<|aO<|aN (c2 dq) 0,((bo<|aO<|aN (c2 dq) 0)[1]?).getD bJ]by kernel_rfl];refine aD.cons z (aj.leaf 9 (x:=I<|.int<|sr<|-(c:Int) -1) (λt h=>z) ?_)<|aD.cons z (aj.lf 9 (J p) λt h=>z) aD.nil;refine congrArg (λG=>I<|af.int G) ?_;show -(-(c:Int) -1) -1=_;rw[Int.neg_sub,Int.sub_neg,uG,aeD];have B:kD ((-(c:Int) -1)/(p:Nat)) ((-(c:Int) -1)%(p:Nat))=.tuple [.int<|sr ((c/p:Nat):Int),.int<|(p:Nat)+sr ((c%p:Nat):Int)]:=by
  have C:=GZ c p;have l:=f_ c h0;have aC:(-(c:Int) -1)=(p:Int) -1 -((c%p:Nat):Int)+(p:Nat)*(-((c/p:Nat):Int) -1):=by
   have g:((p*(c/p)+c%p:Nat):Int)=(c:Nat):=by rw[C]
   rw[se,Bm]at g;rw[O1,Bk,oe,<-g];exact ZX ..
  have w:0<=(p:Int) -1 -((c%p:Nat):Int):=Int.sub_nonneg_of_le<|OY<|lB.mpr l;have y:(p:Int) -1 -((c%p:Nat):Int)<p:=lA (aeL _<|fR _)<|Int.sub_lt_self _ z;have D:(-(c:Int) -1)/(p:Nat)=-((c/p:Nat):Int) -1:=by rw[aC,Int.add_mul_ediv_left _ _ λq=>absurd (uI q)<|ih h0,Int.ediv_eq_zero_of_lt w y,qA]
  have E:(-(c:Int) -1)%(p:Nat)=(p:Nat) -1 -((c%p:Nat):Int):=by rw[aC,OU,xF w y]
  rw[D,E];unfold kD sr;refine congrArg (λG=>af.tuple [af.int<|-((c/p:Nat):Int) -1,af.int G]) ?_;exact(Int.add_right_comm (p:Int) (-1) _).trans (uF ..)
 rw[B];exact aj.lf 12 (.tuple [.int<|sr ((c/p:Nat):Int),.int<|(p:Nat)+sr ((c%p:Nat):Int)]) λt h=>z;obtain⟨c,rfl⟩:∃c:Nat,f=(c:Int):=⟨f.toNat,(og s).symm⟩;have:=Lx (k+1) (a:=c) h0 m n;rw[show kD ((c:Int)/(p:Nat)) ((c:Int)%(p:Nat))=nT c p by unfold kD nT J;rw[Bl,O2]];exact this
def XD(k:Nat){p:Nat}(h0:0<p)(g:p<2^100)(n:f.natAbs<2^100):bR λt Z=>(bc (k+5) t).call "int_divmod" [.int<|-f,.int<|-(p:Int)]=I (kD (f/(p:Nat))<|-(f%(p:Nat))):=by refine DR (k+4) (λq=>absurd (uI<|Int.neg_eq_zero.mp q)<|ih h0) ?_;have r:=wA (k+4) (a:=-(p:Int)) (e:=aO di) (aK:=(pW (-f)<|-(p:Int)).plus) z (aj.lf 9 (.int<|-(p:Int)) λt c=>z)<|aj.lf 9 (.int 0) λt c=>z;rw[decide_eq_true<|Int.neg_neg_of_pos<|O3.mpr h0]at r;refine aE.ret<|az.g9 z r ?_;rw[(z:c2 di=[aN (c2 di) 0,aN (c2 di) 1])];refine aE.cons (aX:=Km (-f) (-(p:Int)) (f/(p:Nat))<|f%(p:Nat)) ?_<|aE.ret<|az.ret z<|aj.lf 12 (kD (f/(p:Nat))<|-(f%(p:Nat))) λt c=>z;refine az.to (d:=kD (f/(p:Nat))<|f%(p:Nat)) (hz:=[("r",.int<|f%(p:Nat)),("q",.int<|f/(p:Nat))]) z z z z<|aj.call (ds:=[.int f,J p]) z z ?_<|Lw k h0 g n;rw[show bo (aO<|aN (c2 di) 0)=[cp<|aO<|aN (c2 di) 0,((bo<|aO<|aN (c2 di) 0)[1]?).getD bJ]by kernel_rfl];exact aD.cons z (aj.leaf 9 (x:=I<|.int<|- -f) (λt c=>z)<|by rw[aeJ]) (aD.cons z (aj.leaf 9 (x:=I<|.int<|- -(p:Int)) (λt c=>z) (by rw[aeJ];rfl)) aD.nil)
section
def oX(t:c6):List Nat:=(aH<|bC t.ws+1).map λk=>(e8 t<|dR t).count (k,0)
def oV(t:c6):List Nat:=(aH<|t.n -bC t.ws+1).map λk=>(e8 t<|d9 t).count (0,k)
def q3(t:c6):Nat:=cJ (bB t)<|oX t
def qX(t:c6):Nat:=cJ (bB t)<|oV t
def fW(t:c6):Int:=(-1)^bC t.ws*((q3 t:Nat):Int)
def ix(t:c6):Int:=(-1)^(t.n -bC t.ws)*((qX t:Nat):Int)
def c5(t:c6):Nat:=2^bB t+2
def Oa(t:c6)(s:Nat×Nat):aG:=xt t s<|gD t.ws
def F5(t:c6)(s:Nat×Nat):aG:=q "held" (J<|q3 t)<|Oa t s
def F6(t:c6)(s:Nat×Nat):aG:=q "free" (J<|qX t)<|F5 t s
def F7(t:c6)(s:Nat×Nat):aG:=q "first" (.int<|fW t)<|q "second" (.int<|ix t)<|q "by" (J<|c5 t)<|F6 t s
def F8(t:c6)(s:Nat×Nat):aG:=q "rest" (.int<|fW t%(c5 t:Nat))<|q "whole" (.int<|fW t/(c5 t:Nat))<|F7 t s
def H_(k:Nat):(0:Int)^k=if k=0 then 1 else 0:=by induction k using cN with|zero=>rfl|succ k=>rw[nc,xG,if_neg<|afF k]
theorem Fb(r:Int)(j:f%r=p%r):∀k:Nat,f^k%r=p^k%r|0=>by rw[sg,sg]|k+1=>by rw[nc,nc,pw,Fb r j k,j,<-pw]
theorem FR{s:Type}(r:Int)(y e:s->Int):∀d:List s,(∀a∈d,y a%r=e a%r)->(d.map y).sum%r=(d.map e).sum%r|[]=>@λZ=>rfl|a::d=>@λj=>by rw[c8,c8,j',j',sb,j a dA,FR r y e d λp q=>j p<|dt _ q,<-sb]
def KQ(n:List (Nat×Nat)):(gD n).length=2^n.length:=by
 induction n using pJ with
 |h0=>rfl
 |k3 n i g=>
  have y:∀d:List (List Nat),(d.flatMap λs=>[dF s 1 i.1 i.2,dF s 2 i.1 i.2]).length=d.length*2:=λd=>by induction d with|nil=>rfl|cons f d g=>rw[px,gF,g,gG];exact(e6 2 _).trans (BE d.length 2).symm
  rw[KR,y,g,gF,Pn,xU]
variable{v:c6}(cS:Nat×Nat)(H:mI v)
include H
def Q0:((q3 v:Nat):Int)=iL v.ws (2^bB v) 0:=by
 unfold q3 oX;rw[Dc (bB v) (λq=>if q.2=0 then I q.1 else ai) (λk=>(k,0)) (λk q=>by
   obtain⟨f,p⟩:=q;show(k,0)=(f,p)↔(if p=0 then I f else ai)=I k;by_cases j:p=0;subst j;simp[eq_comm];rw[if_neg j];simp[eq_comm,j]) (e8 v<|dR v) (λq c k y=>by
   have:=(yx H q c).1;by_cases j:q.2=0;rw[if_pos j]at y;cases y;exact hC o;rw[if_neg j]at y;cases y),xn,<-r3 H H.wV]
 congr 1;refine jb λq Z=>?_;rw[H_];by_cases j:q.2=0;rw[if_pos j,if_pos j,oe,mv,GI];rfl;rw[if_neg j,if_neg j,xG];rfl
def QL:((qX v:Nat):Int)=iL v.ws 0 (2^bB v):=by
 unfold qX oV;rw[Dc (bB v) (λq=>if q.1=0 then I q.2 else ai) (λk=>(0,k)) (λk q=>by
   obtain⟨f,p⟩:=q;show(0,k)=(f,p)↔(if f=0 then I p else ai)=I k;by_cases j:f=0;subst j;simp[eq_comm];rw[if_neg j];simp[eq_comm,j]) (e8 v<|d9 v) (λq c k y=>by
   have:=(yx H q c).2;by_cases j:q.1=0;rw[if_pos j]at y;cases y;exact hC o;rw[if_neg j]at y;cases y),xn,<-r3 H H.Av]
 congr 1;refine jb λq Z=>?_;rw[H_];by_cases j:q.1=0;rw[if_pos j,if_pos j,sf,mv,GI];rfl;rw[if_neg j,if_neg j,O7];rfl
def CL:258<=c5 v:=by have d:2^8<=2^bB v:=fp z H.bB.1;exact qE d 2
theorem I6:(2^bB v:Int)%((c5 v:Nat):Int)=(-2)%((c5 v:Nat):Int):=by
 have i:((c5 v:Nat):Int)=2^bB v+2:=by unfold c5;rw[se,mv];rfl
 have:(2^bB v:Int)=-2+((c5 v:Nat):Int)*1:=by rw[i,oe,uG<|-2];exact(aeD _ 2).symm
 rw[this,OU]
def adK:iL v.ws (2^bB v) 0%((c5 v:Nat):Int)=iL v.ws (-2) 0%((c5 v:Nat):Int):=by rw[<-r3 H H.wV,<-r3 H H.wV];exact FR _ _ _ _ λq Z=>by rw[pw,Fb _<|I6 H,<-pw]
def adL:iL v.ws 0 (2^bB v)%((c5 v:Nat):Int)=iL v.ws 0 (-2)%((c5 v:Nat):Int):=by rw[<-r3 H H.Av,<-r3 H H.Av];exact FR _ _ _ _ λq Z=>by rw[pw,Fb _<|I6 H,<-pw]
def abE:fW v%((c5 v:Nat):Int)*3^(4 -bC v.ws)=3*(((i4 v).length:Nat):Int):=by
 have w:=UK H.ends;have j:=CL H;have i:fW v%((c5 v:Nat):Int)=((-1)^bC v.ws*iL v.ws (-2) 0)%((c5 v:Nat):Int):=by unfold fW;rw[Q0 H,pw,adK H,<-pw]
 have p:(((i4 v).length:Nat):Int)<=27:=by have:(i4 v).length<=hG.length:=mw ..;exact gR.mpr (ao this<|show hG.length<=27 by decide)
 have c:=H.nU.1;rw[i];have w:3*(((i4 v).length:Nat):Int)=((-1)^bC v.ws*iL v.ws (-2) 0)*3^(4 -bC v.ws):=by unfold i4;rw[w,pv,pv,uH<|3^_]
 rw[w];generalize(-1)^bC v.ws*iL v.ws (-2) 0=C at*;have l:0<=C/\C<=81:=by rw[<-show((3^(4 -bC v.ws):Nat):Int)=3^(4 -bC v.ws)from mv 3 _]at w;have h:(1:Int)<=((3^(4 -bC v.ws):Nat):Int):=gR.mpr<|BD z;have h0:0<=C:=Int.le_of_mul_le_mul_right (by rw[O7,<-w];exact fR _) h;exact⟨h0,j9 (j9 (GB (oe C).symm)<|aeG h h0)<|j9 (GB w.symm)<|aeG p z⟩
 rw[xF l.1<|lA l.2<|lB.mpr<|cq z j]
def Wr:ix v%((c5 v:Nat):Int)=(((gD v.ws).count [0,0,0,0]:Nat):Int):=by
 have w:=Wu H.ends;have j:=CL H;have r:(gD v.ws).length<=64:=by rw[KQ];exact H.pow
 have b:=O_ (a:=[0,0,0,0]) (l:=gD v.ws);rw[H.len]at w;unfold ix;rw[QL H,pw,adL H,<-pw,<-w,xF (fR _)<|lB.mpr<|b4 (ao b r)<|cq z j]
end
section
variable{v:c6}(cS:Nat×Nat)(H:mI v)
include H
def JI(aW:List Nat)(g:Nat×Nat):(e8 v aW).count g<2^bB v:=by have s:=O_ (a:=g) (l:=e8 v aW);have b:=ui H aW;have d:2^8<=2^bB v:=fp z H.bB.1;exact b4 s<|b4 b<|cq z d
def zJ:(∀d∈oX v,d<2^bB v)/\(∀d∈oV v,d<2^bB v):=by constructor;intro d a;unfold oX at a;obtain⟨k,Z,rfl⟩:=ez.mp a;exact JI H _ _;intro d a;unfold oV at a;obtain⟨k,Z,rfl⟩:=ez.mp a;exact JI H _ _
def Rx:az (bc 8) cR [] (Oa v cS) (aT 37) (.next<|F5 v cS):=by
 obtain⟨e,m⟩:=H.nU;obtain⟨c,j⟩:=H.bB;have s:=ui H<|dR v;refine az.name "held" (J<|q3 v) z z z z ?_;refine aj.call (ds:=[.list<|(oX v).map J,J<|bB v]) z z ?_ (lV (k:=8) (g:=p7) z z<|DI H (ao (cy _ _) o) (ao o z) (by unfold oX;rw[bZ,f9];exact ao (gS e) z) (zJ H).1);rw[show bo (aO<|aT 37)=[cp<|aO<|aT 37,((bo<|aO<|aT 37)[1]?).getD bJ]by kernel_rfl];refine aD.cons z ?_<|aD.cons z (aj.lf 9 (J<|bB v) λt q=>z) aD.nil;unfold oX;rw[dG];have l:((aI .Add (J<|bC v.ws)<|J 1).bind λd=>(I []).bind λw=>I<|d::w).bind eo=I ((aH<|bC v.ws+1).map J):=by rw[hj,a3,a3,a3];exact o'<|ao (gS e) z
 refine aj.dW (aH<|bC v.ws+1) J _ z (ck.leaf 12 (λt q=>(by kernel_rfl)) l) (λf=>z) (λk Z=>?_) (by rw[f9];exact ao (gS e) z);refine aj.e' (a:=.list<|(e8 v<|dR v).map en) (ds:=[c3 (k,0)]) z (aj.lf 9 (.list<|(e8 v<|dR v).map en) λt q=>z) ?_<|mV (k:=8) rfl<|CY (k,0)<|ao o z;rw[(z:bo (b8<|cp<|aO<|aT 37)=[cp<|b8<|cp<|aO<|aT 37])];exact aD.cons z (aj.lf 12 (c3 (k,0)) λt q=>z) aD.nil
def Ry:az (bc 8) cR [] (F5 v cS) (aT 38) (.next<|F6 v cS):=by
 obtain⟨e,m⟩:=H.nU;obtain⟨c,j⟩:=H.bB;have b:=H.da;have s:=ui H<|d9 v;refine az.name "free" (J<|qX v) z z z z ?_;refine aj.call (ds:=[.list<|(oV v).map J,J<|bB v]) z z ?_ (lV (k:=8) (g:=p7) z z<|DI H (ao (cy _ _) o) (ao o z) (by unfold oV;rw[bZ,f9];exact ao (gS<|ao (fz ..) H.da) z) (zJ H).2);rw[show bo (aO<|aT 38)=[cp<|aO<|aT 38,((bo<|aO<|aT 38)[1]?).getD bJ]by kernel_rfl];refine aD.cons z ?_<|aD.cons z (aj.lf 9 (J<|bB v) λt q=>z) aD.nil;unfold oV;rw[dG];have h:(((aI .Sub (J v.n)<|J<|bC v.ws).bind λf=>aI .Add f<|J 1).bind λd=>(I []).bind λw=>I<|d::w).bind eo=I ((aH<|v.n -bC v.ws+1).map J):=by rw[jw m,a3,hj,a3,a3,a3];exact o'<|ao (gS<|ao (fz ..) H.da) z
 refine aj.dW (aH<|v.n -bC v.ws+1) J _ z (ck.leaf 12 (λt q=>z) h) (λf=>z) (λk Z=>?_) (by rw[f9];exact ao (gS<|ao (fz ..) H.da) z);refine aj.e' (a:=.list<|(e8 v<|d9 v).map en) (ds:=[c3 (0,k)]) z (aj.lf 9 (.list<|(e8 v<|d9 v).map en) λt q=>z) ?_<|mV (k:=8) rfl<|CY (0,k)<|ao o z;rw[(z:bo (b8<|cp<|aO<|aT 38)=[cp<|b8<|cp<|aO<|aT 38])];exact aD.cons z (aj.lf 12 (c3 (0,k)) λt q=>z) aD.nil
omit H in
theorem wX(j:k<=6):aI .Pow (.int<|-1) (J k)=I (.int<|(-1)^k)/\((-1:Int)^k=1\/(-1:Int)^k=-1):=by
 have y:∀k∈[0,1,2,3,4,5,6],aI .Pow (.int<|-1) (J k)=I (.int<|(-1)^k)/\((-1:Int)^k=1\/(-1:Int)^k=-1):=by(iterate 7 refine ae2.mpr ⟨⟨z,z⟩,?_⟩);exactλZ j=>absurd j lE
 exact y k (bl.mpr (hC j):k∈aH 7)
omit H in
theorem Mz(e:l=1\/l=-1)(q:j<2^100):aI .Mult (.int l) (J j)=I (.int<|l*(j:Nat)):=by
 have m:dn ((j:Nat):Int)<=100:=nX q;have a:bI (dn l) 100000=ah:=by rcases e with rfl|rfl<;>decide
 show(if(bI (dn l) 100000&&bI (dn (j:Nat)) 100000)=ah then I (af.int<|l*(j:Nat))else ai)=_;rw[if_pos (by rw[a];simp only[Bh,gH];exact ao o z)]
def H':q3 v<2^88/\qX v<2^88:=by
 obtain⟨e,m⟩:=H.nU;obtain⟨c,j⟩:=H.bB;have d:=H.da;constructor;refine cq (zc (zJ H).1)<|fp z ?_;have:(oX v).length<=4:=by unfold oX;simp;assumption
 exact jF j<|ao this (z:4<=8);refine cq (zc (zJ H).2)<|fp z ?_;have:(oV v).length<=7:=by unfold oV;rw[bZ,f9];exact gS<|ao (fz ..) d
 exact jF j<|ao this (z:7<=8)
def Gi(c:Nat):aq:=((cZ<|aO<|aT 39)[c]?).getD bJ
def HS:(fW v).natAbs<2^100/\(ix v).natAbs<2^100:=by
 obtain⟨e,m⟩:=H.nU;obtain⟨s,l⟩:=H' H;have d:=H.da;have y:∀(k j:Nat),k<=6->j<2^88->((-1)^k*((j:Nat):Int)).natAbs<2^100:=λk j a f=>by rw[Int.natAbs_mul,GF];rcases(wX a).2 with q|q<;>rw[q]<;>exact b4 (bQ<|afx j)<|jc f z
 exact⟨y _ _ (ao o o) s,y _ _ (ao (fz _ _) o) l⟩
def HP:0<c5 v/\c5 v<2^100:=by have d:2^bB v<=2^11:=fp z H.bB.2;have:=nk<|bB v;exact⟨ao this (cv ..),b4 (qE d 2) z⟩
def RA:az (bc 8) cR [] (F6 v cS) (aT 39) (.next<|F7 v cS):=by
 obtain⟨e,m⟩:=H.nU;obtain⟨c,j⟩:=H.bB;obtain⟨s,l⟩:=H' H;have h:=H.da;refine az.to (d:=.tuple [.int<|fW v,.int<|ix v,J<|c5 v]) (hz:=[("first",.int<|fW v),("second",.int<|ix v),("by",J<|c5 v)]) z z z z ?_;refine aj.tuple z (ds:=[.int<|fW v,.int<|ix v,J<|c5 v]) ?_ (show 3<=1000000 by exact cy _ _);rw[(z:cZ (aO<|aT 39)=[Gi 0,Gi 1,Gi 2])];have b:((aI .Pow (.int<|-1)<|J<|bC v.ws).bind λf=>aI .Mult f<|J<|q3 v)=I (.int<|fW v):=by rw[(wX<|ao o o).1,a3];exact Mz (wX<|ao o o).2<|cq o z
 have g:(((aI .Sub (J v.n)<|J<|bC v.ws).bind λk=>aI .Pow (.int<|-1) k).bind λf=>aI .Mult f<|J<|qX v)=I (.int<|ix v):=by rw[jw m,a3,(wX<|ao (fz _ _) o).1,a3];exact Mz (wX<|ao (fz _ _) o).2<|cq o z
 have r:((aI .Pow (J 2)<|J<|bB v).bind λf=>aI .Add f<|J 2)=I (J<|c5 v):=by rw[rO z<|ao o z,a3,hj];rfl
 exact aD.cons z (aj.leaf 12 (λt q=>z) b)<|aD.cons z (aj.leaf 12 (λt q=>z) g)<|aD.cons z (aj.leaf 12 (λt q=>z) r) aD.nil
def RD:az (bc 8) cR [] (F7 v cS) (aT 40) (.next<|F8 v cS):=by obtain⟨e,h⟩:=HP H;refine az.to (d:=kD (fW v/(c5 v:Nat))<|fW v%(c5 v:Nat)) (hz:=[("rest",.int<|fW v%(c5 v:Nat)),("whole",.int<|fW v/(c5 v:Nat))]) z z z z ?_;refine aj.call (ds:=[.int<|fW v,J<|c5 v]) z z ?_<|Lw 4 e h (HS H).1;rw[show bo (aO<|aT 40)=[cp<|aO<|aT 40,((bo<|aO<|aT 40)[1]?).getD bJ]by kernel_rfl];exact aD.cons z (aj.lf 9 (.int<|fW v) λt q=>z)<|aD.cons z (aj.lf 9 (J<|c5 v) λt q=>z) aD.nil
omit H
theorem aj.Uw(m:zP op i=ah)(x:aj c d f (cU i) a)(A:aj c d f (dy i) b)(g:∀t,(c t).cmp op a b=I k):aj c d f i (.bool k):=by obtain⟨B,w,s,rfl,q⟩:=LJ m;exact(x.and A).succ λt y j=>p9 (rG q)<|b' j.1<|b' j.2<|n0 (g t) rfl
def LU(g:UnaryOp)(i:aq):Bool:=(xA i).elim av λab=>ab.1==g
theorem X_(j:LU g i=ah):∃m s,i=.UnaryOp g m s:=(eU j).elim λab n=>⟨_,_,bF n.2▸OM n.1⟩
theorem aj.un(l:LU op i=ah)(j:aj b c f (cU i) g)(k:∀t,(b t).un op g=I d):aj b c f i d:=by obtain⟨m,s,rfl⟩:=X_ l;exact j.succ λt y j=>b' j<|k t
theorem Vz(k:au):fC .Eq (.str k) (.str k)=I ah:=by show cW 9 (.str k) (.str k)=_;show I (k==k)=_;rw[beq_self_eq_true]
theorem H6(j:c.natAbs<2^200):(iv 5<|.int c).isSome=ah/\jq 5 (.int c)<=1000:=by refine⟨?_,show 202<=1000 by decide⟩;show(if decide (c.natAbs<2^200)=ah then I (sx c)else ai).isSome=ah;rw[if_pos<|decide_eq_true j];rfl
theorem acS(a:c.natAbs<2^200)(p:w.natAbs<2^200):(iv 5<|kD c w).isSome=ah/\jq 5 (kD c w)<=1000:=by
 refine⟨?_,show 202+2+(202+2+3)<=1000 by decide⟩;have b:∀c:Int,c.natAbs<2^200->iv 4 (.int c)=I (.int c):=λc a=>by show(if decide (c.natAbs<2^200)=ah then I (sx c)else ai)=_;rw[if_pos<|decide_eq_true a]
 show((hP (iv 4) [.int c,.int w]).map PyData.tuple).isSome=ah;unfold hP hP hP;rw[b c a,b w p];rfl
theorem KG(f:Int)(j:0<p)(q:p<2^250):aI .FloorDiv (.int f) (J p)=I (.int<|f/(p:Nat)):=by show(if(((p:Nat):Int)!=0)&&!nr f (p:Nat)then I (af.int _)else ai)=_;rw[yv<|show((p:Nat):Int).natAbs<2^250 from q,wR j,if_pos rfl,Bi _<|fR _]
theorem JR(m:List Nat):∀d:List (List Nat),(∀r∈d,r.length=m.length)->hn (gp m) (d.map gp)=I (d.count m)
 |[]=>@λZ=>rfl
 |r::d=>@λj=>by
  rw[c8]
  unfold hn
  have s:∀f p:List Nat,f.length=p.length->h4 (cW 7) (f.map J) (p.map J)=I (f==p):=λf=>by
   induction f with
   |nil=>intro p q;induction p using bb with|nil=>rfl|cons Z t=>cases q
   |cons c f g=>
    intro p q;induction p using bb with
    |nil=>cases q
    |cons ab p=>
     rw[c8,c8];rw[Cw];rw[oQ,a3,g p (by simpa using q),kc];rfl
  have n:=j r dA
  have i:cW 8 (gp r) (gp m)=I (r==m):=by show(if((r.map J).length==(m.map J).length)=ah then h4 (cW 7) (r.map J) (m.map J)else I av)=_;rw[if_pos (by simpa using n),s r m n]
  rw[i,a3,JR m d λc k=>j c<|dt _ k,kc,nd]
  refine congrArg I ?_
  cases r==m<;>rfl
include H
def M':aq:=aO<|aT 41
def qa:aq:=cp<|cU M'
def k9:aq:=cp<|dy M'
def g0(a:aq)(c:Nat):aq:=((cZ a)[c]?).getD bJ
def RE:az (bc 8) cR [] (F8 v cS) (aT 41) (.ret<|.bool ah):=by
 obtain⟨e,h⟩:=HP H;obtain⟨p2,s⟩:=HS H;obtain⟨Y,aa⟩:=H.nU;have ac:=CL H;have ab:=H.da;have q:=abE H;have C:=Wr H;have M:(i4 v).length<=27:=by have:(i4 v).length<=hG.length:=mw ..;have X:hG.length=27:=z;exact ao o z
 have f:∀c:Int,c.natAbs<2^100->(c/((c5 v:Nat):Int)).natAbs<2^200/\0<=c%((c5 v:Nat):Int)/\c%((c5 v:Nat):Int)<((c5 v:Nat):Int):=λc O=>by have K:=sd c<|Int.ne_of_gt<|O3.mpr e;have L:=GA c<|O3.mpr e;have d:(c/((c5 v:Nat):Int)).natAbs<=c.natAbs:=Int.natAbs_ediv_le_natAbs c _;exact⟨b4 d<|jc O z,K,L⟩
 obtain⟨U,V,W⟩:=f _ p2;obtain⟨S,T,y⟩:=f _ s;obtain⟨R,w⟩:=FQ (l:=[.int<|fW v/(c5 v:Nat),J<|3*(i4 v).length,kD (ix v/(c5 v:Nat))<|-(ix v%(c5 v:Nat))]) (B:=1000) (λae ag=>by
  simp only[c9,lE,or_false]at ag;rcases ag with rfl|rfl|rfl;exact H6 U;exact H6<|b4 (iN 3 M) z;exact acS S (by rw[Int.natAbs_neg];exact jc (lB.mp<|lA (GB<|aeH T) y)<|jc h z)) (show 3*(1000+2)<=1000000 by decide)
 refine az.ret z<|aj.Uw (op:=.Eq) (a:=.str R) (b:=.str R) z ?_ ?_ λm=>Vz R;refine aj.call (ds:=[.list [.int<|fW v/(c5 v:Nat),J<|3*(i4 v).length,kD (ix v/(c5 v:Nat))<|-(ix v%(c5 v:Nat))]]) z z ?_<|hl (k:=8) (g:=lH) z w;rw[(z:bo (cU<|aO<|aT 41)=[qa])];refine aD.cons z (aj.list z ?_<|show 3<=1000000 by exact cy _ _) aD.nil;rw[(z:cZ qa=[g0 qa 0,g0 qa 1,g0 qa 2])];have aC:(((aI .Sub (J 4)<|J<|bC v.ws).bind λk=>aI .Pow (J 3) k).bind λp=>aI .Mult (.int<|fW v%(c5 v:Nat)) p)=I (J<|3*(i4 v).length):=by rw[jw<|fz _ _,a3,rO z<|ao (fz ..) z,a3];have E:((fW v%(c5 v:Nat)).toNat:Int)=fW v%(c5 v:Nat):=og V;rw[<-E]at q ⊢;have d:(3:Nat)^(4 -bC v.ws)<=3^4:=fp z<|fz _ _;refine(mX (a:=(fW v%(c5 v:Nat)).toNat) (b:=3^(4 -bC v.ws)) (jc (lB.mp<|lA (GB E) W)<|jc h z)<|b4 o z).trans ?_;refine congrArg (λc=>I<|af.int c) ?_;rw[Bm,mv];rw[Bm];exact q
 refine aD.cons z (aj.lf 9 (.int<|fW v/(c5 v:Nat)) λm A=>z)<|aD.cons z (aj.leaf 12 (λm A=>z) aC)<|aD.cons z ?_ aD.nil;refine aj.call (ds:=[.int<|-(ix v),.int<|-((c5 v:Nat):Int)]) z z ?_<|XD 3 e h s;rw[show bo (g0 qa 2)=[cp<|g0 qa 2,((bo<|g0 qa 2)[1]?).getD bJ]by kernel_rfl];exact aD.cons z (aj.lf 9 (.int<|-(ix v)) λm A=>z)<|aD.cons z (aj.lf 9 (.int<|-((c5 v:Nat):Int)) λm A=>z) aD.nil;refine aj.call (ds:=[.list [.int<|fW v/(c5 v:Nat),J<|3*(i4 v).length,kD (ix v/(c5 v:Nat))<|-(ix v%(c5 v:Nat))]]) z z ?_<|hl (k:=8) (g:=lH) z w;rw[(z:bo (dy<|aO<|aT 41)=[k9])];refine aD.cons z (aj.list z ?_<|show 3<=1000000 by exact cy _ _) aD.nil;rw[(z:cZ k9=[g0 k9 0,g0 k9 1,g0 k9 2])];have D:c5 v<2^250:=jc h z;have j:(gD v.ws).length<=1000000:=by rw[KQ];have:=H.pow;exact ao o z
 refine aD.cons z (aj.leaf 9 (x:=aI .FloorDiv (.int<|fW v)<|J<|c5 v) (λm A=>z)<|KG _ e D)<|aD.cons z ?_<|aD.cons z ?_ aD.nil;refine aj.bin (op:=.Mult) (a:=J 3) (b:=J (i4 v).length) z (aj.lf 9 (J 3) λm A=>z) ?_ λm=>mX z<|b4 o z;refine aj.call (ds:=[.list<|(i4 v).map gp]) z z ?_ (hl (k:=8) (g:=iB) z<|(qc _ (by rw[bZ];exact ao o z)).trans<|by rw[bZ]);rw[(z:bo (dy<|g0 k9 1)=[cp<|dy<|g0 k9 1])];exact aD.cons z (aj.lf 9 (.list<|(i4 v).map gp) λm A=>z) aD.nil;have G:ma (l0<|gD v.ws) "count" [gp [0,0,0,0]]=I (J<|(gD v.ws).count [0,0,0,0]):=by
  show(if bI ((gD v.ws).map gp).length 1000000=ah then(hn (gp [0,0,0,0])<|(gD v.ws).map gp).map (λ(al:Nat)=>af.int ((al:Nat):Int))else ai)=_;rw[if_pos (by rw[gH,bZ];exact j),JR _ _ λad Q=>by
   obtain⟨Z,Z,Z,Z,rfl,Z⟩:=KP v.ws ad Q;rfl]
  rfl
 rw[C];refine aj.tuple z (ds:=[.int<|ix v/(c5 v:Nat),.int<|-(((gD v.ws).count [0,0,0,0]:Nat):Int)]) ?_ (show 2<=1000000 by exact cy _ _);rw[(z:cZ (g0 k9 2)=[g0 (g0 k9 2) 0,g0 (g0 k9 2) 1])];refine aD.cons z (aj.leaf 9 (x:=aI .FloorDiv (.int<|ix v)<|J<|c5 v) (λm A=>z)<|KG _ e D)<|aD.cons z ?_ aD.nil;have P:aj (bc 8) cR (F8 v cS).plus (cU<|g0 (g0 k9 2) 1) (J<|(gD v.ws).count [0,0,0,0]):=by refine aj.e' (a:=l0<|gD v.ws) (ds:=[gp [0,0,0,0]]) z (aj.lf 9 (l0<|gD v.ws) λm A=>z) ?_<|mV (k:=8) rfl G;rw[(z:bo (cU<|g0 (g0 k9 2) 1)=[cp<|cU<|g0 (g0 k9 2) 1])];exact aD.cons z (aj.lf 20 (gp [0,0,0,0]) λm A=>z) aD.nil
 exact aj.un (op:=.USub) z P λm=>rfl
end
section
variable{O:Nat->cY}{S:a0}{M:List au}{σ:aG}{r:h3}
def M4(st:aP):aq:=(rN<|B6 st).elim (B6 st) (·.2)
def abi(m b:au):aP->Bool:=D9 m "append" λi=>!(m==b)&&(rN i).elim av (b==·.1)
def az.pop(m b:au){st:aP}{l r:List af}(C:abi m b st=ah)(ag:σ.lookup m=I (.own l))(P:σ.lookup b=I (.own r))(B:aj O S σ.plus (M4 st) k)(L:oY k r.length=I f)(J:r[f]?=I d)(K:eD d=ah)(N:l.length<=1000000) (E:aG.set (σ.set b<|.own<|r.eraseIdx f) m (.own<|l++[d])=aX):az O S M σ st (.next aX):=by
 cases Mu C with|@mk a t i s q G A=>
 obtain⟨⟨Q,g⟩,ax,D⟩:=eU (aY A).2;obtain rfl:=bF (D:(b==Q)=ah);replace A:=jt (aY A).1;have H:M4 (.Expr (.Call (.Attribute (.Name m a) ("append":au) t) [i] [] s) q)=g:=pX ax rfl;rw[H]at B;have R:(eD d&&bI l.length 1000000)=ah:=by rw[K,gH.mpr N];rfl
 have V:lL (σ.lookup m)=I l:=by rw[ag];rfl
 have U:lL (σ.lookup b)=I r:=by rw[P];rfl
 exact E▸B.succ λW X T=>fE (by rw[G];rfl)<|pX ax<|p9 (rG A)<|b' V<|b' U<|b' T<|b' L<|b' J<|fE R rfl
def az.Ze{st:aP}(a:DV st=ah)(c:ub S σ (l2 st)=I args)(d:aD O S σ.plus args Ki)(e:eo Ki=I g)(j:gc O S M σ (jT st) (fk st) g r):az O S M σ st r:=by obtain⟨k,m,l,s,rfl⟩:=LK a;exact(d.and j).succ λf y j=>b' (pX c<|b' j.1 e) j.2
end
def yI:a0:=a0.fn<|b9 i6
def lT(c:Nat):aP:=aN (bp i6) c
def Jn(c:Nat):aP:=aN (fk<|lT 1) c
noncomputable def jQ:Nat->List Nat->Nat->List Nat|0,_,_=>[]|c+1,r,a=>r.getD (a%r.length) 0::jQ c (r.eraseIdx<|a%r.length) (a/r.length)
noncomputable def yq:Nat->Nat->List Nat|_,0=>[]|r,g+1=>r::yq (r -1) g
def p'(d' r:List Nat)(q g:Nat)(m:Option Nat):aG:=match m with|none=>[("dealt",.own<|d'.map J),("pool",.own<|r.map J),("number",.val<|J q),("count",.val<|J g)]|some l=>[("number",.val<|J q),("dealt",.own<|d'.map J),("pool",.own<|r.map J),("size",.val<|J l),("count",.val<|J g)]
def Ms(d' r:List Nat)(q g l:Nat):aG:=[("dealt",.own<|d'.map J),("pool",.own<|r.map J),("size",.val<|J l),("number",.val<|J q),("count",.val<|J g)]
theorem Kw:∀(d:List Nat)(k:Nat),(d.map J).eraseIdx k=(d.eraseIdx k).map J
 |[],Z=>rfl
 |a::d,0=>rfl
 |a::d,k+1=>by
  rw[c8,List.eraseIdx_cons_succ,Kw d k]
  rfl
theorem J5(cnt:Nat):∀(c:Nat)(g d':List Nat)(h:Nat)(m:Option Nat),c<=g.length->g.length<=100->d'.length+c<=100->∃B A C,gc jK yI ["dealt"] (p' d' g h cnt m) (jT<|lT 1) (fk<|lT 1) ((yq g.length c).map J) (.next<|p' (d'++jQ c g h) B A cnt C)
 |0=>@λg d' h m Z H y=>⟨g,h,m,by
  show gc _ _ _ _ _ _ [] (.next<|p' (d'++[]) g h cnt m)
  rw[qB]
  exact gc.nil⟩
 |c+1=>@λg d' h m K p j=>by
  have q:h%g.length<g.length:=f_ _<|ao (cy _ _) o
  obtain⟨B,A,C,D⟩:=J5 cnt c (g.eraseIdx<|h%g.length) (d'++[g.getD (h%g.length) 0]) (h/g.length) (I g.length) (by rw[GN q];exact PA o) (by rw[GN q];exact ao (fz _ _) o) (by rw[gF];exact ao (bQ<|e7 d'.length 1 c) j)
  refine⟨B,A,C,?_⟩
  rw[lC,GN q]at D
  show gc _ _ _ _ _ _ (J g.length::(yq (g.length -1) c).map J) _
  refine gc.cons (aK:=[("size",J g.length)]) z ?_ D
  rw[(z:fk (lT 1)=[Jn 0,Jn 1])]
  have n:(g.map J)[h%g.length]?=I (J<|g.getD (h%g.length) 0):=by rw[jC,hb q,j_,hb q];rfl
  have s:oY (J<|h%g.length) (g.map J).length=I (h%g.length):=by rw[bZ];show(if(0:Int)<=((h%g.length:Nat):Int)/\(((h%g.length:Nat):Int)).toNat<g.length/\g.length<=1000000 then I (((h%g.length:Nat):Int)).toNat else ai)=_;rw[sh,if_pos ⟨by exact fR _,q,by exact ao o z⟩]
  refine aE.cons (aX:=Ms (d'++[g.getD (h%g.length) 0]) (g.eraseIdx<|h%g.length) h cnt g.length) ?_<|aE.cons ?_ aE.nil
  ·have i:aG.set ((aG.vals (p' d' g h cnt m) [("size",J g.length)]).set "pool"<|.own<|(g.map J).eraseIdx<|h%g.length) "dealt" (.own<|d'.map J++[J<|g.getD (h%g.length) 0])=Ms (d'++[g.getD (h%g.length) 0]) (g.eraseIdx<|h%g.length) h cnt g.length:=by
    have E:(g.map J).eraseIdx (h%g.length)=(g.eraseIdx<|h%g.length).map J:=Kw _ _;have G:d'.map J++[J<|g.getD (h%g.length) 0]=(d'++[g.getD (h%g.length) 0]).map J:=by rw[ig];rfl
    rw[E,G];generalize g.eraseIdx (h%g.length)=f;generalize d'++[g.getD (h%g.length) 0]=w;rcases m with _|m<;>kernel_rfl
   rcases m with _|m;all_goals
    exact az.pop "dealt" "pool" (l:=d'.map J) (r:=g.map J) (k:=J<|h%g.length) z z z (aj.leaf 9 (x:=aI .Mod (J h)<|J g.length) (λt h=>z)<|j0 _<|afI o) s n rfl (by rw[bZ];exact ao (cv ..)<|ao j z) i
  exact az.CE "number" .FloorDiv (a:=J h) (b:=J g.length) (d:=J<|h/g.length) z z (aj.lf 9 (J g.length) λt h=>z) (λt=>mQ h (afI o)<|b4 p z) z z
def abu(n:4<=g)(d:g<=6)(j:r=24\/r=g):eo [J r,J<|r -g,.int<|-1]=I ((yq r g).map J):=by
 have:=(by decide:∀g<7,4<=g->g=4\/g=5\/g=6) g (Nat.lt_succ_of_le d) n
 rcases j with rfl|rfl;rcases this with rfl|rfl|rfl<;>kernel_rfl;rcases this with rfl|rfl|rfl<;>kernel_rfl
def J6(k:Nat)(C:4<=g)(A:g<=6)(j:r=24\/r=g):bR λt Z=>(bc (k+1) t).move "_law_deal" ((aH r).map J) [J d,J g]=I (.list<|(jQ g (aH r) d).map J):=by
 have x:g<=r/\r<=24:=j.elim (λi=>⟨ao A<|ao (z:6<=24)<|bQ i.symm,bQ i⟩) λi=>⟨bQ i.symm,ao (bQ i)<|ao A z⟩;obtain⟨E,p,f,ag⟩:=J5 g g (aH r) [] d ai (by rw[f9];exact x.1) (by rw[f9];exact ao x.2 z)<|ao (bQ<|ij g)<|ao A z;rw[f9,GR]at ag;have B:aE jK yI ["dealt"] (("pool",.own<|(aH r).map J)::c4 ["number","count"] [J d,J g]) (bp i6) (.ret<|.list<|(jQ g (aH r) d).map J):=by
  rw[(z:bp i6=[lT 0,lT 1,lT 2])];refine aE.cons (aX:=p' [] (aH r) d g ai) ?_<|aE.cons (aX:=p' (jQ g (aH r) d) E p g f) ?_<|aE.ret ?_;exact az.fresh "dealt" (ds:=[]) z z (aj.lf 9 (.list []) λt d=>z) z;have D:∀i,sT i=ah->mN i=("len":au)->bo i=[cp i]->eM (cp i)=av->(∀p:Nat,bh ct (p+9) yI (p' [] (aH r) d g ai).plus (cp i)=I (.list<|(aH r).map J))->aj jK yI (p' [] (aH r) d g ai).plus i (J r):=λi s l G C H=>by refine aj.call (ds:=[.list<|(aH r).map J]) s (by rw[l];kernel_rfl) (by rw[G];exact aD.cons C (bR.of 9 λt d=>H d) aD.nil) ⟨0,λt y Z Z=>?_⟩;rw[l];show gE (iB [.list<|(aH r).map J]) ai=_;rw[qc _ (by rw[bZ,f9];exact ao x.2 z),bZ,f9];rfl
  refine az.Ze (args:=bo<|l2<|lT 1) (Ki:=[J r,J<|r -g,.int<|-1]) z z ?_ (abu C A j) ag;rw[show bo (l2<|lT 1)=[cp<|l2<|lT 1,((bo<|l2<|lT 1)[1]?).getD bJ,((bo<|l2<|lT 1)[2]?).getD bJ]by kernel_rfl];refine aD.cons z (D _ z z z z λp=>z)<|aD.cons z ?_<|aD.cons z (aj.lf 9 (.int<|-1) λt d=>z) aD.nil;exact aj.bin (op:=.Sub) (a:=J r) (b:=J g) z (D _ z z z z λp=>z) (aj.lf 9 (J g) λt d=>z) λt=>jw x.1
  ·rcases f with _|f;all_goals
    exact az.ret z<|aj.lf 9 (.list<|(jQ g (aH r) d).map J) λt d=>z
 obtain⟨w,q⟩:=B;refine⟨w,λt y K Z=>?_⟩;show(if(bM "_law_deal"==("_law_deal":au))=ah then w6 ct ["dealt"] (b9 i6) "pool" ["number","count"] (bp i6) t ((aH r).map J) [J d,J g]else ai)=_;rw[if_pos<|by simp];unfold w6;rw[if_pos (by
  have s:=tp<|aH r;rw[s];kernel_rfl)]
 have:=q t t K K;rw[show a6 ct (a0.fn<|b9 i6) ["dealt"] t (("pool",.own<|(aH r).map J)::c4 ["number","count"] [J d,J g]) (bp i6)=I (.ret<|.list<|(jQ g (aH r) d).map J)from this]
section
theorem C7:∀(c:Nat)(r:List Nat)(a:Nat),r.Nodup->c<=r.length->(jQ c r a).Nodup/\(∀m∈jQ c r a,m∈r)/\(jQ c r a).length=c
 |0=>@λZ t y k=>⟨Bv,λm ag=>(by cases ag),rfl⟩
 |c+1=>@λr a cg w=>by
  have b:a%r.length<r.length:=f_ _<|ao (cy _ _) o
  have d:r.getD (a%r.length) 0=r[a%r.length]:=by rw[j_,hb b];rfl
  have gJ:=List.eraseIdx_sublist r<|a%r.length
  obtain⟨s,l,g⟩:=C7 c (r.eraseIdx<|a%r.length) (a/r.length) (cg.sublist gJ) (by rw[GN b];exact PA o)
  unfold jQ
  refine⟨uP.mpr ⟨λag=>?_,s⟩,λm ag=>?_,by rw[gG,g]⟩
  have ag:=l _ ag
  rw[d,List.mem_eraseIdx_iff_getElem]at ag
  obtain⟨n,j,f,h⟩:=ag
  exact f<|(Pj cg).mp h
  rcases c9.mp ag with rfl|ag
  rw[d];exact kP b
  exact gJ.subset<|l m ag
def MZ{s:Type}(m:s->s->Bool)(A:s->Nat)(d:List s)(t:∀f∈d,∀p∈d,m f p=decide (A f<A p))(x:∀D w,(B:D<d.length)->(C:w<d.length)->A d[D]=A d[w]->D=w):∀D w,D<d.length->w<d.length->(nD m d).getD D 0=(nD m d).getD w 0->D=w:=by
 have r:∀f∈d,∀p∈d,A f<A p->(d.filter λg=>m g f).length<(d.filter λg=>m g p).length:=λf n p F H=>by
  have E:(d.filter λg=>m g f)=(d.filter λg=>m g p).filter λg=>m g f:=by rw[Pd];refine si λg G=>?_;rw[t g G f n,t g G p F,gQ];simp only[bY,decide_eq_true_eq];exact⟨λq=>⟨q,jc q H⟩,λq=>q.1⟩
  rw[E];refine ae5.mpr ⟨f,dP.mpr ⟨n,by rw[t f n p F];exact decide_eq_true H⟩,?_⟩;rw[t f n f n];simp
 intro D w B C E;have ax:∀k(y:k<d.length),(nD m d).getD k 0=(d.filter λg=>m g d[k]).length:=λk y=>by unfold nD;rw[j_,jC,hb y];rfl
 rw[ax D B,ax w C]at E;refine x D w B C ?_;rcases afo (A d[D]) (A d[w])with q|q|q;exact absurd E<|f'<|r _ (kP B) _ (kP C) q;exact q;exact absurd E.symm<|f'<|r _ (kP C) _ (kP B) q
variable{v:c6}(H:jI v)
include H
def RI(j:v.iE=jQ v.n (aH 24) (v.kX/4096)):az (bc 8) cR [] (AG v) (aT 8) (.next<|w8 v):=by refine az.name "hues" (.list<|v.iE.map J) z z z z ?_;rw[j];refine aj.la (Fj:=[J 24]) (gj:=(aH 24).map J) (ds:=[J<|v.kX/4096,J v.n]) z ?_ (o' z) ?_<|J6 7 H.mb H.da<|.inl rfl;rw[(z:tT (aO<|aT 8)=[((tT<|aO<|aT 8).head?).getD bJ])];exact aD.cons z (aj.lf 9 (J 24) λt q=>z) aD.nil;rw[show qf (aO<|aT 8)=[((qf<|aO<|aT 8).head?).getD bJ,((qf<|aO<|aT 8)[1]?).getD bJ]by kernel_rfl];exact aD.cons z (aj.leaf 9 (x:=aI .FloorDiv (J v.kX)<|J 4096) (λt q=>z)<|mQ _ z z)<|aD.cons z (aj.lf 9 (J v.n) λt q=>z) aD.nil
def Q7(j:v.dz=jQ v.n (aH v.n) v.oH):az (bc 8) cR [] (Fy v) (aT 15) (.next<|Fz v):=by have d:=H.da;refine az.name "numbers" (.list<|v.dz.map J) z z z z ?_;rw[j];refine aj.la (Fj:=[J v.n]) (gj:=(aH v.n).map J) (ds:=[J v.oH,J v.n]) z ?_ (o'<|ao o z) ?_<|J6 7 H.mb H.da<|.inr rfl;rw[(z:tT (aO<|aT 15)=[((tT<|aO<|aT 15).head?).getD bJ])];exact aD.cons z (aj.lf 9 (J v.n) λt q=>z) aD.nil;rw[show qf (aO<|aT 15)=[((qf<|aO<|aT 15).head?).getD bJ,((qf<|aO<|aT 15)[1]?).getD bJ]by kernel_rfl];exact aD.cons z (aj.lf 9 (J v.oH) λt q=>z)<|aD.cons z (aj.lf 9 (J v.n) λt q=>z) aD.nil
omit H
noncomputable def QO(y:Nat):au:=⟨⟨dw y 32⟩⟩
noncomputable def zC(w:Nat):au:=⟨⟨dw w 32++[9]⟩⟩
noncomputable def vl(w f:Nat):au:=⟨⟨dw w 32++[9]++dw (f/3) 9⟩⟩
def vI(f:Nat):au:=QO<|f -f/3
def tD(w f:Nat):af:=.tuple [.str<|vl w f,.str<|vI f]
noncomputable def AI(w f:Nat):au:=⟨⟨dw w 32++[9]++dw (f/3) 9++dw (f -f/3) 32++[120,32,9]⟩⟩
def gP(w f:Nat):af:=(qt<|AI w f).getD .none
noncomputable def rB(w f:Nat):Nat->au|0=>⟨⟨[32]++dw (f -f/3) 32++(dw w 32++[9]++dw (f/3) 9)++[120]⟩⟩|_=>⟨⟨dw w 32++[32,32]++dw (2*(f/3)) 32++dw (f -f/3) 32++[120]⟩⟩
def jZ(w f c:Nat):af:=(qt<|rB w f c).getD .none
noncomputable def eG(v:c6):Nat:=v.oH/720%2
structure yz(v:c6):Prop extends jI v where
 nl:∀a∈v.dz,a<6
 nul:v.dz.length=v.n
 fr:v.fr=.str (zC<|eG v)
 ld:v.ld=.list (v.dz.map<|tD<|eG v)
 lj:v.lj=v.dz.map (gP<|eG v)
 lo:v.lo=.list (v.dz.map λa=>.list<|[0,1].map<|jZ (eG v) a)
 ap:v.ap=.list (v.dz.flatMap λ_=>[0,1].map λ_:Nat=>af.list [.bool false,.bool false])
theorem rA(v:c6):eG v<2:=f_ _ z
theorem WM(w:Nat)(b:w<2):((aI .Mult (.str " ")<|J w).bind λf=>aI .Add f<|.str "\t")=I (.str<|zC w):=Mr b z z
def D2(d:af)(c:Nat):Option af:=(((aI .FloorDiv (J c)<|J 3).bind λp=>aI .Mult (.str "\t") p).bind λp=>aI .Add d p).bind λm=>(((aI .FloorDiv (J c)<|J 3).bind λp=>aI .Sub (J c) p).bind λp=>aI .Mult (.str " ") p).bind λe=>I<|.tuple [m,e]
theorem YG:((aH 2).all λw=>(aH 6).all λf=>h' (D2 (.str<|zC w) f)<|tD w f)=ah:=by decide+kernel
theorem ab1:((aH 2).all λw=>(aH 6).all λf=>h' ((aI .Add (.str<|vl w f)<|.str<|vI f).bind λm=>aI .Add m<|.str "x \t") (.str<|AI w f)&&h' (qt<|AI w f) (gP w f))=ah:=by decide+kernel
theorem Y9:((aH 2).all λw=>(aH 6).all λf=>(aH 2).all λc=>h' (qt<|rB w f c)<|jZ w f c)=ah:=by decide+kernel
end
section
def D3(t:Nat)(f p:af)(k:Bool):Bool:=h' ((bc 8<|t+400).e' f "less" [p])<|.bool k
def YN(t:Nat):((aH 2).all λw=>(aH 6).all λf=>(aH 6).all λp=>D3 t (gP w f) (gP w p)<|decide (f<p))=ah:=z
def Y_(t:Nat):((aH 2).all λw=>(aH 6).all λf=>(aH 2).all λc=>D3 t (gP w f) (jZ w f c) av&&D3 t (jZ w f c) (gP w f) av)=ah:=z
def YO(d:w<2)(c:f<6)(q:p<6):bR λt Z=>(bc 8 t).e' (gP w f) "less" [gP w p]=I (.bool<|decide (f<p)):=⟨400,λt y e Z=>by
 obtain⟨r,rfl⟩:∃r,t=r+400:=⟨t -400,by exact(oj o).symm⟩;exact ia<|bG.mp (bG.mp (bG.mp (YN r) w<|bl.mpr d) f<|bl.mpr c) p<|bl.mpr q⟩
def Y'(p:w<2)(d:f<6)(b:c<2):(bR λt Z=>(bc 8 t).e' (gP w f) "less" [jZ w f c]=I (.bool av))/\(bR λt Z=>(bc 8 t).e' (jZ w f c) "less" [gP w f]=I (.bool av)):=by
 have y:=λr=>bG.mp (bG.mp (bG.mp (Y_ r) w<|bl.mpr p) f<|bl.mpr d) c<|bl.mpr b;simp only[bY]at y;constructor;exact⟨400,λt g e Z=>by
  obtain⟨r,rfl⟩:∃r,t=r+400:=⟨t -400,by exact(oj o).symm⟩;exact ia (y r).1⟩
 exact⟨400,λt g e Z=>by
  obtain⟨r,rfl⟩:∃r,t=r+400:=⟨t -400,by exact(oj o).symm⟩;exact ia (y r).2⟩
def Cv{r:Nat->Nat->Bool}(b:((aH 2).all λw=>(aH 6).all λf=>r w f)=ah)(p:w<2)(n:f<6):r w f=ah:=bG.mp (bG.mp b w<|bl.mpr p) f<|bl.mpr n
variable{v:c6}(H:yz v)
include H
def Q8:az (bc 8) cR [] (Fz v) (aT 16) (.next<|FA v):=by
 refine az.name "front" v.fr z z z z ?_;have i:(((aI .FloorDiv (J v.oH)<|J 720).bind λf=>aI .Mod f<|J 2).bind λp=>aI .Mult (.str " ") p).bind (λf=>aI .Add f<|.str "\t")=I v.fr:=by rw[mQ _ z z,a3,j0 _ z,a3,H.fr];exact WM _<|rA v
 exact aj.leaf 12 (λt q=>z) i
def Q9:az (bc 8) cR [] (FA v) (aT 17) (.next<|FC v):=by
 have d:=H.da;have r:=H.nul;refine az.name "leads" v.ld z z z z ?_;rw[H.ld];refine aj.dW v.dz J _ z (ck.lf 9 (v.dz.map J) λt q=>z) (λf=>z) (λf n=>?_)<|ao (bQ o)<|ao o z;have i:D2 v.fr f=I (tD (eG v) f):=by rw[H.fr];exact ia<|Cv YG (rA v)<|H.nl f n
 unfold D2 at i;refine aj.tuple z (ds:=[.str<|vl (eG v) f,.str<|vI f]) ?_ (show 2<=1000000 by exact cy _ _);rw[mz]at i;obtain⟨m,aC,i⟩:=i;rw[mz]at i;obtain⟨b,aM,i⟩:=i;cases i;rw[show cZ (b8<|aO<|aT 17)=[((cZ<|b8<|aO<|aT 17).head?).getD bJ,((cZ<|b8<|aO<|aT 17)[1]?).getD bJ]by kernel_rfl];exact aD.cons z (aj.leaf 12 (λt q=>z) aC)<|aD.cons z (aj.leaf 12 (λt q=>z) aM) aD.nil
def Q_:az (bc 8) cR [] (FC v) (aT 18) (.next<|FD v):=by have d:=H.da;have r:=H.nul;refine az.name "seen" (.list v.lj) z z z z ?_;rw[H.lj];refine aj.dW v.dz (tD<|eG v) _ z (ck.leaf 9 (x:=(I v.ld).bind<|q0 (cb<|aO<|aT 18).target) (λt q=>z) (by rw[H.ld];rfl)) (λf=>z) (λf n=>?_)<|ao (bQ o)<|ao o z;have i:=Cv ab1 (rA v)<|H.nl f n;simp only[bY]at i;refine aj.call (ds:=[.str<|AI (eG v) f]) z z ?_<|lV (k:=8) (g:=l4) z z<|ia i.2;rw[(z:bo (b8<|aO<|aT 18)=[cp<|b8<|aO<|aT 18])];exact aD.cons z (aj.leaf 12 (λt q=>z)<|ia i.1) aD.nil
def Q':az (bc 8) cR [] (FD v) (aT 19) (.next<|FE v):=by
 have d:=H.da;have r:=H.nul;refine az.name "lesser" (wu v.dz) z z z z ?_;have c:I (v.dz.map<|gP<|eG v)=I v.lj:=by rw[H.lj]
 refine aj.dW v.dz (gP<|eG v) _ z (ck.leaf 9 (x:=I v.lj) (λt q=>z) c.symm) (λf=>z) (λf n=>?_)<|ao (bQ o)<|ao o z;refine aj.dW v.dz (gP<|eG v) _ z (ck.leaf 9 (x:=I v.lj) (λt q=>z) c.symm) (λf=>z) (λp e=>?_)<|ao (bQ o)<|ao o z;refine aj.e' (a:=gP (eG v) p) (ds:=[gP (eG v) f]) z (aj.lf 9 (gP (eG v) p) λt q=>z) ?_<|YO (rA v) (H.nl p e)<|H.nl f n;rw[(z:bo (b8<|b8<|aO<|aT 19)=[cp<|b8<|b8<|aO<|aT 19])];exact aD.cons z (aj.lf 9 (gP (eG v) f) λt q=>z) aD.nil
end
section
def ck.Z7(d:zQ i=ah)(j:aj b a f i (.tuple g)):ck b a f c i g:=by obtain⟨l,k,s,rfl⟩:=LS d;exact j.succ λm y j=>b' j rfl
noncomputable def t9(w f:Nat):Nat->au|0=>⟨⟨[32]++dw (f -f/3) 32++(dw w 32++[9]++dw (f/3) 9)⟩⟩|_=>⟨⟨dw w 32++[32,32]++dw (2*(f/3)) 32++dw (f -f/3) 32⟩⟩
def abk:((aH 2).all λw=>(aH 6).all λf=>h' ((aI .Add (.str " ")<|.str<|vI f).bind λm=>aI .Add m<|.str<|vl w f) (.str<|t9 w f 0)&&h' ((aI .Add (.str<|vl w f)<|.str<|vI f).bind λb=>Fm b "\t" "  ") (.str<|t9 w f 1)&&h' (aI .Add (.str<|t9 w f 0)<|.str "x") (.str<|rB w f 0)&&h' (aI .Add (.str<|t9 w f 1)<|.str "x") (.str<|rB w f 1))=ah:=by decide+kernel
theorem MW{s:Type}(y e:s->af):∀d:List s,oy (d.map y) (d.map e)=d.map λa=>.tuple [y a,e a]
 |[]=>rfl
 |a::d=>by
  show af.tuple [y a,e a]::oy (d.map y) (d.map e)=_
  rw[MW y e d]
  rfl
variable{v:c6}(H:yz v)
include H
def Lu:aq:=(cb<|b8<|aO<|aT 20).iter
def Rb:az (bc 8) cR [] (FE v) (aT 20) (.next<|FF v):=by
 have d:=H.da;have r:=H.nul;refine az.name "longer" v.lo z z z z ?_;rw[H.lo];refine aj.dW v.dz (tD<|eG v) _ z (ck.leaf 9 (x:=(I v.ld).bind<|q0 (cb<|aO<|aT 20).target) (λt q=>z) (by rw[H.ld];rfl)) (λf=>z) (λf n=>?_)<|ao (bQ o)<|ao o z;have m:=Cv abk (rA v)<|H.nl f n;simp only[bY]at m;refine aj.dW [0,1] (λc=>.str<|t9 (eG v) f c) _ z (ck.Z7 z<|aj.tuple z ?_<|show 2<=1000000 by exact cy _ _) (λf=>z) (λc b=>?_) (show 2<=1000000 by exact cy _ _);rw[show cZ (cb<|b8<|aO<|aT 20).iter=[((cZ Lu).head?).getD bJ,((cZ Lu)[1]?).getD bJ]by kernel_rfl];exact aD.cons z (aj.leaf 12 (λt q=>z)<|ia m.1.1.1)<|aD.cons z (aj.leaf 12 (λt q=>z)<|ia m.1.1.2) aD.nil;have h:c<2:=by rcases c9.mp b with rfl|b;decide;rw[c_]at b;subst b;decide
 have j:qt (rB (eG v) f c)=I (jZ (eG v) f c):=by have:=bG.mp (bG.mp (bG.mp Y9 _<|bl.mpr<|rA v) f<|bl.mpr<|H.nl f n) c<|bl.mpr h;exact ia this
 have l:aI .Add (.str<|t9 (eG v) f c) (.str "x")=I (.str<|rB (eG v) f c):=by rcases c9.mp b with rfl|b;exact ia m.1.2;rw[c_]at b;subst b;exact ia m.2
 refine aj.call (ds:=[.str<|rB (eG v) f c]) z z ?_<|lV (k:=8) (g:=l4) z z j;rw[(z:bo (b8<|b8<|aO<|aT 20)=[cp<|b8<|b8<|aO<|aT 20])];exact aD.cons z (aj.leaf 12 (λt q=>z) l) aD.nil
def ta(c:Nat):aq:=((cZ<|b8<|aO<|aT 21)[c]?).getD bJ
def Rc:az (bc 8) cR [] (FF v) (aT 21) (.next<|md v):=by
 have d:=H.da;have r:=H.nul;refine az.name "apart" v.ap z z z z ?_;have cD:v.ap=.list (v.dz.flatMap λf=>[(f,0),(f,1)].map λZ:Nat×Nat=>af.list [.bool av,.bool av]):=by rw[H.ap];rfl
 rw[cD];refine aj.D_ v.dz (λf=>.tuple [gP (eG v) f,.list<|[0,1].map<|jZ (eG v) f]) (λf=>[(f,0),(f,1)]) (λp=>jZ (eG v) p.1 p.2) (λf Z=>af.list [.bool av,.bool av]) z (ck.leaf 9 (x:=(nB v.lo).map λj=>oy v.lj j) (λt i=>z) (by rw[H.lo,H.lj];exact congrArg I<|MW _ _ _)) (λf=>z) (λf Z=>ck.lf 9 ([0,1].map<|jZ (eG v) f) λt i=>z) (λf p=>z) (λf n p q=>?_) (ao (tn (c:=2) λZ Z=>by simp)<|by omega);have w:p.1=f/\p.2<2:=by rcases c9.mp q with rfl|q;exact⟨rfl,show 0<2 by decide⟩;rw[c_]at q;subst q;exact⟨rfl,show 1<2 by decide⟩
 obtain⟨m,s⟩:=Y' (rA v) (H.nl f n) w.2;obtain⟨e,g⟩:=p;obtain⟨rfl,h⟩:=w;refine aj.list z (ds:=[.bool av,.bool av]) ?_ (show 2<=1000000 by exact cy _ _);rw[(z:cZ (b8<|aO<|aT 21)=[ta 0,ta 1])];refine aD.cons z (aj.e' (a:=gP (eG v) e) (ds:=[jZ (eG v) e g]) z (aj.lf 9 (gP (eG v) e) λt i=>z) ?_ m)<|aD.cons z (aj.e' (a:=jZ (eG v) e g) (ds:=[gP (eG v) e]) z (aj.lf 9 (jZ (eG v) e g) λt i=>z) ?_ s) aD.nil;rw[(z:bo (ta 0)=[cp<|ta 0])];exact aD.cons z (aj.lf 9 (jZ (eG v) e g) λt i=>z) aD.nil;rw[(z:bo (ta 1)=[cp<|ta 1])];exact aD.cons z (aj.lf 9 (gP (eG v) e) λt i=>z) aD.nil
end
abbrev b5:=UInt64
noncomputable def k0:b5:=4607182418800017408
noncomputable def hp:b5:=4611686018427387904
noncomputable def v8:b5:=4616189618054758400
noncomputable def jl:b5:=4618441417868443648
noncomputable def k1:b5:=4602678819172646912
noncomputable def d2(f p:b5):Bool:=gI f p==I qM
noncomputable def jn(f p:b5):Bool:=gI f p==I om
noncomputable def oT(f p:b5):Bool:=gI f p==I om||gI f p==I qM
def ZQ(f p g:b5):b5:=hQ f p g<|x6 (λd w=>gI (hQ f p g d) (hQ f p g w)==I G') 2
def ZH(f p g:b5):b5:=hQ f p g<|x6 (λd w=>gI (hQ f p g d) (hQ f p g w)==I om) 2
def lX{f p:b5}(j:ik p=av):aI .Div (.float f) (.float p)=I (.float<|iO f p):=by show(if(!ik p)=ah then I (af.float<|iO f p)else ai)=_;rw[j];rfl
def Eb{f p:b5}(j:ik p=av):aI .Mod (.float f) (.float p)=I (.float (xZ f p).2):=by show(if(!ik p)=ah then I (af.float (xZ f p).2)else ai)=_;rw[j];rfl
def K2:ik jl=av:=by decide+kernel
def DB:ik k0=av:=by decide+kernel
def WO:ik hp=av:=by decide+kernel
set_option genInjectivity false in
structure Ia where
 b0:b5
 gm:b5
 fQ:b5
 rc:b5
 kv:b5
 kl:b5
def ag(r g b:b5):Ia:=
 let b0:=ZQ r g b
 let gm:=ZH r g b
 let fQ:=Float64.sub b0 gm
 ⟨b0,gm,fQ,Float64.div (Float64.sub b0 r) fQ,Float64.div (Float64.sub b0 g) fQ,Float64.div (Float64.sub b0 b) fQ⟩
def gN(m:Ia)(w e:b5):b5:=if d2 w m.b0 then dc m.kl m.kv else if d2 e m.b0 then dc (dH hp m.rc) m.kl else dc (dH v8 m.kv) m.rc
def fl(w e p:b5):b5:=(xZ (iO (gN (ag w e p) w e) jl) k0).2
def l5(w e p:b5):b5:=iO (ag w e p).fQ (ag w e p).b0
def k4(w e p:b5):b5:=iO (dH (ag w e p).b0 (ag w e p).gm) hp
def k5(w e p:b5):b5:=if oT (k4 w e p) k1 then iO (ag w e p).fQ (dH (ag w e p).b0 (ag w e p).gm)else iO (ag w e p).fQ (dc (dc hp (ag w e p).b0) (ag w e p).gm)
def p8(w e p:b5):Bool:=!d2 (ag w e p).gm (ag w e p).b0&&!ik (ag w e p).fQ&&!ik (ag w e p).b0
def rx(w e p:b5):Bool:=!d2 (ag w e p).gm (ag w e p).b0&&!ik (ag w e p).fQ&&(if oT (k4 w e p) k1 then !ik (dH (ag w e p).b0 (ag w e p).gm)else !ik (dc (dc hp (ag w e p).b0) (ag w e p).gm))
def RS:a0:=a0.fn<|b9 mj
def hJ(c:Nat):aP:=aN (bp mj) c
section
variable(k:Nat)(r g b:b5)
noncomputable def Cp:aG:=[("r",.val<|.float r),("g",.val<|.float g),("b",.val<|.float b)]
def Cq:aG:=q "maxc" (.float (ag r g b).b0)<|Cp r g b
def yL:aG:=q "minc" (.float (ag r g b).gm)<|Cq r g b
def Iv:aG:=q "rangec" (.float (ag r g b).fQ)<|yL r g b
def Cr:aG:=q "v" (.float (ag r g b).b0)<|Iv r g b
def Iw:aG:=q "s" (.float<|l5 r g b)<|Cr r g b
def Iy:aG:=q "rc" (.float (ag r g b).rc)<|Iw r g b
def Iz:aG:=q "gc" (.float (ag r g b).kv)<|Iy r g b
def Cs:aG:=q "bc" (.float (ag r g b).kl)<|Iz r g b
def Sg:aG:=q "h" (.float<|gN (ag r g b) r g)<|Cs r g b
def Sh:aG:=q "h" (.float<|fl r g b)<|Cs r g b
def Lr(j:p8 r g b=true):bR λt Z=>(bc (k+2) t).call "rgb_to_hsv" [.float r,.float g,.float b]=I (.tuple [.float<|fl r g b,.float<|l5 r g b,.float (ag r g b).b0]):=by
 unfold p8 at j;simp only[bY,ew]at j;obtain⟨⟨s,l⟩,d⟩:=j;refine nA (k:=k+1) (G:=gf mj []) z z z z ?_;show aE (bc<|k+1) RS [] (c4 (bH mj) [.float r,.float g,.float b]) (bp mj) _;rw[show c4 (bH mj) [.float r,.float g,.float b]=Cp r g b by kernel_rfl,(z:bp mj=[hJ 0,hJ 1,hJ 2,hJ 3,hJ 4,hJ 5,hJ 6,hJ 7,hJ 8,hJ 9,hJ 10,hJ 11])];refine aE.cons (aX:=Cq r g b) ?_<|aE.cons (aX:=yL r g b) ?_<|aE.cons (aX:=Iv r g b) ?_<|aE.cons (aX:=Cr r g b) ?_<|aE.cons (aX:=Cr r g b) ?_<|aE.cons (aX:=Iw r g b) ?_<|aE.cons (aX:=Iy r g b) ?_<|aE.cons (aX:=Iz r g b) ?_<|aE.cons (aX:=Cs r g b) ?_<|aE.cons (aX:=Sg r g b) ?_<|aE.cons (aX:=Sh r g b) ?_<|aE.ret ?_;exact az.name "maxc" (.float (ag r g b).b0) z z z z<|aj.lf 9 (.float (ag r g b).b0) λt q=>z;exact az.name "minc" (.float (ag r g b).gm) z z z z<|aj.lf 9 (.float (ag r g b).gm) λt q=>z;exact az.name "rangec" (.float (ag r g b).fQ) z z z z<|aj.lf 9 (.float (ag r g b).fQ) λt q=>z;exact az.name "v" (.float (ag r g b).b0) z z z z<|aj.lf 9 (.float (ag r g b).b0) λt q=>z;exact az.skip z (bO.leaf 9 (x:=I<|d2 (ag r g b).gm (ag r g b).b0) (λt q=>z)<|by rw[s]);exact az.name "s" (.float<|l5 r g b) z z z z<|aj.leaf 9 (x:=aI .Div (.float (ag r g b).fQ)<|.float (ag r g b).b0) (λt q=>z)<|lX d;exact az.name "rc" (.float (ag r g b).rc) z z z z<|aj.leaf 9 (x:=aI .Div (.float<|dc (ag r g b).b0 r)<|.float (ag r g b).fQ) (λt q=>z)<|lX l;exact az.name "gc" (.float (ag r g b).kv) z z z z<|aj.leaf 9 (x:=aI .Div (.float<|dc (ag r g b).b0 g)<|.float (ag r g b).fQ) (λt q=>z)<|lX l;exact az.name "bc" (.float (ag r g b).kl) z z z z<|aj.leaf 9 (x:=aI .Div (.float<|dc (ag r g b).b0 b)<|.float (ag r g b).fQ) (λt q=>z)<|lX l;induction aC:d2 r (ag r g b).b0 using bz with
 |true=>
  have i:gN (ag r g b) r g=dc (ag r g b).kl (ag r g b).kv:=by unfold gN;rw[aC,if_pos rfl]
  refine az.g9 z (bO.leaf 9 (x:=I<|d2 r (ag r g b).b0) (λt q=>z)<|by rw[aC]) ?_;rw[(z:c2 (hJ 9)=[aN (c2<|hJ 9) 0])];exact aE.cons (az.name "h" (.float<|gN (ag r g b) r g) z z z z<|aj.leaf 9 (x:=I<|.float<|dc (ag r g b).kl (ag r g b).kv) (λt q=>z)<|by rw[i]) aE.nil
 |false=>
  refine az.nW z (bO.leaf 9 (x:=I<|d2 r (ag r g b).b0) (λt q=>z)<|by rw[aC]) ?_;rw[(z:e9 (hJ 9)=[aN (e9<|hJ 9) 0])];induction aM:d2 g (ag r g b).b0 using bz with
  |true=>
   have i:gN (ag r g b) r g=dc (dH hp (ag r g b).rc) (ag r g b).kl:=by unfold gN;rw[aC,if_neg z,aM,if_pos rfl]
   refine aE.cons (az.g9 z (bO.leaf 9 (x:=I<|d2 g (ag r g b).b0) (λt q=>z)<|by rw[aM]) ?_) aE.nil;rw[(z:c2 (aN (e9<|hJ 9) 0)=[aN (c2<|aN (e9<|hJ 9) 0) 0])];exact aE.cons (az.name "h" (.float<|gN (ag r g b) r g) z z z z<|aj.leaf 9 (x:=I<|.float<|dc (dH hp (ag r g b).rc) (ag r g b).kl) (λt q=>z)<|by rw[i]) aE.nil
  |false=>
   have i:gN (ag r g b) r g=dc (dH v8 (ag r g b).kv) (ag r g b).rc:=by unfold gN;rw[aC,if_neg z,aM,if_neg z]
   refine aE.cons (az.nW z (bO.leaf 9 (x:=I<|d2 g (ag r g b).b0) (λt q=>z)<|by rw[aM]) ?_) aE.nil;rw[(z:e9 (aN (e9<|hJ 9) 0)=[aN (e9<|aN (e9<|hJ 9) 0) 0])];exact aE.cons (az.name "h" (.float<|gN (ag r g b) r g) z z z z<|aj.leaf 9 (x:=I<|.float<|dc (dH v8 (ag r g b).kv) (ag r g b).rc) (λt q=>z)<|by rw[i]) aE.nil
 have i:((aI .Div (.float<|gN (ag r g b) r g)<|.float jl).bind λf=>aI .Mod f<|.float k0)=I (.float<|fl r g b):=by rw[lX K2,a3,Eb DB];rfl
 exact az.name "h" (.float<|fl r g b) z z z z<|aj.leaf 9 (λt q=>z) i;exact az.ret z<|aj.lf 9 (.tuple [.float<|fl r g b,.float<|l5 r g b,.float (ag r g b).b0]) λt q=>z
end
def RQ:a0:=a0.fn<|b9 mg
def gd(c:Nat):aP:=aN (bp mg) c
section
variable(k:Nat)(r g b:b5)
def K4:aG:=q "sumc" (.float<|dH (ag r g b).b0 (ag r g b).gm)<|yL r g b
def K5:aG:=q "rangec" (.float (ag r g b).fQ)<|K4 r g b
def DC:aG:=q "l" (.float<|k4 r g b)<|K5 r g b
def K7:aG:=q "s" (.float<|k5 r g b)<|DC r g b
def K9:aG:=q "rc" (.float (ag r g b).rc)<|K7 r g b
def K_:aG:=q "gc" (.float (ag r g b).kv)<|K9 r g b
def DD:aG:=q "bc" (.float (ag r g b).kl)<|K_ r g b
def W':aG:=q "h" (.float<|gN (ag r g b) r g)<|DD r g b
def Xa:aG:=q "h" (.float<|fl r g b)<|DD r g b
def Ln(j:rx r g b=true):bR λt Z=>(bc (k+2) t).call "rgb_to_hls" [.float r,.float g,.float b]=I (.tuple [.float<|fl r g b,.float<|k4 r g b,.float<|k5 r g b]):=by
 unfold rx at j;simp only[bY,ew]at j;obtain⟨⟨s,l⟩,d⟩:=j;refine nA (k:=k+1) (G:=gf mg []) z z z z ?_;show aE (bc<|k+1) RQ [] (c4 (bH mg) [.float r,.float g,.float b]) (bp mg) _;rw[show c4 (bH mg) [.float r,.float g,.float b]=Cp r g b by kernel_rfl,(z:bp mg=[gd 0,gd 1,gd 2,gd 3,gd 4,gd 5,gd 6,gd 7,gd 8,gd 9,gd 10,gd 11,gd 12])];refine aE.cons (aX:=Cq r g b) ?_<|aE.cons (aX:=yL r g b) ?_<|aE.cons (aX:=K4 r g b) ?_<|aE.cons (aX:=K5 r g b) ?_<|aE.cons (aX:=DC r g b) ?_<|aE.cons (aX:=DC r g b) ?_<|aE.cons (aX:=K7 r g b) ?_<|aE.cons (aX:=K9 r g b) ?_<|aE.cons (aX:=K_ r g b) ?_<|aE.cons (aX:=DD r g b) ?_<|aE.cons (aX:=W' r g b) ?_<|aE.cons (aX:=Xa r g b) ?_<|aE.ret ?_;exact az.name "maxc" (.float (ag r g b).b0) z z z z<|aj.lf 9 (.float (ag r g b).b0) λt q=>z;exact az.name "minc" (.float (ag r g b).gm) z z z z<|aj.lf 9 (.float (ag r g b).gm) λt q=>z;exact az.name "sumc" (.float<|dH (ag r g b).b0 (ag r g b).gm) z z z z<|aj.lf 9 (.float<|dH (ag r g b).b0 (ag r g b).gm) λt q=>z;exact az.name "rangec" (.float (ag r g b).fQ) z z z z<|aj.lf 9 (.float (ag r g b).fQ) λt q=>z;exact az.name "l" (.float<|k4 r g b) z z z z<|aj.leaf 9 (x:=aI .Div (.float<|dH (ag r g b).b0 (ag r g b).gm)<|.float hp) (λt q=>z)<|lX WO;exact az.skip z (bO.leaf 9 (x:=I<|d2 (ag r g b).gm (ag r g b).b0) (λt q=>z)<|by rw[s]);induction aC:oT (k4 r g b) k1 using bz with
 |true=>
  rw[aC,if_pos rfl,ew]at d;have i:k5 r g b=iO (ag r g b).fQ (dH (ag r g b).b0 (ag r g b).gm):=by unfold k5;rw[aC,if_pos rfl]
  refine az.g9 z (bO.leaf 9 (x:=I<|oT (k4 r g b) k1) (λt q=>z)<|by rw[aC]) ?_;rw[(z:c2 (gd 6)=[aN (c2<|gd 6) 0])];exact aE.cons (az.name "s" (.float<|k5 r g b) z z z z<|aj.leaf 9 (x:=aI .Div (.float (ag r g b).fQ)<|.float<|dH (ag r g b).b0 (ag r g b).gm) (λt q=>z) (by rw[i];exact lX d)) aE.nil
 |false=>
  rw[aC,if_neg z,ew]at d;have i:k5 r g b=iO (ag r g b).fQ (dc (dc hp (ag r g b).b0) (ag r g b).gm):=by unfold k5;rw[aC,if_neg z]
  refine az.nW z (bO.leaf 9 (x:=I<|oT (k4 r g b) k1) (λt q=>z)<|by rw[aC]) ?_;rw[(z:e9 (gd 6)=[aN (e9<|gd 6) 0])];exact aE.cons (az.name "s" (.float<|k5 r g b) z z z z<|aj.leaf 9 (x:=aI .Div (.float (ag r g b).fQ)<|.float<|dc (dc hp (ag r g b).b0) (ag r g b).gm) (λt q=>z) (by rw[i];exact lX d)) aE.nil
 exact az.name "rc" (.float (ag r g b).rc) z z z z<|aj.leaf 9 (x:=aI .Div (.float<|dc (ag r g b).b0 r)<|.float (ag r g b).fQ) (λt q=>z)<|lX l;exact az.name "gc" (.float (ag r g b).kv) z z z z<|aj.leaf 9 (x:=aI .Div (.float<|dc (ag r g b).b0 g)<|.float (ag r g b).fQ) (λt q=>z)<|lX l;exact az.name "bc" (.float (ag r g b).kl) z z z z<|aj.leaf 9 (x:=aI .Div (.float<|dc (ag r g b).b0 b)<|.float (ag r g b).fQ) (λt q=>z)<|lX l;induction aC:d2 r (ag r g b).b0 using bz with
 |true=>
  have i:gN (ag r g b) r g=dc (ag r g b).kl (ag r g b).kv:=by unfold gN;rw[aC,if_pos rfl]
  refine az.g9 z (bO.leaf 9 (x:=I<|d2 r (ag r g b).b0) (λt q=>z)<|by rw[aC]) ?_;rw[(z:c2 (gd 10)=[aN (c2<|gd 10) 0])];exact aE.cons (az.name "h" (.float<|gN (ag r g b) r g) z z z z<|aj.leaf 9 (x:=I<|.float<|dc (ag r g b).kl (ag r g b).kv) (λt q=>z)<|by rw[i]) aE.nil
 |false=>
  refine az.nW z (bO.leaf 9 (x:=I<|d2 r (ag r g b).b0) (λt q=>z)<|by rw[aC]) ?_;rw[(z:e9 (gd 10)=[aN (e9<|gd 10) 0])];induction aM:d2 g (ag r g b).b0 using bz with
  |true=>
   have i:gN (ag r g b) r g=dc (dH hp (ag r g b).rc) (ag r g b).kl:=by unfold gN;rw[aC,if_neg z,aM,if_pos rfl]
   refine aE.cons (az.g9 z (bO.leaf 9 (x:=I<|d2 g (ag r g b).b0) (λt q=>z)<|by rw[aM]) ?_) aE.nil;rw[(z:c2 (aN (e9<|gd 10) 0)=[aN (c2<|aN (e9<|gd 10) 0) 0])];exact aE.cons (az.name "h" (.float<|gN (ag r g b) r g) z z z z<|aj.leaf 9 (x:=I<|.float<|dc (dH hp (ag r g b).rc) (ag r g b).kl) (λt q=>z)<|by rw[i]) aE.nil
  |false=>
   have i:gN (ag r g b) r g=dc (dH v8 (ag r g b).kv) (ag r g b).rc:=by unfold gN;rw[aC,if_neg z,aM,if_neg z]
   refine aE.cons (az.nW z (bO.leaf 9 (x:=I<|d2 g (ag r g b).b0) (λt q=>z)<|by rw[aM]) ?_) aE.nil;rw[(z:e9 (aN (e9<|gd 10) 0)=[aN (e9<|aN (e9<|gd 10) 0) 0])];exact aE.cons (az.name "h" (.float<|gN (ag r g b) r g) z z z z<|aj.leaf 9 (x:=I<|.float<|dc (dH v8 (ag r g b).kv) (ag r g b).rc) (λt q=>z)<|by rw[i]) aE.nil
 have i:((aI .Div (.float<|gN (ag r g b) r g)<|.float jl).bind λf=>aI .Mod f<|.float k0)=I (.float<|fl r g b):=by rw[lX K2,a3,Eb DB];rfl
 exact az.name "h" (.float<|fl r g b) z z z z<|aj.leaf 9 (λt q=>z) i;exact az.ret z<|aj.lf 9 (.tuple [.float<|fl r g b,.float<|k4 r g b,.float<|k5 r g b]) λt q=>z
end
def q9:a0:=a0.fn<|b9 ml
def eQ(c:Nat):aP:=aN (bp ml) c
noncomputable def Oj(a:b5):Int:=match oo a with|.fin b r i=>Hf b r i|_=>0
noncomputable def v9(m:b5):Bool:=match oo m with|.fin _ _ _=>ah|_=>av
section
variable(k:Nat)(h s v:b5)
def fH:Int:=Oj<|cX h jl
def uq:b5:=dc (cX h jl)<|eA<|fH h
def ha:b5:=cX v<|dc k0 s
def lx:b5:=cX v<|dc k0<|cX s<|uq h
def ly:b5:=cX v<|dc k0<|cX s<|dc k0<|uq h
def j5:List b5:=match(fH h%6).toNat with|0=>[v,ly h s v,ha s v]|1=>[lx h s v,v,ha s v]|2=>[ha s v,v,ly h s v]|3=>[ha s v,lx h s v,v]|4=>[ly h s v,ha s v,v]|_=>[v,ha s v,lx h s v]
noncomputable def zF:aG:=[("h",.val<|.float h),("s",.val<|.float s),("v",.val<|.float v)]
def Lf:aG:=q "i" (.int<|fH h)<|zF h s v
def Lh:aG:=q "f" (.float<|uq h)<|Lf h s v
def Li:aG:=q "p" (.float<|ha s v)<|Lh h s v
def Lj:aG:=q "q" (.float<|lx h s v)<|Li h s v
def Xg:aG:=q "t" (.float<|ly h s v)<|Lj h s v
def rv:aG:=q "i" (J (fH h%6).toNat)<|q "t" (.float<|ly h s v)<|q "q" (.float<|lx h s v)<|q "p" (.float<|ha s v)<|q "f" (.float<|uq h)<|zF h s v
def Zj:∀y,y<6->y=0\/y=1\/y=2\/y=3\/y=4\/y=5:=z
def adJ(q:d2 s 0=av)(l:v9 (cX h jl)=ah)(d:jm (fH h)=ah):bR λt Z=>(bc (k+2) t).call "hsv_to_rgb" [.float h,.float s,.float v]=I (.tuple<|(j5 h s v).map .float):=by
 refine nA (k:=k+1) (G:=gf ml []) z z z z ?_;show aE (bc<|k+1) q9 [] (c4 (bH ml) [.float h,.float s,.float v]) (bp ml) _;rw[show c4 (bH ml) [.float h,.float s,.float v]=zF h s v by kernel_rfl,(z:bp ml=[eQ 0,eQ 1,eQ 2,eQ 3,eQ 4,eQ 5,eQ 6,eQ 7,eQ 8,eQ 9,eQ 10,eQ 11,eQ 12])];refine aE.cons (aX:=zF h s v) ?_<|aE.cons (aX:=Lf h s v) ?_<|aE.cons (aX:=Lh h s v) ?_<|aE.cons (aX:=Li h s v) ?_<|aE.cons (aX:=Lj h s v) ?_<|aE.cons (aX:=Xg h s v) ?_<|aE.cons (aX:=rv h s v) ?_ ?_;exact az.skip z (bO.leaf 9 (x:=I<|d2 s 0) (λt r=>z)<|by rw[q]);refine az.name "i" (.int<|fH h) z z z z ?_;refine aj.call (ds:=[.float<|cX h jl]) z z ?_<|hl (k:=k+1) (g:=ym) z ?_;rw[(z:bo (aO<|eQ 1)=[cp<|aO<|eQ 1])];exact aD.cons z (aj.lf 9 (.float<|cX h jl) λt r=>z) aD.nil;unfold v9 at l;unfold ym fH Oj;dsimp only;split at l;rename_i n;first|rw[n]|rfl
 cases l;have n:((I<|af.float<|cX h jl).bind λf=>aI .Sub f<|.int<|fH h)=I (.float<|uq h):=by show(if jm (fH h)=ah then I (af.float<|dc (cX h jl)<|eA<|fH h)else ai)=_;rw[d];rfl
 exact az.name "f" (.float<|uq h) z z z z<|aj.leaf 9 (λt r=>z) n;exact az.name "p" (.float<|ha s v) z z z z<|aj.lf 9 (.float<|ha s v) λt r=>z;exact az.name "q" (.float<|lx h s v) z z z z<|aj.lf 9 (.float<|lx h s v) λt r=>z;exact az.name "t" (.float<|ly h s v) z z z z<|aj.lf 9 (.float<|ly h s v) λt r=>z;have n:aI .Mod (.int<|fH h) (J 6)=I (J (fH h%6).toNat):=by show I (af.int<|OW _ ((6:Nat):Int))=_;rw[Bj _ z];exact congrArg (λc=>I<|af.int c) (og<|sd _ z).symm
 exact az.name "i" (J (fH h%6).toNat) z z z z<|aj.leaf 9 (λt r=>z) n;have y:(fH h%6).toNat<6:=by exact(xH<|sd _ z).mpr<|GA (fH h) z
 have lM:∀p,((fH h%6).toNat==0)=p->bO (bc<|k+1) q9 (rv h s v).plus (aO<|eQ 7) p:=λZ n=>n▸bO.leaf 9 (x:=fC .Eq (J (fH h%6).toNat)<|J 0) (λt r=>z) (mO _ _);have bW:∀p,((fH h%6).toNat==1)=p->bO (bc<|k+1) q9 (rv h s v).plus (aO<|eQ 8) p:=λZ n=>n▸bO.leaf 9 (x:=fC .Eq (J (fH h%6).toNat)<|J 1) (λt r=>z) (mO _ _);have cn:∀p,((fH h%6).toNat==2)=p->bO (bc<|k+1) q9 (rv h s v).plus (aO<|eQ 9) p:=λZ n=>n▸bO.leaf 9 (x:=fC .Eq (J (fH h%6).toNat)<|J 2) (λt r=>z) (mO _ _);have e0:∀p,((fH h%6).toNat==3)=p->bO (bc<|k+1) q9 (rv h s v).plus (aO<|eQ 10) p:=λZ n=>n▸bO.leaf 9 (x:=fC .Eq (J (fH h%6).toNat)<|J 3) (λt r=>z) (mO _ _);have m:∀p,((fH h%6).toNat==4)=p->bO (bc<|k+1) q9 (rv h s v).plus (aO<|eQ 11) p:=λZ n=>n▸bO.leaf 9 (x:=fC .Eq (J (fH h%6).toNat)<|J 4) (λt r=>z) (mO _ _);have w:∀p,((fH h%6).toNat==5)=p->bO (bc<|k+1) q9 (rv h s v).plus (aO<|eQ 12) p:=λZ n=>n▸bO.leaf 9 (x:=fC .Eq (J (fH h%6).toNat)<|J 5) (λt r=>z) (mO _ _);rcases Zj _ y with n|n|n|n|n|n;have j:j5 h s v=[v,ly h s v,ha s v]:=by unfold j5;rw[n];rfl
 rw[j];refine aE.ret (az.g9 z (lM _ (by rw[n];rfl)) ?_);rw[(z:c2 (eQ 7)=[aN (c2<|eQ 7) 0])];exact aE.ret<|az.ret z<|aj.lf 9 (.tuple [.float v,.float<|ly h s v,.float<|ha s v]) λt r=>z;have j:j5 h s v=[lx h s v,v,ha s v]:=by unfold j5;rw[n];rfl
 rw[j];refine aE.cons (az.skip z<|lM _ (by rw[n];rfl)) (aE.ret<|az.g9 z (bW _ (by rw[n];rfl)) ?_);rw[(z:c2 (eQ 8)=[aN (c2<|eQ 8) 0])];exact aE.ret<|az.ret z<|aj.lf 9 (.tuple [.float<|lx h s v,.float v,.float<|ha s v]) λt r=>z;have j:j5 h s v=[ha s v,v,ly h s v]:=by unfold j5;rw[n];rfl
 rw[j];refine aE.cons (az.skip z<|lM _ (by rw[n];rfl)) (aE.cons (az.skip z<|bW _ (by rw[n];rfl))<|aE.ret<|az.g9 z (cn _ (by rw[n];rfl)) ?_);rw[(z:c2 (eQ 9)=[aN (c2<|eQ 9) 0])];exact aE.ret<|az.ret z<|aj.lf 9 (.tuple [.float<|ha s v,.float v,.float<|ly h s v]) λt r=>z;have j:j5 h s v=[ha s v,lx h s v,v]:=by unfold j5;rw[n];rfl
 rw[j];refine aE.cons (az.skip z<|lM _ (by rw[n];rfl)) (aE.cons (az.skip z<|bW _ (by rw[n];rfl))<|aE.cons (az.skip z<|cn _ (by rw[n];rfl))<|aE.ret<|az.g9 z (e0 _ (by rw[n];rfl)) ?_);rw[(z:c2 (eQ 10)=[aN (c2<|eQ 10) 0])];exact aE.ret<|az.ret z<|aj.lf 9 (.tuple [.float<|ha s v,.float<|lx h s v,.float v]) λt r=>z;have j:j5 h s v=[ly h s v,ha s v,v]:=by unfold j5;rw[n];rfl
 rw[j];refine aE.cons (az.skip z<|lM _ (by rw[n];rfl)) (aE.cons (az.skip z<|bW _ (by rw[n];rfl))<|aE.cons (az.skip z<|cn _ (by rw[n];rfl))<|aE.cons (az.skip z<|e0 _ (by rw[n];rfl))<|aE.ret<|az.g9 z (m _ (by rw[n];rfl)) ?_);rw[(z:c2 (eQ 11)=[aN (c2<|eQ 11) 0])];exact aE.ret<|az.ret z<|aj.lf 9 (.tuple [.float<|ly h s v,.float<|ha s v,.float v]) λt r=>z;have j:j5 h s v=[v,ha s v,lx h s v]:=by unfold j5;rw[n];rfl
 rw[j];refine aE.cons (az.skip z<|lM _ (by rw[n];rfl)) (aE.cons (az.skip z<|bW _ (by rw[n];rfl))<|aE.cons (az.skip z<|cn _ (by rw[n];rfl))<|aE.cons (az.skip z<|e0 _ (by rw[n];rfl))<|aE.cons (az.skip z<|m _ (by rw[n];rfl))<|aE.ret<|az.g9 z (w _ (by rw[n];rfl)) ?_);rw[(z:c2 (eQ 12)=[aN (c2<|eQ 12) 0])];exact aE.ret<|az.ret z<|aj.lf 9 (.tuple [.float v,.float<|ha s v,.float<|lx h s v]) λt r=>z
end
noncomputable def um:b5:=4599676419421066581
noncomputable def A0:b5:=4595172819793696085
noncomputable def uo:b5:=4604180019048437077
def yH:a0:=a0.fn<|b9 mi
def kj(c:Nat):aP:=aN (bp mi) c
section
variable(k:Nat)(hu iZ h:b5)
def iF:b5:=(xZ h k0).2
def xw:b5:=if jn (iF h) A0 then dH hu (cX (cX (dc iZ hu)<|iF h) jl)else if jn (iF h) k1 then iZ else if jn (iF h) uo then dH hu (cX (cX (dc iZ hu)<|dc uo<|iF h) jl)else hu
noncomputable def Zn:aG:=[("m1",.val<|.float hu),("m2",.val<|.float iZ),("hue",.val<|.float h)]
def z8:aG:=q "hue" (.float<|iF h) [("m1",.val<|.float hu),("m2",.val<|.float iZ)]
def Gj:bR λt Z=>(bc (k+2) t).call "_v" [.float hu,.float iZ,.float h]=I (.float<|xw hu iZ h):=by
 refine nA (k:=k+1) (G:=gf mi []) z z z z ?_;show aE (bc<|k+1) yH [] (c4 (bH mi) [.float hu,.float iZ,.float h]) (bp mi) _;rw[show c4 (bH mi) [.float hu,.float iZ,.float h]=Zn hu iZ h by kernel_rfl,(z:bp mi=[kj 0,kj 1,kj 2,kj 3,kj 4])];refine aE.cons (aX:=z8 hu iZ h) (az.name "hue" (.float<|iF h) z z z z<|aj.leaf 9 (x:=aI .Mod (.float h)<|.float k0) (λt q=>z)<|Eb DB) ?_;unfold xw;have bW:bO (bc<|k+1) yH (z8 hu iZ h).plus (aO<|kj 1) (jn (iF h) A0):=bO.lf 9 (jn (iF h) A0) λt q=>z;have cn:bO (bc<|k+1) yH (z8 hu iZ h).plus (aO<|kj 2) (jn (iF h) k1):=bO.lf 9 (jn (iF h) k1) λt q=>z;have e0:bO (bc<|k+1) yH (z8 hu iZ h).plus (aO<|kj 3) (jn (iF h) uo):=bO.lf 9 (jn (iF h) uo) λt q=>z;induction aC:jn (iF h) A0 using bz with
 |true=>
  rw[aC]at bW;rw[if_pos rfl];refine aE.ret<|az.g9 z bW ?_;rw[(z:c2 (kj 1)=[aN (c2<|kj 1) 0])];exact aE.ret<|az.ret z<|aj.lf 9 (.float<|dH hu<|cX (cX (dc iZ hu)<|iF h) jl) λt q=>z
 |false=>
  rw[aC]at bW;rw[if_neg z];refine aE.cons (az.skip z bW) ?_;induction aM:jn (iF h) k1 using bz with
  |true=>
   rw[aM]at cn;rw[if_pos rfl];refine aE.ret<|az.g9 z cn ?_;rw[(z:c2 (kj 2)=[aN (c2<|kj 2) 0])];exact aE.ret<|az.ret z<|aj.lf 9 (.float iZ) λt q=>z
  |false=>
   rw[aM]at cn;rw[if_neg z];refine aE.cons (az.skip z cn) ?_;induction bU:jn (iF h) uo using bz with
   |true=>
    rw[bU]at e0;rw[if_pos rfl];refine aE.ret<|az.g9 z e0 ?_;rw[(z:c2 (kj 3)=[aN (c2<|kj 3) 0])];exact aE.ret<|az.ret z<|aj.lf 9 (.float<|dH hu<|cX (cX (dc iZ hu)<|dc uo<|iF h) jl) λt q=>z
   |false=>
    rw[bU]at e0;rw[if_neg z];refine aE.cons (az.skip z e0) ?_;exact aE.ret<|az.ret z<|aj.lf 9 (.float hu) λt q=>z
end
def RR:a0:=a0.fn<|b9 mh
def nJ(c:Nat):aP:=aN (bp mh) c
section
variable(k:Nat)(h l s:b5)
def iY:b5:=if oT l k1 then cX l (dH k0 s)else dc (dH l s) (cX l s)
def l3:b5:=dc (cX hp l)<|iY l s
def zH:List b5:=[xw (l3 l s) (iY l s)<|dH h um,xw (l3 l s) (iY l s) h,xw (l3 l s) (iY l s)<|dc h um]
noncomputable def DZ:aG:=[("h",.val<|.float h),("l",.val<|.float l),("s",.val<|.float s)]
def LY:aG:=q "m2" (.float<|iY l s)<|DZ h l s
def Yp:aG:=q "m1" (.float<|l3 l s)<|LY h l s
def j4(c:Nat):aq:=((cZ<|aO<|nJ 3)[c]?).getD bJ
def XA(a:d2 s 0=false):bR λt Z=>(bc (k+3) t).call "hls_to_rgb" [.float h,.float l,.float s]=I (.tuple<|(zH h l s).map .float):=by
 refine nA (k:=k+2) (G:=gf mh []) z z z z ?_;show aE (bc<|k+2) RR [] (c4 (bH mh) [.float h,.float l,.float s]) (bp mh) _;rw[show c4 (bH mh) [.float h,.float l,.float s]=DZ h l s by kernel_rfl,(z:bp mh=[nJ 0,nJ 1,nJ 2,nJ 3])];refine aE.cons (aX:=DZ h l s) (az.skip z<|bO.leaf 9 (x:=I<|d2 s 0) (λt q=>z)<|by rw[a])<|aE.cons (aX:=LY h l s) ?_<|aE.cons (aX:=Yp h l s) ?_<|aE.ret<|az.ret z ?_;induction aC:oT l k1 using bz with
 |true=>
  have i:iY l s=cX l (dH k0 s):=by unfold iY;rw[aC,if_pos rfl]
  refine az.g9 z (bO.leaf 9 (x:=I<|oT l k1) (λt q=>z)<|by rw[aC]) ?_;rw[(z:c2 (nJ 1)=[aN (c2<|nJ 1) 0])];exact aE.cons (az.name "m2" (.float<|iY l s) z z z z<|aj.leaf 9 (x:=I<|.float<|cX l<|dH k0 s) (λt q=>z)<|by rw[i]) aE.nil
 |false=>
  have i:iY l s=dc (dH l s) (cX l s):=by unfold iY;rw[aC,if_neg z]
  refine az.nW z (bO.leaf 9 (x:=I<|oT l k1) (λt q=>z)<|by rw[aC]) ?_;rw[(z:e9 (nJ 1)=[aN (e9<|nJ 1) 0])];exact aE.cons (az.name "m2" (.float<|iY l s) z z z z<|aj.leaf 9 (x:=I<|.float<|dc (dH l s)<|cX l s) (λt q=>z)<|by rw[i]) aE.nil
 exact az.name "m1" (.float<|l3 l s) z z z z<|aj.lf 9 (.float<|l3 l s) λt q=>z;refine aj.tuple z (ds:=(zH h l s).map .float) ?_ (show 3<=1000000 by exact cy _ _);rw[(z:cZ (aO<|nJ 3)=[j4 0,j4 1,j4 2])];refine aD.cons z (aj.call (ds:=[.float<|l3 l s,.float<|iY l s,.float<|dH h um]) z z ?_<|Gj k _ _ _)<|aD.cons z (aj.call (ds:=[.float<|l3 l s,.float<|iY l s,.float h]) z z ?_<|Gj k _ _ _)<|aD.cons z (aj.call (ds:=[.float<|l3 l s,.float<|iY l s,.float<|dc h um]) z z ?_<|Gj k _ _ _) aD.nil;rw[show bo (j4 0)=[cp<|j4 0,((bo<|j4 0)[1]?).getD bJ,((bo<|j4 0)[2]?).getD bJ]by kernel_rfl];exact aD.cons z (aj.lf 9 (.float<|l3 l s) λt q=>z)<|aD.cons z (aj.lf 9 (.float<|iY l s) λt q=>z)<|aD.cons z (aj.lf 9 (.float<|dH h um) λt q=>z) aD.nil;rw[show bo (j4 1)=[cp<|j4 1,((bo<|j4 1)[1]?).getD bJ,((bo<|j4 1)[2]?).getD bJ]by kernel_rfl];exact aD.cons z (aj.lf 9 (.float<|l3 l s) λt q=>z)<|aD.cons z (aj.lf 9 (.float<|iY l s) λt q=>z)<|aD.cons z (aj.lf 9 (.float h) λt q=>z) aD.nil;rw[show bo (j4 2)=[cp<|j4 2,((bo<|j4 2)[1]?).getD bJ,((bo<|j4 2)[2]?).getD bJ]by kernel_rfl];exact aD.cons z (aj.lf 9 (.float<|l3 l s) λt q=>z)<|aD.cons z (aj.lf 9 (.float<|iY l s) λt q=>z)<|aD.cons z (aj.lf 9 (.float<|dc h um) λt q=>z) aD.nil
end
noncomputable def m'(j g:Nat):Nat:=8 -max 4 (min 8<|min ((j+24 -g)%24)<|24 -(j+24 -g)%24)
noncomputable def j2(l t m:Nat):b5:=fI av (t*(16 -l*(4 -m))) 64
noncomputable def hx(l:Nat):b5:=fI av l 4
noncomputable def o5(l t:Nat):b5:=fI av (t*(8 -l)) 32
noncomputable def i7(l t:Nat):b5:=if t*(8 -l)<=16 then fI av l (8 -l)else fI av (t*l) (32 -t*(8 -l))
def a7(j l t g:Nat):b5:=j2 l t<|m' j g
def iG(j:Nat):b5:=fl (a7 j 4 4 0) (a7 j 4 4 8)<|a7 j 4 4 16
noncomputable def rJ(a:b5):Int:=match oo a with|.fin b r i=>x1 b r i|_=>0
noncomputable def mr:b5:=eA 1048576
noncomputable def v'(y:Int):b5:=fI (decide (y<0)!=decide ((1048576:Int)<0)) y.natAbs (1048576:Int).natAbs
def ql(f s:b5):Bool:=v9 (cX f mr)&&!gT (v'<|rJ<|cX f mr)&&d2 (v'<|rJ<|cX f mr) s
noncomputable def ts(j k:Nat):b5:=dH (fI av j 24)<|eA k
noncomputable def zK(j k:Nat):b5:=dc (fI av j 24)<|eA k
def bk(j b t:Nat)(e l a:b5):Bool:=p8 e l a&&rx e l a&&fl e l a==iG j&&d2 (l5 e l a) (hx b)&&d2 (ag e l a).b0 (hx t)&&d2 (k4 e l a) (o5 b t)&&d2 (k5 e l a) (i7 b t)
def zA(j l t:Nat):Bool:=bk j l t (a7 j l t 0) (a7 j l t 8)<|a7 j l t 16
def Fp(d:List b5)(j b t:Nat):Bool:=(ML d).elim av λa=>ql a.1 (a7 j b t 0)&&ql a.2.1 (a7 j b t 8)&&ql a.2.2 (a7 j b t 16)
def LQ(i:aq):Bool:=(zu i).elim av λab=>(n' ab.2).isSome
def NY(i:aq):aq:=(n'<|bo i).elim i id
def X8(j:LQ i=ah):∃y q k s a,i=.Call (.Name y q) k [] s/\n' k=I a:=(eU j).elim λab n=>(Dr n.1).elim λq c=>c.elim λs i=>(qL.mp n.2).elim λa b=>⟨ab.1,q,ab.2,s,a,i,b⟩
def aj.star(B:LQ i=ah)(r:(g.global (mN i)&&(b.lookup<|mN i).isNone)=ah)(l:aj c g b (NY i) a)(D:ud a=I ds)(C:ds.length<=1000)(A:bR λt Z=>(c t).call (mN i) ds=I d):aj c g b i d:=by obtain⟨y,q,k,s,m,rfl,ag⟩:=X8 B;have w:NY (.Call (.Name y q) k [] s)=m:=pX ag rfl;rw[w]at l;exact(l.and A).succ λt E j=>fE r<|pX ag<|b' j.1<|b' D<|fE (gH.mpr<|ao C z) j.2
def mP(q:0<p)(c:gT (fI av f p)=av):aI .Div (J f) (J p)=I (.float<|fI av f p):=by
 have dg:(decide (((f:Nat):Int)<0)!=decide (((p:Nat):Int)<0))=av:=by rw[decide_eq_false<|ja.mpr<|fR f,decide_eq_false<|ja.mpr<|fR p];rfl
 show(if(((p:Nat):Int)!=0&&!gT (fI (decide (((f:Nat):Int)<0)!=decide (((p:Nat):Int)<0)) ((f:Nat):Int).natAbs ((p:Nat):Int).natAbs))=ah then I (af.float<|fI (decide (((f:Nat):Int)<0)!=decide (((p:Nat):Int)<0)) ((f:Nat):Int).natAbs ((p:Nat):Int).natAbs)else ai)=_;rw[dg,GF,GF,if_pos (by rw[c];simp;exact ih o)]
def Z0:(((aH 40).all λj=>!gT (fI av j 24))&&((aH 65).all λa=>!gT (fI av a 64))&&((aH 5).all λl=>!gT (fI av l 4))&&((aH 33).all λl=>!gT (fI av l 32))&&((aH 5).all λl=>(aH 5).all λt=>!gT (fI av l<|8 -l)&&!gT (fI av (t*l)<|32 -t*(8 -l))))=ah:=by decide+kernel
structure yF(h s v k:Nat):Prop where
 h:h<40
 s1:1<=s
 s4:s<=4
 v1:1<=v
 v4:v<=4
 k:k<6
def aej(w:g<=16):m' j g=m' (j%24) g:=by unfold m';rw[Bz<|ao w z,Bz<|ao w z,afr]
def Ba(j g:Nat):m' j g<=4:=by unfold m';exact PD (Pz ..) 8
def qb(j l t k:Nat):List b5:=if k%2=1 then zH (zK j k) (o5 l t) (i7 l t)else j5 (ts j k) (hx l) (hx t)
def l9(j l t k:Nat):Bool:=if k%2=1 then Fp (zH (zK j k) (o5 l t)<|i7 l t) j l t&&!d2 (i7 l t) 0 else Fp (j5 (ts j k) (hx l)<|hx t) j l t&&!d2 (hx l) 0&&v9 (cX (ts j k) jl)&&jm (fH<|ts j k)
def pO:a0:=a0.fn<|b9 mq
def hk(c:Nat):aP:=aN (bp mq) c
noncomputable def LG(j g:Nat):Int:=
 let k:=OW ((j:Int) -(g:Nat)+12) 24 -12
 let f:=if k<0 then -k else k
 let b:=8 -f
 let ab:=if b<4 then b else 4
 if ab>0 then ab else 0
def XM:((aH 40).all λj=>[0,8,16].all λg=>LG j g==(m' j g:Nat))=ah:=by decide+kernel
section
variable(h s v k:Nat)
def kN:aG:=[("hue",.val<|J h),("share",.val<|J s),("value",.val<|J v),("laps",.val<|J k)]
def od:aG:=q "light" (J<|v*(8 -s))<|kN h s v k
def Gq:aG:=q "strength" (.float<|i7 s v)<|od h s v k
def Gr:aG:=q "lamp" (.tuple<|(qb h s v k).map .float)<|Gq h s v k
def m3:List b5:=[a7 h s v 0,a7 h s v 8,a7 h s v 16]
def Gs:aG:=q "parts" (.list<|(m3 h s v).map .float)<|Gr h s v k
def Og:af:=.tuple [.float<|fl (a7 h s v 0) (a7 h s v 8)<|a7 h s v 16,.float<|l5 (a7 h s v 0) (a7 h s v 8)<|a7 h s v 16,.float (ag (a7 h s v 0) (a7 h s v 8)<|a7 h s v 16).b0]
def Bb:aG:=q "told" (Og h s v)<|Gs h s v k
variable{h s v k}(R:yF h s v k)
include R
def yF.FT:v*(8 -s)<=28/\4<=v*(8 -s)/\v*s<=16:=⟨jF R.v4<|PD R.s1 8,jF R.v1<|PD R.s4 8,jF R.v4 R.s4⟩
def yF.inf:gT (fI av h 24)=av/\(∀c,c<=64->gT (fI av c 64)=av)/\gT (fI av s 4)=av/\gT (fI av v 4)=av/\gT (fI av (v*(8 -s)) 32)=av/\gT (fI av s<|8 -s)=av/\gT (fI av (v*s)<|32 -v*(8 -s))=av:=by have y:=Z0;simp only[bY,bG,ew]at y;obtain⟨⟨⟨⟨k,i⟩,e⟩,a⟩,g⟩:=y;have l:=R.FT;have b:=g s (bl.mpr (by have:=R.s4;exact b4 o z)) v (bl.mpr (by have:=R.v4;exact b4 o z));exact⟨k h<|bl.mpr R.h,λc ax=>i c<|bl.mpr<|b4 o z,e s (bl.mpr (by have:=R.s4;exact b4 o z)),e v (bl.mpr (by have:=R.v4;exact b4 o z)),a _<|bl.mpr<|hC<|ao R.FT.1 z,b.1,b.2⟩
def Y2:az (bc 7) pO [] (kN h s v k) (hk 0) (.next<|od h s v k):=by
 have i:((aI .Sub (J 8)<|J s).bind λp=>aI .Mult (J v) p)=I (J<|v*(8 -s)):=by have:=R.s4;have:=R.v4;rw[jw<|ao o z,a3,mX (b4 o z)<|b4 (fz 8 s) z]
 exact az.name "light" (J<|v*(8 -s)) z z z z<|aj.leaf 9 (λt q=>z) i
def Y3:az (bc 7) pO [] (od h s v k) (hk 1) (.next<|Gq h s v k):=by
 obtain⟨di,dq,j,w,c,d,g⟩:=R.inf;have l:=R.FT;have n:=R.s4;refine az.name "strength" (.float<|i7 s v) z z z z<|aj.ite (k:=decide (v*(8 -s)<=16)) z (bO.leaf 9 (x:=fC .LtE (J<|v*(8 -s))<|J 16) (λt q=>z) ?_) (λy=>?_) λy=>?_;exact congrArg I (decide_eq_decide.mpr (by show((v*(8 -s):Nat):Int)<=((16:Nat):Int)↔_;exact gR));have i:((aI .Sub (J 8)<|J s).bind λp=>aI .Div (J s) p)=I (.float<|i7 s v):=by rw[jw<|ao o z,a3,mP (PE<|b4 n z) d];unfold i7;rw[if_pos<|of_decide_eq_true y]
 exact aj.leaf 9 (λt q=>z) i;have i:((aI .Mult (J v)<|J s).bind λf=>(aI .Sub (J 32)<|J<|v*(8 -s)).bind λp=>aI .Div f p)=I (.float<|i7 s v):=by have:=R.v4;rw[mX (b4 o z)<|b4 o z,a3,jw<|ao l.1 z,a3,mP (PE<|b4 l.1 z) g];unfold i7;rw[if_neg<|of_decide_eq_false y]
 exact aj.leaf 9 (λt q=>z) i
omit R in
theorem KN(h:k<6):jm ((k:Nat):Int)=ah:=bG.mp (show((aH 6).all λk=>jm ((k:Nat):Int))=ah from z) k<|bl.mpr h
def Dg:aq:=cU<|aO<|hk 2
def Dh:aq:=dy<|aO<|hk 2
def Y4(d:l9 h s v k=ah):az (bc 7) pO [] (Gq h s v k) (hk 2) (.next<|Gr h s v k):=by
 obtain⟨di,dq,j,w,c,m,g⟩:=R.inf;refine az.name "lamp" (.tuple<|(qb h s v k).map .float) z z z z<|aj.ite (k:=decide (k%2=1)) z ?_ (λy=>?_) λy=>?_;have i:((aI .Mod (J k)<|J 2).bind uj)=I (decide (k%2=1)):=by rw[j0 _ z,a3];refine congrArg I ?_;have:=afs k;rcases this with h|h<;>rw[h]<;>rfl
 exact bO.leaf 9 (λt q=>z) i;have y:=of_decide_eq_true y;unfold l9 at d;rw[if_pos y]at d;simp only[bY,ew]at d;unfold qb;rw[if_pos y];refine aj.call (ds:=[.float<|zK h k,.float<|o5 s v,.float<|i7 s v]) z z ?_<|XA 4 _ _ _ d.2;rw[show bo (cU<|aO<|hk 2)=[cp Dg,((bo Dg)[1]?).getD bJ,((bo Dg)[2]?).getD bJ]by kernel_rfl];have b:((aI .Div (J h)<|J 24).bind λf=>aI .Sub f<|J k)=I (.float<|zK h k):=by rw[mP z di,a3];show(if jm ((k:Nat):Int)=ah then I (af.float<|dc _<|eA (k:Nat))else ai)=_;rw[KN R.k];rfl
 have l:aI .Div (J<|v*(8 -s)) (J 32)=I (.float<|o5 s v):=mP z c;exact aD.cons z (aj.leaf 9 (λt q=>z) b)<|aD.cons z (aj.leaf 9 (λt q=>z) l)<|aD.cons z (aj.lf 9 (.float<|i7 s v) λt q=>z) aD.nil;have y:=of_decide_eq_false y;unfold l9 at d;rw[if_neg y]at d;simp only[bY,ew]at d;unfold qb;rw[if_neg y];refine aj.call (ds:=[.float<|ts h k,.float<|hx s,.float<|hx v]) z z ?_<|adJ 5 _ _ _ d.1.1.2 d.1.2 d.2;rw[show bo (dy<|aO<|hk 2)=[cp Dh,((bo Dh)[1]?).getD bJ,((bo Dh)[2]?).getD bJ]by kernel_rfl];have b:((aI .Div (J h)<|J 24).bind λf=>aI .Add f<|J k)=I (.float<|ts h k):=by rw[mP z di,a3];show(if jm ((k:Nat):Int)=ah then I (af.float<|dH _<|eA (k:Nat))else ai)=_;rw[KN R.k];rfl
 have l:aI .Div (J s) (J 4)=I (.float<|hx s):=mP z j;have r:aI .Div (J v) (J 4)=I (.float<|hx v):=mP z w;exact aD.cons z (aj.leaf 9 (λt q=>z) b)<|aD.cons z (aj.leaf 9 (λt q=>z) l)<|aD.cons z (aj.leaf 9 (λt q=>z) r) aD.nil
end
section
def oP(j:d2 f p=ah):cW y (.float f) (.float p)=I ah:=by have:pZ (.float f) (.float p)=I ah:=if_pos j;cases y<;>exact this
variable{h s v k:Nat}(R:yF h s v k)
include R
def Y5:az (bc 7) pO [] (Gr h s v k) (hk 3) (.next<|Gs h s v k):=by
 obtain⟨di,dq,j,l,m,A,B⟩:=R.inf;have n:=R.s4;have d:=R.v4;refine az.name "parts" (.list<|(m3 h s v).map .float) z z z z ?_;refine aj.dW [0,8,16] J (λg=>.float<|a7 h s v g) z (ck.lf 12 ([0,8,16].map J) λt q=>z) (λf=>z) (λg w=>?_) (show 3<=1000000 by exact cy _ _);have ag:=bG.mp (bG.mp XM h<|bl.mpr R.h) g w;have ag:=beq_iff_eq.mp ag;have r:=Ba h g;have i:((((aI .Mult (J s)<|.int<|4 -LG h g).bind λb=>aI .Sub (J 16) b).bind λab=>aI .Mult (J v) ab).bind λf=>aI .Div f<|J 64)=I (.float<|a7 h s v g):=by have x:s*(4 -m' h g)<=4*4:=jF n<|fz _ _;have p:v*(16 -s*(4 -m' h g))<=4*16:=jF d<|fz _ _;rw[ag,show(af.int<|4 -((m' h g:Nat):Int))=J (4 -m' h g)from congrArg af.int (uJ r).symm,mX (b4 o z)<|b4 (fz ..) z,a3,jw (by assumption),a3,mX (b4 o z)<|b4 (fz ..) z,a3,mP z<|dq _<|by assumption];rfl
 exact aj.leaf 25 (λt q=>z) i
theorem Y6(b:p8 (a7 h s v 0) (a7 h s v 8) (a7 h s v 16)=ah):az (bc 7) pO [] (Gs h s v k) (hk 4) (.next<|Bb h s v k):=az.name "told" (Og h s v) z z z z (aj.star (a:=.list<|(m3 h s v).map .float) (ds:=(m3 h s v).map .float) z z (aj.lf 9 (.list<|(m3 h s v).map .float) λt q=>z) rfl (show 3<=1000 by exact cy _ _)<|Lr 5 _ _ _ b)
structure lO(h s v k:Nat):Prop where
 a:zA (h%24) s v=true
 l:l9 h s v k=true
 z:d2 (iG<|h%24) (iG<|h%24)=true
 r:kn [.float<|cX (eA 24)<|iG<|h%24]=some (J<|h%24)
omit R in
theorem rP(w:c<=16):a7 h s v c=a7 (h%24) s v c:=by unfold a7;rw[aej w]
theorem lO.bk(d:lO h s v k):p8 (a7 h s v 0) (a7 h s v 8) (a7 h s v 16)=ah/\rx (a7 h s v 0) (a7 h s v 8) (a7 h s v 16)=ah/\fl (a7 h s v 0) (a7 h s v 8) (a7 h s v 16)=iG (h%24)/\d2 (l5 (a7 h s v 0) (a7 h s v 8)<|a7 h s v 16) (hx s)=ah/\d2 (ag (a7 h s v 0) (a7 h s v 8)<|a7 h s v 16).b0 (hx v)=ah/\d2 (k4 (a7 h s v 0) (a7 h s v 8)<|a7 h s v 16) (o5 s v)=ah/\d2 (k5 (a7 h s v 0) (a7 h s v 8)<|a7 h s v 16) (i7 s v)=ah:=by rw[rP (show 0<=16 by decide),rP (show 8<=16 by decide),rP<|show 16<=16 by decide];have:=d.a;unfold zA Mine.bk at this;simp only[bY,beq_iff_eq]at this;obtain⟨⟨⟨⟨⟨⟨aJ,dV⟩,fi⟩,m⟩,e⟩,j⟩,l⟩:=this;exact⟨aJ,dV,fi,m,e,j,l⟩
def Kp:List aq:=pS .Or<|aO<|hk 5
def Di:aq:=(Kp.head?).getD bJ
def oM:aq:=(Kp[1]?).getD bJ
set_option tactic.hygienic true in
theorem lO.abN(d:lO h s v k):∃f j g,qb h s v k=[f,j,g]/\ql f (a7 h s v 0)=ah/\ql j (a7 h s v 8)=ah/\ql g (a7 h s v 16)=ah:=by
 have r:=d.l;have y:Fp (qb h s v k) h s v=ah:=by unfold l9 at r;unfold qb;split;rename_i e;rw[if_pos e]at r;simp only[bY]at r;exact r.1;rename_i e;rw[if_neg e]at r;simp only[bY]at r;exact r.1.1.1
 obtain⟨i,ax,y⟩:=eU y;exact⟨i.1,i.2.1,i.2.2,Z6 ax,(aY (aY y).1).1,(aY (aY y).1).2,(aY y).2⟩
omit R in
theorem Fq(h:ql f c=ah):∃ab,((kn [.float<|cX f mr]).bind λy=>aI .Div y<|.int 1048576)=I (.float ab)/\d2 ab c=ah:=by
 unfold ql at h;simp only[bY,ew]at h;obtain⟨⟨b,l⟩,d⟩:=h;refine⟨v'<|rJ<|cX f mr,?_,d⟩;have i:kn [.float<|cX f mr]=I (.int<|rJ<|cX f mr):=by
  unfold v9 at b;unfold kn rJ;dsimp only;split at b;rename_i i;first|rw[i]|rfl
  cases b
 rw[i,a3];show(if((1048576:Int)!=0&&!gT (v'<|rJ<|cX f mr))=ah then I (af.float<|v'<|rJ<|cX f mr)else ai)=_;rw[l];rfl
def Y7(A:lO h s v k):az (bc 7) pO [] (Bb h s v k) (hk 5) (.next<|Bb h s v k):=by
 obtain⟨aJ,dV,fi,m,B,U,V⟩:=A.bk R;obtain⟨T,i,W,X,P,Q,S⟩:=A.abN R;obtain⟨uC,C,H⟩:=Fq P;obtain⟨f,D,l⟩:=Fq Q;obtain⟨uD,E,K⟩:=Fq S;obtain⟨di,dq,j,O,Z,aa,ab⟩:=R.inf;refine az.skip z (bO.or (bA:=[Di,oM]) z (by simp)<|dZ.n3 ?_<|dZ.n3 ?_ dZ.As);refine bO.cmp (op:=.NotEq) (a:=.list<|[uC,f,uD].map .float) (b:=.list<|(m3 h s v).map .float) z ?_ (aj.lf 9 (.list<|(m3 h s v).map .float) λt q=>z) λt=>?_;refine aj.dW [(T,uC),(i,f),(W,uD)] (λd=>.float d.1) (λd=>.float d.2) z (ck.leaf 9 (x:=I<|(qb h s v k).map .float) (λt q=>z) (by rw[X];rfl)) (λT=>z) (λd ax=>?_) (show 3<=1000000 by exact cy _ _);have ax:((kn [.float<|cX d.1 mr]).bind λy=>aI .Div y<|.int 1048576)=I (.float d.2):=by simp only[c9,lE,or_false]at ax;rcases ax with rfl|rfl|rfl;exact C;exact D;exact E
 rw[mz]at ax;obtain⟨y,M,ax⟩:=ax;refine aj.bin (op:=.Div) (a:=y) (b:=.int 1048576) z ?_ (aj.leaf 9 (x:=aI .Pow (J 2)<|J 20) (λt q=>z) z) λt=>ax;refine aj.call (ds:=[.float<|cX d.1 mr]) z z ?_<|hl (k:=7) (g:=kn) z M;rw[(z:bo (cU<|b8<|cU Di)=[cp<|cU<|b8<|cU Di])];have G:((aI .Pow (J 2)<|J 20).bind λi=>aI .Mult (.float d.1) i)=I (.float<|cX d.1 mr):=by rw[show aI .Pow (J 2) (J 20)=I (J 1048576)by kernel_rfl,a3];show(if jm ((1048576:Nat):Int)=ah then I (af.float<|cX d.1<|eA ((1048576:Nat):Int))else ai)=_;rw[(z:jm ((1048576:Nat):Int)=ah)];rfl
 exact aD.cons z (aj.leaf 9 (λt q=>z) G) aD.nil;have bU:cW 9 (.list<|[uC,f,uD].map .float) (.list<|(m3 h s v).map .float)=I ah:=by show(cW 8 (.float uC)<|.float<|a7 h s v 0).bind (λk=>((cW 8 (.float f)<|.float<|a7 h s v 8).bind λk=>((cW 8 (.float uD)<|.float<|a7 h s v 16).bind λk=>(I ah).map λw=>k&&w).map λw=>k&&w).map λw=>k&&w)=_;rw[oP H,oP l,oP K];rfl
 show(cW 9 _ _).map (!·)=_;rw[bU];rfl;have Y:h%24<24:=f_ _ z;refine bO.cmp (op:=.NotEq) (a:=.tuple [J<|h%24,.float<|l5 (a7 h s v 0) (a7 h s v 8)<|a7 h s v 16,.float (ag (a7 h s v 0) (a7 h s v 8)<|a7 h s v 16).b0]) (b:=.tuple [J<|h%24,.float<|hx s,.float<|hx v]) z ?_ ?_ λt=>?_;refine aj.bin (op:=.Add) (a:=.tuple [J<|h%24]) (b:=.tuple [.float<|l5 (a7 h s v 0) (a7 h s v 8)<|a7 h s v 16,.float (ag (a7 h s v 0) (a7 h s v 8)<|a7 h s v 16).b0]) z (aj.tuple z (ds:=[J<|h%24]) ?_<|show 1<=1000000 by exact cy _ _) (aj.lf 12 (.tuple [.float<|l5 (a7 h s v 0) (a7 h s v 8)<|a7 h s v 16,.float (ag (a7 h s v 0) (a7 h s v 8)<|a7 h s v 16).b0]) λt q=>z) λt=>rfl;rw[(z:cZ (cU<|cU oM)=[((cZ<|cU<|cU oM).head?).getD bJ])];refine aD.cons z (aj.call (ds:=[.float<|cX (eA 24)<|fl (a7 h s v 0) (a7 h s v 8)<|a7 h s v 16]) z z ?_<|hl (k:=7) (g:=kn) z (by rw[fi];exact A.r)) aD.nil;rw[(z:bo (((cZ<|cU<|cU oM).head?).getD bJ)=[cp<|((cZ<|cU<|cU oM).head?).getD bJ])];exact aD.cons z (aj.lf 12 (.float<|cX (eA 24)<|fl (a7 h s v 0) (a7 h s v 8)<|a7 h s v 16) λt q=>z) aD.nil;refine aj.tuple z (ds:=[J<|h%24,.float<|hx s,.float<|hx v]) ?_ (show 3<=1000000 by exact cy _ _);rw[show cZ (dy oM)=[((cZ<|dy oM).head?).getD bJ,((cZ<|dy oM)[1]?).getD bJ,((cZ<|dy oM)[2]?).getD bJ]by kernel_rfl];exact aD.cons z (aj.leaf 9 (x:=aI .Mod (J h)<|J 24) (λt q=>z)<|j0 _ z)<|aD.cons z (aj.leaf 9 (x:=aI .Div (J s)<|J 4) (λt q=>z)<|mP z j)<|aD.cons z (aj.leaf 9 (x:=aI .Div (J v)<|J 4) (λt q=>z)<|mP z O) aD.nil;have bU:cW 9 (.tuple [J<|h%24,.float<|l5 (a7 h s v 0) (a7 h s v 8)<|a7 h s v 16,.float (ag (a7 h s v 0) (a7 h s v 8)<|a7 h s v 16).b0]) (.tuple [J<|h%24,.float<|hx s,.float<|hx v])=I ah:=by show(cW 8 (J<|h%24)<|J<|h%24).bind (λk=>((cW 8 (.float _)<|.float<|hx s).bind λk=>((cW 8 (.float _)<|.float<|hx v).bind λk=>(I ah).map λw=>k&&w).map λw=>k&&w).map λw=>k&&w)=_;rw[oQ,oP m,oP B,beq_self_eq_true];rfl
 show(cW 9 _ _).map (!·)=_;rw[bU];rfl
def Fi:aq:=aO<|hk 6
def Y8(d:lO h s v k):az (bc 7) pO [] (Bb h s v k) (hk 6) (.ret<|fF (a7 h s v 0,a7 h s v 8,a7 h s v 16,iG<|h%24)):=by
 obtain⟨aJ,dV,fi,m,e,j,l⟩:=d.bk R;obtain⟨di,dq,n,p,c,y,g⟩:=R.inf;have i:d2 (fl (a7 h s v 0) (a7 h s v 8)<|a7 h s v 16) (fl (a7 h s v 0) (a7 h s v 8)<|a7 h s v 16)=ah:=by rw[fi];exact d.z
 refine az.ret z (aj.ite (k:=ah) z (bO.cmp (op:=.Eq) (a:=.tuple [.float<|fl (a7 h s v 0) (a7 h s v 8)<|a7 h s v 16,.float<|k4 (a7 h s v 0) (a7 h s v 8)<|a7 h s v 16,.float<|k5 (a7 h s v 0) (a7 h s v 8)<|a7 h s v 16]) (b:=.tuple [.float<|fl (a7 h s v 0) (a7 h s v 8)<|a7 h s v 16,.float<|o5 s v,.float<|i7 s v]) z ?_ ?_ λt=>?_) (λZ=>?_) λq=>by cases q);exact aj.star (a:=.list<|(m3 h s v).map .float) (ds:=(m3 h s v).map .float) z z (aj.lf 9 (.list<|(m3 h s v).map .float) λt f=>z) rfl (show 3<=1000 by exact cy _ _)<|Ln 5 _ _ _ dV;refine aj.tuple z (ds:=[.float<|fl (a7 h s v 0) (a7 h s v 8)<|a7 h s v 16,.float<|o5 s v,.float<|i7 s v]) ?_ (show 3<=1000000 by exact cy _ _);rw[show cZ (dy<|s9<|aO<|hk 6)=[((cZ<|dy<|s9 Fi).head?).getD bJ,((cZ<|dy<|s9 Fi)[1]?).getD bJ,((cZ<|dy<|s9 Fi)[2]?).getD bJ]by kernel_rfl];exact aD.cons z (aj.lf 9 (.float<|fl (a7 h s v 0) (a7 h s v 8)<|a7 h s v 16) λt f=>z)<|aD.cons z (aj.leaf 9 (x:=aI .Div (J<|v*(8 -s))<|J 32) (λt f=>z)<|mP z c)<|aD.cons z (aj.lf 9 (.float<|i7 s v) λt f=>z) aD.nil;show cW 9 (.tuple [.float _,.float _,.float _]) (.tuple [.float _,.float _,.float _])=_;show(cW 8 (.float _)<|.float _).bind (λk=>((cW 8 (.float _)<|.float<|o5 s v).bind λk=>((cW 8 (.float _)<|.float<|i7 s v).bind λk=>(I ah).map λw=>k&&w).map λw=>k&&w).map λw=>k&&w)=_;rw[oP i,oP j,oP l];rfl;rw[<-fi];exact aj.lf 12 (fF (a7 h s v 0,a7 h s v 8,a7 h s v 16,fl (a7 h s v 0) (a7 h s v 8)<|a7 h s v 16)) λt f=>z
def L6(d:lO h s v k):bR λt Z=>(bc 8 t).call "_law_lamp" [J h,J s,J v,J k]=I (fF (a7 h s v 0,a7 h s v 8,a7 h s v 16,iG<|h%24)):=by refine nA (k:=7) (G:=gf mq []) z z z z ?_;show aE (bc 7) pO [] (c4 (bH mq) [J h,J s,J v,J k]) (bp mq) _;rw[show c4 (bH mq) [J h,J s,J v,J k]=kN h s v k by kernel_rfl,(z:bp mq=[hk 0,hk 1,hk 2,hk 3,hk 4,hk 5,hk 6])];exact aE.cons (Y2 R)<|aE.cons (Y3 R)<|aE.cons (Y4 R d.l)<|aE.cons (Y5 R)<|aE.cons (Y6 R (d.bk R).1)<|aE.cons (Y7 R d)<|aE.ret<|Y8 R d
end
section
def e3(j l t:Nat):h7:=(a7 j l t 0,a7 j l t 8,a7 j l t 16,iG<|j%24)
noncomputable def CQ(d:h7)(g:Nat):b5:=if g=0 then d.1 else if g=1 then d.2.1 else d.2.2.1
def et(f p:h7)(g:Nat):b5:=iO (dH (CQ f g)<|CQ p g) hp
def kz(f p:h7):List b5:=[et f p 0,et f p 1,et f p 2]
def k6(f p:h7):b5:=fl (et f p 0) (et f p 1)<|et f p 2
noncomputable def AD:List (List Nat):=[[0,4,20],[4,8,12],[20,12,16]]
structure nF(a b:h7)(t:Nat):Prop where
 wh:p8 (et a b 0) (et a b 1) (et a b 2)=true
 DL:rx (et a b 0) (et a b 1) (et a b 2)=true
 z:d2 (k6 a b) (k6 a b)=true
 r:kn [.float<|cX (eA 24)<|k6 a b]=some (J t)
structure qY:Prop where
 Mg:∀h s v k,h<24->1<=s->s<=4->1<=v->v<=4->k<6->lO h s v k
 li:∀h s v j,h<24->1<=s->s<=4->1<=v->v<=4->j<3->lO (h+8*j) s v (j+1)
 mo:∀g h,g<24->h<24->jn (iG g) (iG h)=decide (g<h)
 b0:∀h s v j k,h<24->1<=s->s<=4->1<=v->v<=4->j<3->k<3->nF (e3 (h+8*j) s v) (e3 (h+8*k) s v) ((h+(AD.getD j []).getD k 0)%24)
noncomputable def d7(t:c6):Nat:=1+t.kX%4
noncomputable def lz(t:c6):Nat:=1+t.kX/4%4
noncomputable def h0(v:c6):Nat:=v.iE.getD 0 0
noncomputable def gk(t:c6):List h7:=[t.gj,t.iH,t.D1]
structure q4(v:c6):Prop extends jI v where
 wb:qY
 iE:∀h∈v.iE,h<24
 tu:v.iE.length=v.n
 eb:v.eb=(aH v.n).map λk=>e3 (v.iE.getD k 0) (d7 v)<|lz v
 ls:gk v=(aH 3).map λj=>e3 (h0 v+8*j) (d7 v)<|lz v
 b0:v.b0=.list ((gk v).map λa=>.list<|(gk v).map λb=>.list<|(kz a b).map .float)
 to:v.to=(gk v).map λa=>(gk v).map λb=>k6 a b
variable{v:c6}(H:q4 v)
include H
theorem q4.d4{k:Nat}(d4:k<v.n):v.iE.getD k 0<24:=by
 have d4:k<v.iE.length:=by rw[H.tu];exact d4
 rw[j_,hb d4];exact H.iE _<|kP d4
theorem q4.h0:h0 v<24:=H.d4 (by have:=H.mb;exact ao (cy _ _) o)
omit H in
theorem AM(v:c6):1<=d7 v/\d7 v<=4/\1<=lz v/\lz v<=4:=⟨cv 1 _,hB (ni<|f_ _ z) 1,cv 1 _,hB (ni<|f_ _ z) 1⟩
omit H in
theorem NL(v:c6):((aI .Mod (J v.kX)<|J 4).bind λp=>aI .Add (J 1) p)=I (J<|d7 v):=by rw[j0 _ z,a3,hj];rfl
omit H in
theorem OB(v:c6):(((aI .FloorDiv (J v.kX)<|J 4).bind λf=>aI .Mod f<|J 4).bind λp=>aI .Add (J 1) p)=I (J<|lz v):=by rw[mQ _ z z,a3,j0 _ z,a3,hj];rfl
def y3(c:Nat):aq:=((bo<|b8<|aO<|aT 9)[c]?).getD bJ
def y2(c:Nat):aq:=((bo<|b8<|aO<|aT 10)[c]?).getD bJ
def RJ:az (bc 8) cR [] (w8 v) (aT 9) (.next<|FH v):=by have d:=H.da;obtain⟨h,g,e,c⟩:=AM v;refine az.name "lamps" (.list<|v.eb.map fF) z z z z ?_;rw[H.eb,dG];refine aj.dW (aH v.n) J _ z (ck.leaf 9 (x:=(I [J v.n]).bind eo) (λt q=>(by kernel_rfl))<|n7<|ao o z) (λb=>z) (λk y=>?_) (by simp;exact ao o z);have y:=bl.mp y;have f:=H.d4 y;refine aj.call (ds:=[J<|v.iE.getD k 0,J<|d7 v,J<|lz v,J k]) z z ?_ (L6 ⟨by exact cq o z,h,g,e,c,by exact cq o o⟩<|H.wb.Mg _ _ _ k f h g e c<|cq o o);rw[(z:bo (b8<|aO<|aT 9)=[y3 0,y3 1,y3 2,y3 3])];exact aD.cons z (aj.leaf 12 (x:=c7 (.list<|v.iE.map J)<|J k) (λt q=>z)<|jY (by rw[H.tu];exact y) (by rw[H.tu];exact ao o z))<|aD.cons z (aj.leaf 12 (λt q=>z)<|NL v)<|aD.cons z (aj.leaf 12 (λt q=>z)<|OB v)<|aD.cons z (aj.lf 12 (J k) λt q=>z) aD.nil
def q4.cD:c7 (.list<|v.iE.map J) (J 0)=I (J<|Mine.h0 v):=jY (by rw[H.tu];have:=H.mb;exact ao (cy _ _) o) (by rw[H.tu];have:=H.da;exact ao o z)
def Q2:az (bc 8) cR [] (FH v) (aT 10) (.next<|w7 v):=by
 have d:=H.da;have i:=H.h0;obtain⟨h,g,e,c⟩:=AM v;refine az.name "lights" (.list<|(gk v).map fF) z z z z ?_;rw[H.ls,dG];refine aj.dW (aH 3) J _ z (ck.leaf 9 (x:=(I [J 3]).bind eo) (λt q=>z)<|n7<|cy _ _) (λf=>z) (λk y=>?_) (by simp);have y:=bl.mp y;refine aj.call (ds:=[J<|Mine.h0 v+8*k,J<|d7 v,J<|lz v,J<|k+1]) z z ?_ (L6 ⟨cq (afb i<|iN 8<|ni ‹k<3›) z,h,g,e,c,cq (Nat.succ_lt_succ ‹k<3›) z⟩<|H.wb.li _ _ _ k i h g e c<|by assumption);rw[(z:bo (b8<|aO<|aT 10)=[y2 0,y2 1,y2 2,y2 3])];have aC:((c7 (.list<|v.iE.map J)<|J 0).bind λf=>(aI .Mult (J 8)<|J k).bind λp=>aI .Add f p)=I (J<|Mine.h0 v+8*k):=by rw[H.cD,a3,mX z<|cq o z,a3,hj]
 exact aD.cons z (aj.leaf 12 (λt q=>z) aC)<|aD.cons z (aj.leaf 12 (λt q=>z)<|NL v)<|aD.cons z (aj.leaf 12 (λt q=>z)<|OB v)<|aD.cons z (aj.leaf 12 (x:=aI .Add (J k)<|J 1) (λt q=>z)<|hj _ _) aD.nil
omit H in
theorem MG:∀d:List h7,hn (.list []) (d.map fF)=I 0
 |[]=>rfl
 |a::d=>by
  show(cW 8 (fF a)<|.list []).bind (λk=>(hn (.list [])<|d.map fF).map λy=>if k then y+1 else y)=_
  rw[MG d]
  rfl
def Q3:az (bc 8) cR [] (w7 v) (aT 11) (.next<|w7 v):=by
 have d:=H.da;have r:v.eb.length=v.n:=by rw[H.eb];simp
 have i:((aI .Add (.list<|v.eb.map fF)<|.list<|(gk v).map fF).bind λb=>mG (.list []) b)=I av:=by rw[yM (by simp[gk];exact ao (bQ o)<|ao o z),a3,<-ig];show(hn (.list [])<|(v.eb++gk v).map fF).map (λ(a:Nat)=>a !=0)=_;rw[MG];rfl
 exact az.skip z<|bO.leaf 12 (λt q=>z) i
def Q4:az (bc 8) cR [] (w7 v) (aT 12) (.next<|Fw v):=by
 refine az.name "mixes" v.b0 z z z z ?_;rw[H.b0];refine aj.dW (gk v) fF _ z (ck.lf 9 ((gk v).map fF) λt q=>z) (λf=>z) (λf Z=>?_) (show 3<=1000000 by exact cy _ _);refine aj.dW (gk v) fF _ z (ck.lf 9 ((gk v).map fF) λt q=>z) (λf=>z) (λp Z=>?_) (show 3<=1000000 by exact cy _ _);show aj _ _ _ _ (.list<|[0,1,2].map λg=>.float<|et f p g);refine aj.dW [0,1,2] J _ z (ck.leaf 9 (x:=(I [J 3]).bind eo) (λt q=>z)<|n7<|cy _ _) (λf=>z) (λg w=>?_) (show 3<=1000000 by exact cy _ _);have j:(((c7 (fF f)<|J g).bind λm=>(c7 (fF p)<|J g).bind λd=>aI .Add m d).bind λab=>aI .Div ab<|J 2)=I (.float<|et f p g):=by
  have h:∀i:b5,aI .Div (.float i) (J 2)=I (.float<|iO i hp):=λi=>by show(if(!gT (eA 2)&&!ik (eA 2))=ah then I (af.float<|iO i<|eA 2)else ai)=_;rw[show eA 2=hp by decide+kernel,show(!gT hp&&!ik hp)=ah by decide+kernel];rfl
  simp only[c9,lE,or_false]at w;rcases w with rfl|rfl|rfl<;>exact h _
 exact aj.leaf 12 (λt q=>z) j
def q4.mix{f d:h7}(n:f∈gk v)(q:d∈gk v):∃i,nF f d i:=by rw[H.ls]at n q;obtain⟨w,p,rfl⟩:=ez.mp n;obtain⟨k,y,rfl⟩:=ez.mp q;obtain⟨h,g,e,c⟩:=AM v;exact⟨_,H.wb.b0 _ _ _ w k H.h0 h g e c (bl.mp p)<|bl.mp y⟩
def Q5:az (bc 8) cR [] (Fw v) (aT 13) (.next<|Fx v):=by refine az.name "told" (.list<|v.to.map λw=>.list<|w.map af.float) z z z z ?_;rw[H.to,dG];refine aj.dW (gk v) (λf=>.list<|(gk v).map λp=>.list<|(kz f p).map .float) _ z (ck.leaf 9 (x:=(I v.b0).bind<|q0 (cb<|aO<|aT 13).target) (λc q=>z) (by rw[H.b0];rfl)) (λf=>z) (λf n=>?_) (show 3<=1000000 by exact cy _ _);show aj _ _ _ _ (.list<|((gk v).map λp=>k6 f p).map af.float);rw[dG];refine aj.dW (gk v) (λp=>.list<|(kz f p).map .float) _ z (ck.lf 9 ((gk v).map λp=>.list<|(kz f p).map .float) λc q=>z) (λf=>z) (λp d=>?_) (show 3<=1000000 by exact cy _ _);obtain⟨k,e⟩:=H.mix n d;exact aj.sub (a:=.tuple [.float<|k6 f p,.float<|l5 (et f p 0) (et f p 1)<|et f p 2,.float (ag (et f p 0) (et f p 1)<|et f p 2).b0]) (b:=J 0) z (aj.star (a:=.list<|(kz f p).map .float) (ds:=(kz f p).map .float) z z (aj.lf 9 (.list<|(kz f p).map .float) λc q=>z) rfl (show 3<=1000 by exact cy _ _)<|Lr 6 _ _ _ e.wh) (aj.lf 9 (J 0) λc q=>z) λc=>rfl
def Ov(c w k d:Nat):Option af:=(((aI .Sub (J d)<|J c).bind λf=>(aI .Mult (J 8)<|J w).bind λp=>aI .Sub f p).bind λf=>aI .Mod f<|J 24)
omit H in
theorem adB:((aH 24).all λa=>(aH 3).all λw=>(aH 3).all λk=>h' (Ov a w k<|(a+(AD.getD w []).getD k 0)%24)<|J<|(i9.getD w []).getD k 0)=ah:=by decide+kernel
omit H in
theorem adA:(i9.map λa=>af.list<|a.map J)=(aH 3).map λw=>.list ((aH 3).map λk=>J<|(i9.getD w []).getD k 0):=rfl
omit H in
theorem ZM(m:b5):aI .Mult (J 24) (.float m)=I (.float<|cX (eA 24) m):=by show(if jm ((24:Nat):Int)=ah then I (af.float<|cX (eA ((24:Nat):Int)) m)else ai)=_;rw[(z:jm ((24:Nat):Int)=ah)];rfl
omit H in
theorem adq(e:Nat->h7)(c:w<3)(y:k<3):(((c7 (.list<|((aH 3).map e).map λf=>af.list<|(((aH 3).map e).map λp=>k6 f p).map af.float)<|J w).bind λf=>c7 f<|J k).bind λp=>aI .Mult (J 24) p)=I (.float<|cX (eA 24)<|k6 (e w)<|e k):=by rw[DX (by simpa using c)<|d_<|cq o z,a3];simp only[Br,Bs];rw[DX (by simpa using y)<|d_<|cq o z,a3];simp only[Br,Bs];exact ZM _
def adS:aq:=b8<|b8<|aO<|aT 14
def Q6:az (bc 8) cR [] (Fx v) (aT 14) (.next<|Fy v):=by
 obtain⟨B,C,D,E⟩:=AM v;refine az.name "turns" (.list<|i9.map λd=>.list<|d.map J) z z z z ?_;rw[adA];refine aj.dW (aH 3) J _ z (ck.leaf 9 (x:=(I [J 3]).bind eo) (λt q=>z)<|n7<|cy _ _) (λf=>z) (λc s=>?_) (by simp);refine aj.dW (aH 3) J _ z (ck.leaf 9 (x:=(I [J 3]).bind eo) (λt q=>z)<|n7<|cy _ _) (λf=>z) (λk A=>?_) (by simp);have e:=bl.mp s;have h:=bl.mp A;have G:=H.wb.b0 _ _ _ c k H.h0 B C D E e h;have l:=ia<|bG.mp (bG.mp (bG.mp adB _<|bl.mpr H.h0) c s) k A;unfold Ov at l;rw[mz]at l;obtain⟨K,aC,aM⟩:=l;rw[mz]at aC;obtain⟨ab,aC,bU⟩:=aC;rw[mz]at bU;obtain⟨n,bU,jk⟩:=bU;refine aj.bin (op:=.Mod) (a:=K) (b:=J 24) z (aj.bin (op:=.Sub) (a:=ab) (b:=n) z (aj.bin (op:=.Sub) (a:=J<|(Mine.h0 v+(AD.getD c []).getD k 0)%24) (b:=J<|Mine.h0 v) z ?_ (aj.leaf 9 (x:=c7 (.list<|v.iE.map J)<|J 0) (λt q=>z) H.cD) λt=>aC) (aj.leaf 9 (λt q=>z) bU) λt=>jk) (aj.lf 9 (J 24) λt q=>z) λt=>aM;refine aj.call z z ?_<|hl (k:=8) (g:=kn) z G.r;rw[(z:bo (cU<|cU<|cU<|b8<|b8<|aO<|aT 14)=[cp<|cU<|cU<|cU adS])];have i:(((c7 (.list<|v.to.map λd=>.list<|d.map af.float)<|J c).bind λf=>c7 f<|J k).bind λp=>aI .Mult (J 24) p)=I (.float<|cX (eA 24)<|k6 (e3 (Mine.h0 v+8*c) (d7 v)<|lz v)<|e3 (Mine.h0 v+8*k) (d7 v)<|lz v):=by rw[H.to,H.ls,dG];exact adq (λc=>e3 (Mine.h0 v+8*c) (d7 v)<|lz v) e h
 exact aD.cons z (aj.leaf 12 (λt q=>z) i) aD.nil
end
section
theorem IF:∀d:List af,(∀x∈d,cW a x x=I ah)->h4 (cW a) d d=I ah
 |[]=>@λZ=>rfl
 |x::d=>@λj=>by
  rw[Cw]
  rw[j x dA,a3,IF d λb k=>j b<|dt _ k]
  rfl
def HX(j:∀m∈d,cW y m m=I ah):cW (y+1) (.list d) (.list d)=I ah:=by show(if(d.length==d.length)=ah then h4 (cW y) d d else I av)=_;rw[if_pos (by simp),IF d j]
def NZ(j:∀m∈l,∃e:List Bool,m=.list (e.map .bool)/\e.length<=6)(r:l.length<=12):∃c,lH [.list l]=I (.str c):=by
 refine FQ (B:=3+6*204) (λm ag=>?_) ?_;obtain⟨e,rfl,q⟩:=j m ag;obtain⟨s,a⟩:=Cb 4 202 (e.map .bool) (λd k=>by
  obtain⟨p,Z,rfl⟩:=ez.mp k;exact⟨rfl,cz _⟩)
 rw[bZ]at a;refine⟨?_,ao a<|hB (qJ _ q) 3⟩;obtain⟨p,q⟩:=qL.mp s;show((hP (iv 4)<|e.map .bool).map qO).isSome=ah;rw[q];rfl;exact ao (qJ _ r) z
def Vt:List aq:=pS .Or<|aO<|aT 22
def iX(c:Nat):aq:=(Vt[c]?).getD bJ
variable{v:c6}(K:q4 v)(L:yz v)
include K L
theorem adZ:bO (bc 8) cR (md v).plus (iX 0) av:=bO.leaf 20 (x:=fC .NotEq (.list<|i9.map λw=>.list<|w.map J)<|.list<|i9.map λw=>.list<|w.map J) (λt q=>z) z
theorem ad0:bO (bc 8) cR (md v).plus (iX 1) av:=by refine bO.cmp (op:=.NotEq) (a:=.list<|v.to.map λw=>.list<|w.map af.float) (b:=.list<|v.to.map λw=>.list<|w.map af.float) z (aj.lf 9 (.list<|v.to.map λw=>.list<|w.map af.float) λc d=>z) ?_ λc=>?_;rw[K.to,dG];refine aj.dW (gk v) (λf=>.list<|(gk v).map λp=>.list<|(kz f p).map .float) _ z (ck.leaf 9 (x:=(I v.b0).bind<|q0 (cb<|dy<|iX 1).target) (λc d=>z) (by rw[K.b0];rfl)) (λf=>z) (λf n=>?_) (show 3<=1000000 by exact cy _ _);show aj _ _ _ _ (.list<|((gk v).map λp=>k6 f p).map af.float);rw[dG];refine aj.dW (gk v) (λp=>.list<|(kz f p).map .float) _ z (ck.lf 9 ((gk v).map λp=>.list<|(kz f p).map .float) λc d=>z) (λf=>z) (λp q=>?_) (show 3<=1000000 by exact cy _ _);obtain⟨g,e⟩:=K.mix n q;exact aj.sub (a:=.tuple [.float<|k6 f p,.float<|k4 (et f p 0) (et f p 1)<|et f p 2,.float<|k5 (et f p 0) (et f p 1)<|et f p 2]) (b:=J 0) z (aj.star (a:=.list<|(kz f p).map .float) (ds:=(kz f p).map .float) z z (aj.lf 9 (.list<|(kz f p).map .float) λc d=>z) rfl (show 3<=1000 by exact cy _ _)<|Ln 6 _ _ _ e.DL) (aj.lf 9 (J 0) λc d=>z) λc=>rfl;show(cW 9 _ _).map (!·)=_;rw[HX λh ag=>?_]at⊢;rfl;rw[K.to,dG]at ag;obtain⟨f,n,rfl⟩:=ez.mp ag;refine HX λi k=>?_;obtain⟨ab,l,rfl⟩:=ez.mp k;obtain⟨p,q,rfl⟩:=ez.mp l;obtain⟨g,e⟩:=K.mix n q;exact oP e.z
theorem ad1:bO (bc 8) cR (md v).plus (iX 2) av:=by
 have d:=L.da;have r:=L.nul;obtain⟨e,w⟩:=NZ (l:=v.dz.map λf=>.list<|v.dz.map λp=>.bool<|decide (p<f)) (λm ag=>by
  obtain⟨f,Z,rfl⟩:=ez.mp ag;exact⟨v.dz.map λp=>decide (p<f),by rw[dG];rfl,by rw[bZ];exact ao (bQ o) o⟩) (by rw[bZ];exact ao (bQ o)<|ao o z)
 refine bO.cmp (op:=.NotEq) (a:=.str e) (b:=.str e) z ?_ ?_ λc=>Ai e;refine aj.call (ds:=[wu v.dz]) z z ?_<|hl (k:=8) (g:=lH) z w;rw[(z:bo (cU<|iX 2)=[cp<|cU<|iX 2])];exact aD.cons z (aj.lf 9 (wu v.dz) λc q=>z) aD.nil;refine aj.call (ds:=[wu v.dz]) z z ?_<|hl (k:=8) (g:=lH) z w;rw[(z:bo (dy<|iX 2)=[cp<|dy<|iX 2])];refine aD.cons z (aj.dW v.dz J _ z (ck.lf 9 (v.dz.map J) λc q=>z) (λf=>z) (λf n=>?_)<|ao (bQ o)<|ao o z) aD.nil;exact aj.dW v.dz J _ z (ck.lf 9 (v.dz.map J) λc q=>z) (λf=>z) (λp h=>aj.leaf 9 (x:=(fC .Lt (J p)<|J f).map af.bool) (λc q=>z)<|congrArg (λp=>I<|af.bool p)<|decide_eq_decide.mpr lB)<|ao (bQ o)<|ao o z
noncomputable def pQ(y:Nat):List af:=(dw (2*y) [af.list [.bool av,.bool av]]).flatten
omit K L in
theorem Dv{s:Type}(m:s):∀n,(dw n [m]).flatten=dw n m|0=>rfl|n+1=>by rw[qD,uM,Dv m n];rfl
omit K L in
theorem Sz(y:Nat):(pQ y).length=2*y:=by unfold pQ;rw[Dv,xN]
omit K L in
theorem SA(j:m∈pQ y):m=.list [.bool av,.bool av]:=by unfold pQ at j;rw[Dv]at j;exact O' j
omit K L in
theorem SD(c:List Nat):(c.flatMap λZ=>[0,1].map λZ:Nat=>af.list [.bool av,.bool av])=pQ c.length:=by
 induction c with
 |nil=>rfl
 |cons f d g=>
  rw[px,g];rfl
theorem ad2:bO (bc 8) cR (md v).plus (iX 3) av:=by
 have d:=L.da;have r:=L.nul;have h:=L.ap;rw[SD,r]at h;obtain⟨c,w⟩:=NZ (l:=pQ v.n) (λm ag=>⟨[av,av],SA ag,z⟩) (by rw[Sz];omega);refine bO.cmp (op:=.NotEq) (a:=.str c) (b:=.str c) z ?_ ?_ λf=>Ai c;refine aj.call (ds:=[v.ap]) z z ?_ (hl (k:=8) (g:=lH) z (by rw[h];exact w));rw[(z:bo (cU<|iX 3)=[cp<|cU<|iX 3])];exact aD.cons z (aj.lf 9 v.ap λf q=>z) aD.nil;refine aj.call (ds:=[.list<|pQ v.n]) z z ?_<|hl (k:=8) (g:=lH) z w;rw[(z:bo (dy<|iX 3)=[cp<|dy<|iX 3])];have i:((aI .Mult (J 2)<|J v.n).bind λp=>aI .Mult (.list [.list [.bool av,.bool av]]) p)=I (.list<|pQ v.n):=by rw[mX z<|b4 o z,a3];show(if(decide (((2*v.n:Nat):Int)<=1000)&&decide (-1000<=((2*v.n:Nat):Int))&&bI 1 1000)=ah then I (af.list (dw ((2*v.n:Nat):Int).toNat [af.list [.bool av,.bool av]]).flatten)else ai)=_;rw[if_pos (by simp;omega)];rfl
 exact aD.cons z (aj.leaf 12 (λf q=>z) i) aD.nil
def Rd:az (bc 8) cR [] (md v) (aT 22) (.next<|md v):=az.skip z (bO.or (bA:=[iX 0,iX 1,iX 2,iX 3]) z (by simp)<|dZ.n3 (adZ K L)<|dZ.n3 (ad0 K L)<|dZ.n3 (ad1 K L)<|dZ.n3 (ad2 K L) dZ.As)
end
section
variable(ns:List Int)(c:Nat->Nat)
noncomputable def eY:Nat:=4+c 0%3
def vV:List Nat:=(aH<|eY c).map λk=>c 0/3/13^k%13
def A4:List (Nat×Nat):=(aH<|eY c).map<|yy<|vV c
def jX:List Nat:=jQ (eY c) (aH 24)<|c 2/4096
def qg:List Nat:=jQ (eY c) (aH<|eY c)<|c 3
noncomputable def AL:Nat:=1+c 2%4
noncomputable def A1:Nat:=1+c 2/4%4
def tH(w:Nat):h7:=e3 ((jX c).getD 0 0+8*w) (AL c)<|A1 c
def z6:List h7:=[tH c 0,tH c 1,tH c 2]
noncomputable def zV:Nat:=c 3/720%2
def i8:c6 where
 ns:=ns
 mM:=c 0
 bk:=c 1
 kX:=c 2
 oH:=c 3
 n:=eY c
 bT:=vV c
 ws:=A4 c
 s0:=iR.getD (c 1%16) 0
 f6:=nO (A4 c)<|c 1
 iE:=jX c
 eb:=(aH<|eY c).map λk=>e3 ((jX c).getD k 0) (AL c)<|A1 c
 gj:=tH c 0
 iH:=tH c 1
 D1:=tH c 2
 b0:=.list<|(z6 c).map λf=>.list<|(z6 c).map λp=>.list<|(kz f p).map .float
 to:=(z6 c).map λf=>(z6 c).map λp=>k6 f p
 dz:=qg c
 fr:=.str<|zC<|zV c
 ld:=.list<|(qg c).map<|tD<|zV c
 lj:=(qg c).map<|gP<|zV c
 lo:=.list<|(qg c).map λf=>.list<|[0,1].map<|jZ (zV c) f
 ap:=.list ((qg c).flatMap λ_=>[0,1].map λ_:Nat=>af.list [.bool av,.bool av])
def Aj:4<=eY c/\eY c<=6:=⟨cv ..,hB (ni<|f_ _ z) 4⟩
def zL:jI (i8 ns c)where
 mb:=(Aj c).1
 da:=(Aj c).2
 len:=by show(A4 c).length=eY c;unfold A4;simp
 lt:=λs ax=>by obtain⟨k,Z,rfl⟩:=ez.mp<|show s∈(aH<|eY c).map (yy<|vV c)from ax;exact⟨f_ _ z,f_ _ z⟩
 f6:=rfl
 s0:=rfl
def wi:(jX c).Nodup/\(∀m∈jX c,m∈aH 24)/\(jX c).length=eY c:=C7 _ _ _ Bw (by rw[f9];exact ao (Aj c).2 z)
def wO:(qg c).Nodup/\(∀m∈qg c,m∈aH (eY c))/\(qg c).length=eY c:=C7 _ _ _ Bw (by rw[f9];exact cz _)
def Lm(m:qY):q4 (i8 ns c)where
 tojI:=zL ns c
 wb:=m
 iE:=λj f=>bl.mp<|(wi c).2.1 j f
 tu:=(wi c).2.2
 eb:=rfl
 ls:=rfl
 b0:=rfl
 to:=rfl
def Xx:yz (i8 ns c)where
 tojI:=zL ns c
 nl:=λf n=>cq (bl.mp<|(wO c).2.1 f n) (Aj c).2
 nul:=(wO c).2.2
 fr:=rfl
 ld:=rfl
 lj:=rfl
 lo:=rfl
 ap:=rfl
def zX(f:h7):Nat:=((aH 24).filter λe=>jn (iG e) f.2.2.2).length
def UD:((aH 24).all λj=>((aH 24).filter λe=>decide (e<j)).length==j)=ah:=by decide+kernel
def Yz(m:qY)(f:j<24)(l t:Nat):zX (e3 j l t)=j:=by unfold zX e3;rw[qH f,si λe r=>m.mo e j (bl.mp r) f];exact beq_iff_eq.mp<|bG.mp UD j<|bl.mpr f
def Zr{s:Type}(y:Nat->s)(a k:Nat)(j:k<((aH a).map y).length):((aH a).map y)[k]=y k:=by rw[Br,Bs]
def Xu(m:qY):mI (i8 ns c)where
 tojI:=zL ns c
 eb:=by show((aH<|eY c).map _).length=eY c;simp
 dz:=(wO c).2.2
 dR:=by
  have r:(i8 ns c).eb.length=(i8 ns c).n:=by show((aH<|eY c).map _).length=eY c;simp
  have K:=Lm ns c m;have D:∀k(y:k<(i8 ns c).eb.length),(i8 ns c).eb[k]=e3 ((jX c).getD k 0) (AL c) (A1 c):=λk y=>Zr (λk=>e3 ((jX c).getD k 0) (AL c)<|A1 c) (eY c) k y;have t:∀k(y:k<(i8 ns c).eb.length),zX ((i8 ns c).eb[k])=(jX c).getD k 0:=λk y=>by rw[D k y];exact Yz m (K.d4 (by rw[r]at y;exact y)) _ _
  rw[<-r];refine MZ wz zX (i8 ns c).eb (λf E C q=>?_) λA w x p B=>?_;obtain⟨A,x,rfl⟩:=Pk E;obtain⟨w,p,rfl⟩:=Pk q;rw[t A x,t w p,D A x,D w p];have s:(jX c).getD A 0<24:=K.d4 (by rw[r]at x;exact x);have l:(jX c).getD w 0<24:=K.d4 (by rw[r]at p;exact p);show jn (iG<|(jX c).getD A 0%24) (iG<|(jX c).getD w 0%24)=_;rw[qH s,qH l];exact m.mo _ _ s l;rw[t A x,t w p]at B;have d:A<(jX c).length:=by rw[(wi c).2.2];rw[r]at x;exact x
  have h:w<(jX c).length:=by rw[(wi c).2.2];rw[r]at p;exact p
  rw[j_,j_,hb d,hb h]at B;exact(Pj (wi c).1).mp B
 d9:=by have r:(i8 ns c).dz.length=(i8 ns c).n:=(wO c).2.2;rw[<-r];exact MZ (λC f=>decide (C<f)) id (i8 ns c).dz (λf Z C Z=>rfl) λA w x p B=>(Pj (wO c).1).mp B
def YE(m:qY)(j:ns.length<=63)(f:c 0=21801+jh ns 0)(dO:c 1=108331949894+jh ns 1)(ej:c 2=34252637+jh ns 2)(o9:c 3=734+jh ns 3):aE (bc 8) cR [] (pH<|i8 ns c) (bp hy) (.ret<|.bool ah):=by have y:=zL ns c;have K:=Lm ns c m;have d:=Xx ns c;have l:=Xu ns c m;have da:=y.da;obtain⟨a,b⟩:=Rg y;obtain⟨g,e⟩:=Rw a l;rw[(z:bp hy=(aH 42).map aT)];show aE _ _ _ _ (aT 0::aT 1::aT 2::aT 3::aT 4::aT 5::aT 6::aT 7::aT 8::aT 9::aT 10::aT 11::aT 12::aT 13::aT 14::aT 15::aT 16::aT 17::aT 18::aT 19::aT 20::aT 21::aT 22::aT 23::aT 24::aT 25::aT 26::aT 27::aT 28::aT 29::aT 30::aT 31::aT 32::aT 33::aT 34::aT 35::aT 36::aT 37::aT 38::aT 39::aT 40::aT 41::[]) _;refine aE.cons (Q1 _ j f dO ej o9) (aE.cons (Ra _ rfl)<|aE.cons (Ro _ da rfl)<|aE.cons (RB _ da (by show(vV c).length=eY c;unfold vV;simp) rfl) ?_);refine aE.cons (RC y)<|aE.cons (RF y)<|aE.cons (RG y)<|aE.cons (RH y)<|aE.cons (RI y rfl)<|aE.cons (RJ K)<|aE.cons (Q2 K)<|aE.cons (Q3 K)<|aE.cons (Q4 K)<|aE.cons (Q5 K)<|aE.cons (Q6 K)<|aE.cons (Q7 y rfl) ?_;refine aE.cons (Q8 d)<|aE.cons (Q9 d)<|aE.cons (Q_ d)<|aE.cons (Q' d)<|aE.cons (Rb d)<|aE.cons (Rc d)<|aE.cons (Rd K d)<|aE.cons (Rf _)<|aE.cons b ?_;refine aE.cons (Rh a y)<|aE.cons (Ri a y)<|aE.cons (Rj a y)<|aE.cons (Rk a l)<|aE.cons (Rn a l)<|aE.cons (Rp a l)<|aE.cons (Rq a l)<|aE.cons (Rr a l)<|aE.cons (Rt a l)<|aE.cons (Ru a l)<|aE.cons (Rv a)<|aE.cons e ?_;exact aE.cons (Rx g l)<|aE.cons (Ry g l)<|aE.cons (RA g l)<|aE.cons (RD g l)<|aE.ret<|RE g l
def YD(m:qY)(b:ns.length<=63):∃k a,k<=100/\m4 (sW k a) [] (b9 hy) (bH hy) (bp hy) a [.list<|ns.map af.int]=some (.bool ah):=by obtain⟨c,f,dO,ej,o9⟩:∃c:Nat->Nat,c 0=21801+jh ns 0/\c 1=108331949894+jh ns 1/\c 2=34252637+jh ns 2/\c 3=734+jh ns 3:=⟨λw=>match w with|0=>_|1=>_|2=>_|Z=>_,rfl,rfl,rfl,rfl⟩;obtain⟨q,t⟩:=YE ns c m b f dO ej o9;refine⟨8,q,z,?_⟩;unfold m4;rw[if_pos z,(z:c4 (bH hy) [.list<|ns.map af.int]=pH (i8 ns c))];have:=t q q (cz _)<|cz _;show(match a6 (bc 8 q) cR [] q (pH<|i8 ns c) (bp hy)with|some (.ret d)=>some d|some (.next Z)=>some .none|Z=>ai)=_;rw[this]
end
noncomputable def p_:List Nat:=[1,2,3,4]
def oU(f p:Nat)(r:Nat->Nat->Nat->Bool):Bool:=(aH p).all λj=>ng j f||p_.all λl=>p_.all λt=>r j l t
def tQ(f:1<=k)(p:k<=4):k∈p_:=(z:∀k,k<5->1<=k->k∈p_) k (hC p) f
def l1{f p:Nat}{r:Nat->Nat->Nat->Bool}(j:oU f p r=ah){m l t:Nat}(c:f<=m)(e:m<p)(dg:1<=l)(dI:l<=4)(k:1<=t)(d:t<=4):r m l t=ah:=by have:=bG.mp j m<|bl.mpr e;rw[mu]at this;rcases this with q|q;rw[oi]at q;exact absurd q<|qK.mpr c;exact bG.mp (bG.mp q l<|tQ dg dI) t<|tQ k d
def Du(j:Nat):Bool:=d2 (iG j) (iG j)&&h' (kn [.float<|cX (eA 24)<|iG j]) (J j)
def i0(j e l t a:Nat):b5:=iO (dH (a7 j l t a)<|a7 e l t a) hp
def ZR(j e l a k:Nat):Bool:=p8 (i0 j e l a 0) (i0 j e l a 8) (i0 j e l a 16)&&rx (i0 j e l a 0) (i0 j e l a 8) (i0 j e l a 16)&&d2 (fl (i0 j e l a 0) (i0 j e l a 8)<|i0 j e l a 16) (fl (i0 j e l a 0) (i0 j e l a 8)<|i0 j e l a 16)&&h' (kn [.float<|cX (eA 24)<|fl (i0 j e l a 0) (i0 j e l a 8)<|i0 j e l a 16]) (J k)
def jf:oU 0 24 zA=ah:=by decide+kernel
def J0:((aH 24).all Du)=ah:=by decide+kernel
def td:((aH 24).all λj=>(aH 24).all λe=>jn (iG e) (iG j)==decide (e<j))=ah:=by decide+kernel
def UW:oU 0 24 (λj l t=>l9 j l t 0)=ah:=by decide+kernel
def JX:oU 0 24 (λj l t=>l9 j l t 1)=ah:=by decide+kernel
def JY:oU 0 32 (λj l t=>l9 j l t 2)=ah:=by decide+kernel
def JZ:oU 0 40 (λj l t=>l9 j l t 3)=ah:=by decide+kernel
def UX:oU 0 24 (λj l t=>l9 j l t 4)=ah:=by decide+kernel
def UY:oU 0 24 (λj l t=>l9 j l t 5)=ah:=by decide+kernel
def oJ:oU 0 24 (λj l t=>ZR j (j+8) l t<|(j+4)%24)=ah:=by decide+kernel
def QP:(p_.all λl=>p_.all λt=>(aH 5).all λm=>iO (dH (j2 l t m)<|j2 l t m) hp==j2 l t m)=ah:=by decide+kernel
def Un:(p_.all λl=>p_.all λt=>(aH 5).all λm=>(aH 5).all λb=>dH (j2 l t m) (j2 l t b)==dH (j2 l t b) (j2 l t m))=ah:=by decide+kernel
section
variable{h s v:Nat}(dg:1<=s)(dI:s<=4)(v1:1<=v)(v4:v<=4)
include dg dI v1 v4
def Mh(r:l9 h s v k=ah):lO h s v k:=by have x:h%24<24:=f_ _ z;have ab:=bG.mp J0 (h%24)<|bl.mpr x;unfold Du at ab;rw[bY]at ab;exact⟨l1 jf (cO _) x dg dI v1 v4,r,ab.1,ia ab.2⟩
def Y1(f:h<24)(y:k<6):lO h s v k:=Mh dg dI v1 v4 (Zm y (l1 UW (cO _) f dg dI v1 v4) (l1 JX (cO _) f dg dI v1 v4) (l1 JY (cO _) (cq f z) dg dI v1 v4) (l1 JZ (cO _) (cq f z) dg dI v1 v4) (l1 UX (cO _) f dg dI v1 v4) (l1 UY (cO _) f dg dI v1 v4))
def YS(f:h<24)(p:w<3):lO (h+8*w) s v (w+1):=Mh dg dI v1 v4 (rC p (l1 JX (cO _) f dg dI v1 v4) (l1 JY (cO _) (by omega) dg dI v1 v4) (l1 JZ (cO _) (by omega) dg dI v1 v4))
def Sj(ag:m<=4)(k:b<=4):dH (j2 s v m) (j2 s v b)=dH (j2 s v b) (j2 s v m):=beq_iff_eq.mp (bG.mp (bG.mp (bG.mp (bG.mp Un s<|tQ dg dI) v<|tQ v1 v4) m<|bl.mpr<|by exact b4 o z) b<|bl.mpr<|by exact b4 o z)
def Xo(ag:m<=4):iO (dH (j2 s v m)<|j2 s v m) hp=j2 s v m:=beq_iff_eq.mp (bG.mp (bG.mp (bG.mp QP s<|tQ dg dI) v<|tQ v1 v4) m<|bl.mpr<|by exact b4 o z)
omit dg dI v1 v4 in
theorem vP(h g:Nat)(w:g<3):CQ (e3 h s v) g=a7 (h%24) s v (8*g):=by match g,w with|0,Z=>exact rP (h:=h) (s:=s) (v:=v) (c:=0) (by exact d_<|cq o z)|1,Z=>exact rP (h:=h) (s:=s) (v:=v) (c:=8) (by exact cy _ _)|2,Z=>exact rP (h:=h) (s:=s) (v:=v) (c:=16) (by exact cy _ _)
omit dg dI v1 v4 in
theorem Mx(cD:et f p 0=e)(aC:et f p 1=l)(aM:et f p 2=c)(h:(p8 e l c&&rx e l c&&d2 (fl e l c) (fl e l c)&&h' (kn [.float<|cX (eA 24)<|fl e l c]) (J k))=ah):nF f p k:=by subst cD aC aM;simp only[bY]at h;exact⟨h.1.1.1,h.1.1.2,h.1.2,ia h.2⟩
def ZE(h:Nat):nF (e3 h s v) (e3 h s v) (h%24):=by
 have x:h%24<24:=f_ _ z;have i:∀g,g<3->et (e3 h s v) (e3 h s v) g=a7 (h%24) s v (8*g):=λg w=>by unfold et;rw[vP h g w];exact Xo dg dI v1 v4<|Ba _ _
 refine Mx (i 0 z) (i 1 z) (i 2 z) ?_;have n:=l1 jf (cO _) x dg dI v1 v4;have ab:=bG.mp J0 (h%24)<|bl.mpr x;unfold Du at ab;unfold zA bk at n;simp only[bY,beq_iff_eq]at n ab;obtain⟨⟨⟨⟨⟨⟨aJ,dV⟩,fi⟩,m⟩,a⟩,j⟩,l⟩:=n;simp only[bY];exact⟨⟨⟨aJ,dV⟩,by rw[fi];exact ab.1⟩,by rw[fi];exact ab.2⟩
def ZF{h b:Nat}(r:(h%24+8)%24=b%24):nF (e3 h s v) (e3 b s v) ((h%24+4)%24):=by
 have x:h%24<24:=f_ _ z;have i:∀a,a<3->et (e3 h s v) (e3 b s v) a=i0 (h%24) (h%24+8) s v (8*a):=λa w=>by unfold et i0;rw[vP h a w,vP b a w,<-r,<-rP (h:=h%24+8) (by omega)]
 exact Mx (i 0 z) (i 1 z) (i 2 z)<|l1 oJ (cO _) x dg dI v1 v4
def ZD{h d k:Nat}(r:nF (e3 h s v) (e3 d s v) k):nF (e3 d s v) (e3 h s v) k:=by
 have i:∀b,b<3->et (e3 d s v) (e3 h s v) b=et (e3 h s v) (e3 d s v) b:=λb f=>by unfold et;rw[vP h b f,vP d b f];unfold a7;rw[Sj dg dI v1 v4 (Ba _ _)<|Ba _ _]
 obtain⟨j,l,w,a⟩:=r;unfold k6 at w a;rw[<-i 0 z,<-i 1 z,<-i 2 z]at j l w a;exact⟨j,l,w,a⟩
omit dg dI v1 v4 in
theorem tR(i:k=g)(r:nF f p k):nF f p g:=i▸r
def ZS(f:h<24)(p:w<3)(y:k<3):nF (e3 (h+8*w) s v) (e3 (h+8*k) s v) ((h+(AD.getD w []).getD k 0)%24):=by have i:=@ZF s v dg dI v1 v4;have a:=afr;have n:=@ZD s v dg dI v1 v4;have m:=@ZE s v dg dI v1 v4;have lM:((h+8*0)%24+4)%24=(h+4)%24:=a _ _ _;have bW:((h+8*1)%24+4)%24=(h+12)%24:=a _ _ _;have cn:((h+8*2)%24+4)%24=(h+20)%24:=a _ _ _;have b:=tR lM<|@i (h+8*0) (h+8*1)<|a _ _ _;have d:=tR bW<|@i (h+8*1) (h+8*2)<|a _ _ _;have g:=tR cn<|@i (h+8*2) (h+8*0)<|(a _ _ _).trans<|Nat.add_mod_right h 24;exact rC p (rC y (tR rfl<|m _) b<|n g) (rC y (n b) (tR rfl<|m _) d)<|rC y g (n d)<|tR rfl<|m _
end
def facts:qY where
 Mg:=λb l t k f dg dI a d y=>Y1 dg dI a d f y
 li:=λb l t w f dg dI a d p=>YS dg dI a d f p
 mo:=λe b r f=>beq_iff_eq.mp<|bG.mp (bG.mp td b<|bl.mpr f) e<|bl.mpr r
 b0:=λb l t w k f dg dI a d p y=>ZS dg dI a d f p y
set_option maxRecDepth 100000 in
set_option maxHeartbeats 0 in
def adO:ahk.wellSaid=ah:=by
 delta OpenLaw.wellSaid;repeat' with_reducible refine Hs ?_ ?_
 any_goals delta OpenRow.wellSaid
 any_goals repeat' with_reducible refine Hs ?_ ?_
 any_goals delta OpenRow.partSaid
 any_goals repeat' with_reducible refine Hs ?_ ?_
 any_goals delta looksOpen
 any_goals repeat' with_reducible refine Hs ?_ ?_
 all_goals decide+kernel
end
end Mine
open PySem PySem.W PySem.Calls PyProof.Rows
set_option maxRecDepth 100000 in
set_option maxHeartbeats 0 in
theorem PySem.Challenge.cw_wb0107_02_holds : PySem.Challenge.rw_wb0107_02.Holds := by
 refine holds_law Mine.adO fun said=>?_
 refine holds_openX (q:=Mine.Ay) (loose:=Mine.z5) (Xt:=fun Z=>true) (XP:=fun Z Z=>True) (Yf:=Mine.vB) (Ya:=Mine.vA) (N:=Mine.yB+600) (d:=⟨"law",Mine.k2 Mine.hy,Mine.bp Mine.hy,Mine.b9 Mine.hy,Mine.C8 Mine.hy⟩) (kwd:=[]) Mine.YJ (fun Z Z=>trivial) (fun Z Z Z Z Z=>trivial) (by kernel_rfl) (by kernel_rfl) (by kernel_rfl) (fun s e=>recFacts_nil rfl) (by rfl) (by assumption) (by decide +kernel) ⟨rfl,rfl,rfl,rfl,rfl,by decide +kernel⟩ ?hw ?hc
 ·w_witness2
 ·intro w s₀ s₁ mg mb G Y a o pm cd doc dV kV ho hd hcd hD hmg hg args vals as L hpre hlay hrd hwl hlo
  have hma:mg "law"=some (.ref a):=hmg
  have hns:s₁.heap.Ns mainGlobals mg:=G.T.g
  clear hd hcd hD ho hmg G
  wrow_args hpre hlay hrd hwl hlo
  rename_i ns _ _ _ _ _ _ _ la vs _ hIs _ _ _ hI _ h63 _
  obtain⟨k,F,hk,hl⟩:=Mine.YD ns Mine.facts (by omega)
  exact Mine.walk2 Y hns hma L hIs hI hg hk (fun Z=>rfl) (by first | kernel_rfl | wrow_post) hl
