import PyProof.Rows.All
import Wide.All
import OpenK.AllK
import Wide.FinOn
import Lean
import PySem.Challenge.RW_wb0107_01
set_option maxRecDepth 100000
set_option Elab.async false
set_option linter.all false
namespace Mine
open And renaming intro->F3,left->i8
open Array renaming all_eq_true_iff_forall_mem->afm,any_toList->afn,append_assoc->AS,ext_getElem?->afo,getD->afp,mem_toList_iff->F4,toList_append->Ol
open Bool renaming and_eq_true->c0,eq_iff_iff->ui,false->au,false_eq_true->g7,false_ne_true->h8,noConfusion->afq,not_eq_true->jX,not_eq_true'->ez,not_false->F5,not_true->xn,or_eq_true->mj,or_eq_true_iff->afr,or_true->afs,true->ab,true_and->aft
open Classical renaming byContradiction->afu,propDecidable->afv
open Eq renaming symm->F6
open Exists renaming imp->afw
open ForIn renaming forIn->iF
open ForInStep renaming yield->hJ
open Inhabited renaming default->h9
open Int renaming add_comm->AU,add_le_add->F7,add_le_add_left->Om,add_neg_cancel_right->afx,add_nonneg->Oo,add_sub_add_left->afy,add_sub_cancel->afz,ediv_nonneg->afA,emod_lt_of_pos->Oq,emod_nonneg->F8,eq_ofNat_of_zero_le->afB,fdiv_eq_ediv_of_nonneg->Ot,fmod_eq_emod_of_nonneg->Ou,le_antisymm->afC,le_of_lt->hK,le_sub_one_of_lt->afD,le_total->afE,le_trans->jY,lt_of_le_of_lt->n4,lt_trans->uj,max_eq_left->Ov,max_eq_right->xo,min_eq_left->Ow,min_eq_right->xp,natAbs_natCast->AV,natCast_add->F9,natCast_ediv->Ox,natCast_nonneg->iG,not_le->F_,not_lt->g8,ofNat->Oy,ofNat_le->hv,ofNat_lt->rZ,ofNat_sub->AW,sub_pos_of_lt->Oz,toNat_le->OA,toNat_le_toNat->OB,toNat_lt->Ga,toNat_natCast->n5,toNat_of_nonneg->qA
open Int.ofNat renaming inj->F'
open LawfulBEq renaming eq_of_beq->bL
open LawfulMonad renaming bind_assoc->r0,pure_bind->uk
open List renaming all_append->afG,all_cons->afH,all_eq_true->bZ,any_cons->afI,append_assoc->i9,append_nil->pl,cons_append->um,contains_eq_mem->hL,contains_iff_mem->iH,countP_cons->afJ,count_pos_iff->afK,drop_drop->OC,drop_eq_getElem_cons->OD,drop_length->OE,drop_zero->AX,eq_of_mem_replicate->afL,ext_getElem?->OF,filterMap_cons->Gb,filter_append->afM,filter_cons->kG,filter_eq_nil_iff->OG,filter_nil->OH,find?_cons->afN,flatMap->afO,flatMap_append->afP,flatMap_cons->xq,flatMap_map->afQ,flatten_cons->AY,foldl->afR,foldl_cons->xr,forIn_cons->m3,forIn_nil->OI,getD_eq_getElem?_getD->AZ,getElem?_eq_getElem->n6,getElem?_eq_none->A0,getElem?_eq_some_iff->m4,getElem?_map->m5,getElem?_mapIdx->A1,getElem?_range->afS,getElem?_toArray->m6,getElem_map->Gd,getElem_mem->xt,isEmpty_iff->pn,length_append->hx,length_cons->gx,length_drop->OJ,length_eq_zero_iff->OK,length_filterMap_le->OL,length_filter_le->OM,length_map->eT,length_nil->Ge,length_range->Gf,length_range'->Gg,length_replicate->Gh,length_reverse->ON,length_singleton->afT,length_take->afU,length_take_le->xu,lookup_append->uo,lookup_cons->ep,lookup_cons_self->afV,map->OO,map_append->kH,map_congr_left->afW,map_cons->e4,map_fst_zip->uq,map_map->m7,mem_append->ml,mem_append_left->n7,mem_append_right->n8,mem_cons->cJ,mem_cons_of_mem->eA,mem_cons_self->eB,mem_filter->lk,mem_filterMap->afX,mem_flatMap->r1,mem_map->hM,mem_map_of_mem->mm,mem_of_getElem?->A2,mem_of_mem_drop->OP,mem_of_mem_take->afY,mem_range->ee,mem_range'_1->OQ,mem_reverse->OR,mem_singleton->cm,mem_toArray->Gi,nil_append->Gj,nodup_append->xv,nodup_nil->Gk,not_mem_nil->mn,pairwise_cons->OS,push_toArray->afZ,range->bO,range'->ju,range_eq_range'->af0,range_succ_eq_map->af1,replicate->fb,replicate_succ->xw,reverse_cons->A3,size_toArray->Gl,sum_cons->OT,take_append_drop->OU,take_of_length_le->af2,zip_cons_cons->OV
open List.Pairwise renaming cons->ah2,nil->afF
open Max renaming max->c1
open Min renaming min->c_
open MonadExcept renaming tryCatch->r2
open Nat renaming add_assoc->hy,add_comm->fU,add_le_add->ll,add_le_add_left->gy,add_le_add_right->jv,add_lt_add_left->OW,add_mod->OX,add_mul->Gm,add_pos_left->af3,add_right_comm->ef,add_sub_add_left->af4,add_sub_add_right->af5,add_sub_cancel'->r3,add_sub_cancel_left->OY,add_zero->af6,beq->pq,ble->bG,ble_eq->h_,ble_eq_true_of_le->kI,blt->qB,blt_eq->qC,compare_eq_eq->A4,compare_eq_gt->A5,compare_eq_lt->A6,div_eq_of_lt->af7,div_le_self->OZ,eq_of_beq_eq_true->O0,eq_of_testBit_eq->af8,le_add_left->dU,le_add_right->b_,le_antisymm->ur,le_max_left->xx,le_max_right->A7,le_of_ble_eq_true->m8,le_of_eq->cL,le_of_lt->c2,le_of_lt_succ->m9,le_of_mul_le_mul_right->af9,le_of_not_lt->Gn,le_of_sub_eq_zero->af_,le_of_succ_le->A8,le_refl->bM,le_succ->lp,le_total->Gp,le_trans->aC,le_zero->Gq,log2_lt->Gr,lt_add_of_pos_right->qD,lt_irrefl->jZ,lt_of_le_of_lt->cH,lt_of_le_of_ne->xy,lt_of_lt_of_eq->af',lt_of_lt_of_le->du,lt_of_sub_pos->O1,lt_of_succ_lt->O2,lt_of_succ_lt_succ->aga,lt_succ_of_le->jw,lt_succ_of_lt->uu,lt_succ_self->e5,lt_trans->r4,lt_trichotomy->A9,max_eq_left->Gs,max_eq_right->uv,max_le->A_,min_eq_left->uw,min_eq_right->qE,min_le_left->O3,min_le_right->O4,min_self->agb,mod_lt->h',mod_two_eq_zero_or_one->agc,mul_add->xA,mul_assoc->qF,mul_comm->qG,mul_le_mul->xB,mul_le_mul_left->kJ,mul_le_mul_right->xC,mul_lt_mul_of_pos_left->O5,mul_one->agd,mul_succ->Gu,mul_zero->age,ne_of_gt->i_,ne_of_lt->fs,not_le->m_,not_lt->fD,not_succ_le_self->O6,not_succ_le_zero->O7,one_mul->O8,one_pos->O9,pow_add->Gv,pow_le_pow_right->ps,pow_pos->Gw,pred->Gx,strongRecOn->agf,sub_add_cancel->n9,sub_add_sub_cancel->Gy,sub_eq_zero_of_le->ux,sub_le->qH,sub_le_iff_le_add->A',sub_le_sub_left->O_,sub_le_sub_right->O',sub_lt->agg,sub_lt_sub_right->Gz,sub_pos_of_lt->agh,sub_sub_self->agi,succ_le_of_lt->GA,succ_le_succ->jx,succ_lt_succ->Pa,succ_mul->agk,succ_pos->r5,two_mul->uy,two_pow_pos->agl,zero_add->g9,zero_le->dV
open Nat.succ renaming inj->agj
open Ne renaming symm->jy
open Option renaming bind_eq_some_iff->uz,bind_some->c',elim->Ba,getD_some->agm,isNone_iff_eq_none->agn,isSome_iff_exists->uA,isSome_map->ago,map->agp,map_eq_some_iff->xD,map_some->Bb,none->ag,not_isSome_iff_eq_none->agq,some->I
open Option.some renaming inj->GB,injEq->Pb
open Ordering renaming eq->qI,gt->r6,lt->lq
open PUnit renaming unit->fc
open Pure renaming pure->bg
open PyProof.Rows renaming Attribute_any_->agr,bitXor_and->ah3
open PySem renaming Addr->aE,Arguments->Pc,Around->dI,BoolOp->uB,CmpOp->qJ,Comprehension->m',Const->GF,DictEntry->e6,Env->kK,Expr->ai,Flow->mq,FuncData->Bh,Heap->cc,IntMulOk->Pu,Keyword->GO,NameKind->px,NoneBooked->uJ,Obj->cC,Operator->iJ,OsState->j0,Params->bR,Pos->a7,Program->n',PyData->Bi,Result->nc,Scope->gQ,Sem->ct,Shared->ax,Stmt->aF,Str->ar,Thread->GS,Tok->iL,Value->aq,Walks->xK,World->a4,annTrees->PH,argBest->fE,args_dict_contains->ahq,arm_allTrue_cons->ahr,arm_eval_BinOp->PI,arm_eval_Compare->ahs,arm_eval_List->Bo,arm_eval_Tuple->aht,arm_isTrue_Compare->ahu,assign->gR,assignAll->PJ,assignEach->uN,assignInOrder->uO,assignStores->PK,assign_Name->PL,backTo->j1,backToKw->oa,behindInMarks->nd,beq_builtin_none->ahv,binaryOp->eK,bindArgs->Bp,bindName->lu,cLine->qN,call->e8,callEnvC->dJ,callMarked->Bq,callWith->ic,call_function_tree->ahw,call_meets->sh,callerA->Br,cellsFrom->nf,closureFor->xM,codeAny->fF,codeAny_builtin->xN,codeAny_of_tree->G0,compPost->G1,compareOp->si,comprehension->PM,concat_meets->PN,constantsAlone->PO,contains->xO,denote->G2,dictDisplay->Bs,dictEntries->Bt,dictEpoch->G3,dictGet->G4,dictPut->G5,dictSet->xP,entry_dict_contains->ahx,eval->cn,evalArgs->PQ,evalEach->sj,evalEachOpt->G6,evalOpt->Bu,exec->c3,exec_Assign_Name->Bv,exec_Assign_arm->G7,execs->dm,fillsInplaceSlot->ahy,foldedForSure->PR,foldedSetIterable->G8,getAttr->xQ,getItem->pB,getMethod_builtin->ahz,holding->fV,importedModules->ahA,intItems->jD,intKind->iN,intKind_is->Bw,interactive->lx,isExactStrKey->uP,isInstance->Bx,isSubtype->PS,isSubtype_tuple_tuple->ahC,keeperOf->qO,keywordEach->ob,letOwnedTupleGo->uQ,loadPart->PT,mainGlobals->xR,markedBehindIn->ahD,markedEach->PU,methodCallForm->PV,mkInt->G9,mkText->sk,model->aK,newFunctionEnv->ahE,noFill_tuple_add->PW,noteFrame->G_,nsFind->ie,operate->xS,pairTrees_cons_walk->ahF,placesWithHash->ahG,plainId_quiet->sl,point->xT,pushCells_keeps->ahH,pyIter->qP,pyNext->ly,qualnameIn->PX,relabel->By,richCompare->Bz,richCompare_gives->ahI,richCompare_meets_room->ahJ,rule->Ha,run->dW,scanBound->PY,seqIndex?->qQ,seqItems?->xU,seq_tuple_add->PZ,sizeLine->pC,sliceBounds->j2,slicePick->P0,sliceRange->xV,slot_dict_contains->xW,slot_dict_getitem->Hb,slot_list_setitem->ahK,specialOf->P1,standAt->fG,starEach->ha,storeName->xX,strIterType->BA,strValues->Hc,subDict->Hd,swappedStores->qR,swapsWith->ja,sysModules->lz,testChain->P2,theTreesLotGoes->P4,treeTable->hb,truthy->xY,typeIs_float->He,typeIs_int->P5,typeIs_str->sm,typeLookup->pD,unaryOp->Hf,unsupported->BB,updateDictKeys->ahL,updateSeq->Hg,valueAt->pE,valueOrNone->BC,wpAny->aB,wpAny_AugAssign_Name->P6,wpAny_Call_method->xZ,wpAny_Expr_any->BD,wpAny_For->Hh,wpAny_If->uR,wpAny_Name->BE,wpAny_Return_none->ahM,wpAny_Return_some->x1,wpAny_askSetting->P7,wpAny_bind->av,wpAny_call->BF,wpAny_callSpecial?_slot->ahN,wpAny_callSpecialUnlessNone?_slot->ahO,wpAny_call_entry->Hi,wpAny_dictEntries->ahP,wpAny_dictEpoch->ahQ,wpAny_eqBool_int->Hj,wpAny_execs_cons->d6,wpAny_execs_nil->hc,wpAny_holding->c6,wpAny_inSet_of->ahR,wpAny_isInstance->ahS,wpAny_ite->x2,wpAny_letGo->so,wpAny_loadPart->ahT,wpAny_mkText->uS,wpAny_mono->ff,wpAny_newList->x3,wpAny_newObj_type->BG,wpAny_newTuple->ahU,wpAny_noted->P8,wpAny_of_eq->BH,wpAny_point->uT,wpAny_pure->aY,wpAny_pyIter_enum->ahV,wpAny_pyIter_list->P9,wpAny_pyIter_tuple->Hk,wpAny_pyIter_zip->ahW,wpAny_rule->oc,wpAny_seqItems->x4,wpAny_sequenceKey->ahX,wpAny_sharingNotTold_none->ahY,wpAny_specialOf->P_,wpAny_standAt->dc,wpAny_truthy_bool->uU,wpAny_tryCatch->sq,wpAny_tupleItemsOf->Hl,wpAny_updateSeq->x5,wpAny_with_toks->hO
open PySem.Around renaming under_plainId->xE
open PySem.AutoFloatG4 renaming float___gt___float_float_0->ah4
open PySem.AutoFloatG5 renaming float___lt___float_float_0->ah5
open PySem.AutoFloatOps renaming eq_0->ags,le_0->ah6,lt_0->ah7,mod_1->ah8,ne_0->ah9,truediv_1->ah_,truediv_fi_2->ah'
open PySem.Builtin renaming bitAnd->GD,bitNot->agw,bitOr->agx,bitXor->Pg,divisionGoesByPylong->pv
open PySem.Builtin.Builtins renaming bindParams->GC
open PySem.Builtin.Dict renaming pendingKey?->agt
open PySem.Builtin.Int renaming intBits->eU,intTooBig->Bc
open PySem.Builtin.List renaming listFitsIndex->aia,listSubscript?->aib,listTooLong->Pd
open PySem.Builtin.Range renaming rangeFitsLong->aic,rangeSize->jz,small->Pe
open PySem.Builtin.Str renaming glued->aid,occurrences->uC,partsBetween->agu,strKind->agv,strSliceIndices->aie,tooLong->Pf
open PySem.Calls renaming evalArgs_plain->Ph,spliced_cons->r7
open PySem.Challenge renaming pw_wb0107_01->aif,rw_wb0107_01->aih
open PySem.CmpOf renaming ints_gt->agy,ints_lt->agz
open PySem.Data renaming fields->lr,plain->agA,seq->GG
open PySem.Env renaming kindOf->Pj
open PySem.Expr renaming Name->Pk
open PySem.Expr.Attribute renaming elim->agB
open PySem.Expr.BinOp renaming elim->agC
open PySem.Expr.BoolOp renaming elim->agD
open PySem.Expr.Call renaming elim->agE
open PySem.Expr.Compare renaming elim->agF
open PySem.Expr.Constant renaming elim->agG
open PySem.Expr.Dict renaming elim->aii
open PySem.Expr.IfExp renaming elim->agH
open PySem.Expr.List renaming elim->agI
open PySem.Expr.ListComp renaming elim->agJ
open PySem.Expr.Name renaming elim->agK
open PySem.Expr.Slice renaming elim->agL
open PySem.Expr.Starred renaming elim->agM
open PySem.Expr.Subscript renaming elim->agN
open PySem.Expr.Tuple renaming elim->agO
open PySem.Expr.UnaryOp renaming elim->agP
open PySem.F renaming args_str_split_2->Pl,args_tuple_add_2->Pm,entry_max_loop->Pn,entry_min_loop->Po,entry_str_split->Pp,entry_tuple_add->Pq,plainAttrs_list->Bd,plainAttrs_str->Be,plain_max_loop->uD,plain_min_loop->uE,slot_dict_get->agQ,slot_int_rmul->agR,slot_list_append->Bf,slot_list_iadd->agS,slot_list_reverse->agT,slot_str_split->GH,slot_tuple_add->Pr,type_list_append->GI
open PySem.Float64 renaming Right->GJ,V->pw,V_lt->agU,add->da,cmp->eJ,decode->ia,decode_pack->agV,dist->kL,div->g_,divmod->uF,halfEven->Bg,infMag->Pt,isInf->n_,isNaN->agW,isZero->g',mul->cz,mul_right->agX,nearestOf->xF,ofFrac->d5,ofInt->iI,shift->GK,sub->bU,truncOf->GL,val->agY,val_natAbs->GN
open PySem.Flow renaming next->f'
open PySem.Heap renaming SameBut->xG,get?->ag0,get?_push_of_some->dS,get?_push_size->dE,get?_update_other->kM,get?_update_self->uG,lt_size->fe,size_push->i'
open PySem.Heap.SameBut renaming update->agZ
open PySem.IsRange renaming new->xH
open PySem.Keeper renaming frame->uH,machine->uI
open PySem.NameKind renaming cell->ib,free->kN
open PySem.Obj renaming mapDictKeys->ag1,mapSeq->jA,mk->gP
open PySem.Operator renaming Add->ag2
open PySem.P renaming gt_int->ag3,lt_int->ag4
open PySem.PyData renaming depth->ag5,depthAll->Pw,hasDict->ag6,hasDictAll->Px,int->xI,keyHash->Py,list->r8,showable->Pz,showableAll->PA,shown->GP,shownAll->GQ
open PySem.Sem renaming bind_eq_wrap'->ag7,pure->PB,wrap_wrap->GR
open PySem.SeqAt.EqAt renaming of_refs->PC,same->ag8
open PySem.SeqAt.RcAt renaming lists->ag9,lists_lengths->ag_,tuples->ag'
open PySem.Stmt.Assign renaming elim->aha
open PySem.Stmt.AugAssign renaming elim->ahb
open PySem.Stmt.ClassDef renaming elim->aij
open PySem.Stmt.Expr renaming elim->ahc
open PySem.Stmt.For renaming elim->ahd
open PySem.Stmt.FunctionDef renaming elim->aik
open PySem.Stmt.If renaming elim->ahe
open PySem.Stmt.Return renaming elim->ahf
open PySem.Stmt.While renaming elim->ahg
open PySem.Str renaming ofString->bp
open PySem.Txt renaming join->GU,lower->xJ,replace->ahh,split->PD
open PySem.Value renaming bool->pz,builtin->qK,float->qL,int->bE,isInt->qM,isInt_shape->ahj,none->dv,ref->Bj,str->ahl,type->gz
open PySem.Value.int renaming elim->ahi
open PySem.Value.ref renaming inj->ahk
open PySem.Value.str renaming elim->ahm
open PySem.W renaming Looks->uK,SharedT->pA,alive->mr,behindTheImports->GV,boot_drawn->iM,boot_heap->sa,boot_o_0->uL,boot_o_1->GW,boot_o_2->sb,byRow2->Bk,emptyDict->Bl,findIn->GX,fnMade->GY,hasDictIn->PF,instObj->mu,look_both->GZ,piece_app->sd,piecesOf->jB,plainOver->PG,same->jC,segGo->uM,segRunT->se,segRun_of->sf,sub->gA,topFrame->hN
open PySem.W.Fast renaming te10110043849684766642->ahn,te14364793385576792824->aho,tw10110043849684766642->r9,tw14364793385576792824->r_
open PySem.W.Looks renaming ld->ahp,of_pure->PE
open PySem.W.X renaming sim->ah,tableObj->r'
open PySem.Walks renaming list->Bm,tuple->Bn
open PySem.World renaming withFollow->e7
open PySem.isSame renaming created->ahB
open PySem.pyHashByItsType renaming reduced->G'
open ToString renaming toString->pF
noncomputable section
open PySem PySem.W PySem.W.X PySem.Calls PyProof.Rows PySem.SeqAt
section
universe u v
@[elab_as_elim] def rwL{n:Sort u}{i p:n}{motive:n->Prop}(j:i=p)(k:motive p):motive i:=j▸k
@[elab_as_elim] def rwR{n:Sort u}{i p:n}{motive:n->Prop}(j:p=i)(k:motive p):motive i:=j▸k
def a8{α:Type u}{motive:List α->Prop}(t:List α)(nil:motive [])(cons:∀head tail,motive<|head::tail):motive t:=List.casesOn t nil cons
def b7{α:Type u}{motive:Option α->Prop}(t:Option α)(none:motive none)(some:∀val,motive<|some val):motive t:=Option.casesOn t none some
def cq{motive:Bool->Prop}(t:Bool)(false:motive false)(true:motive true):motive t:=Bool.casesOn t false true
def cN{motive:Nat->Prop}(t:Nat)(zero:motive 0)(succ:∀n,motive<|n+1):motive t:=Nat.casesOn t zero succ
def ahZ{motive:i\/p->Prop}(r:i\/p)(c:∀j,motive<|.inl j)(d:∀j,motive<|.inr j):motive r:=Or.casesOn r c d
@[elab_as_elim] def Z0{P:Nat->Prop}{k:Nat}(j:k<2)(i:P 0)(p:P 1):P k:=cN (motive:=λk=>k<2->P k) k (λ_=>i) (λk=>cN (motive:=λk=>k+1<2->P (k+1)) k (λ_=>p) λk j=>absurd j<|fD.mpr<|dU 2 k) j
@[elab_as_elim] def DI{P:Nat->Prop}{k:Nat}(j:k<3)(i:P 0)(p:P 1)(g:P 2):P k:=cN (motive:=λk=>k<3->P k) k (λ_=>i) (λ_ j=>Z0 (P:=λk=>P<|k+1) (aga j) p g) j
@[elab_as_elim] def wi{r:Nat->Prop}{k:Nat}(j:k<4)(i:r 0)(p:r 1)(g:r 2)(d:r 3):r k:=cN (motive:=λk=>k<4->r k) k (λ_=>i) (λ_ j=>DI (P:=λk=>r<|k+1) (aga j) p g d) j
def nS{n:Type u}{i:n}{r:Prop}(j:ag=I i):r:=Option.noConfusion rfl<|heq_of_eq j
def sN{n:Type u}{i:n}{r:Prop}(j:I i=ag):r:=nS j.symm
def tF{r:Prop}(j:ab=au):r:=afq j
def fT{r:Prop}(j:au=ab):r:=afq j
def aS{n:Type u}{i p:n}(j:I i=I p):i=p:=GB j
def sK{n:Type u}{i p:n}{d:Prop}(j:I i=I p)(k:p=i->d):d:=k (aS j).symm
def gq{n:Type u}[Decidable g]{m:Option n}{d:n}(j:(if g then m else ag)=I d):g/\m=I d:=by by_cases w:g;rw[if_pos w]at j;exact⟨w,j⟩;rw[if_neg w]at j;exact nS j
def cj{n:Type u}[Decidable g]{m d:n}(j:(if g then I m else ag)=I d):g/\m=d:=⟨(gq j).1,aS (gq j).2⟩
def kT{n:Type u}{t:Type v}{m:Option n}{s:n->Option t}{w:t}(j:m.bind s=I w):∃i,m=I i/\s i=I w:=uz.mp j
def tq{n:Type u}{t:Type v}{m:Option n}{s:n->t}{w:t}(j:m.map s=I w):∃i,m=I i/\s i=w:=xD.mp j
def bK{n:Type u}{t:Type v}{m:Option n}{s:n->Option t}{w:t}{d:Prop}(j:m.bind s=I w)(k:∀i,m=I i->s i=I w->d):d:=(kT j).elim λi b=>k i b.1 b.2
def eH{n:Type u}{t:Type v}{m:Option n}{s:n->t}{w:t}{d:Prop}(j:m.map s=I w)(k:∀i,m=I i->s i=w->d):d:=(tq j).elim λi b=>k i b.1 b.2
def iK{n:Type u}[Decidable g]{m:Option n}{d:n}{a:Prop}(j:(if g then m else ag)=I d)(k:g->m=I d->a):a:=k (gq j).1 (gq j).2
def aM(j:(i&&p)=ab):i=ab/\p=ab:=(Bool.and_eq_true_iff).mp j
def ks(j:(!i)=ab):i=au:=by cases i;rfl;exact fT j
def bF{n:Type u}{t:Type v}{m:Option n}{s:n->Option t}{a:n}{w:t}(j:m=I a)(k:s a=I w):m.bind s=I w:=by rw[j];exact k
def nM{n:Type u}{t:Type v}{m:Option n}{s:n->t}{i:n}{w:t}(j:m=I i)(k:s i=w):m.map s=I w:=by rw[j,<-k];rfl
def eO{n:Type u}[Decidable g]{m b:n}{d:n}(w:g)(j:m=d):(if g then m else b)=d:=(if_pos w).trans j
def oP{n:Type u}[Decidable g]{m b:n}{d:n}(w:¬g)(j:b=d):(if g then m else b)=d:=(if_neg w).trans j
def vL{n:Type u}{t:Type v}{d:Option n}{m:t}{s:n->t}{w:t}(j:d=ag)(k:m=w):d.elim m s=w:=by rw[j];exact k
def y5{n:Type u}{t:Type v}{d:Option n}{m:t}{s:n->t}{w:t}{i:n}(j:d=I i)(k:s i=w):d.elim m s=w:=by rw[j];exact k
def fh{n:Type u}{d:Option n}{s:n->Bool}(j:d.elim au s=ab):∃i,d=some i/\s i=ab:=by cases d with|none=>exact fT j|some i=>exact⟨i,rfl,j⟩
def L2{n:Type u}{d:Option n}(j:d.isNone=ab):d=ag:=agn.mp j
def oU(j:i=au):¬i=ab:=by rw[j];decide
end
local macro_rules
  | `(tactic| omega) => `(tactic| first | lia | omega (config := {}))
set_option maxHeartbeats 1000000
set_option tactic.hygienic false
set_option compiler.extract_closed false
open Lean in
local macro_rules (kind := Lean.Parser.Tactic.rewriteSeq)
  | s => do
    let r := s[2][1]
    if !s[3].isNone then Macro.throwUnsupported
    if r.getNumArgs == 1 then
      let h : TSyntax `term := ⟨r[0][1]⟩
      let f := mkIdent (if r[0][0].isNone then `Mine.rwL else `Mine.rwR)
      `(tactic| first | with_reducible_and_instances refine $f ($h ..) ?_ | refine $f $h ?_ | rewrite [$(⟨r[0]⟩)] at ⊢)
    else
      let g := fun x => s.setArg 2 (s[2].setArg 1 (mkNullNode x))
      `(tactic| ($(⟨g #[r[0]]⟩); $(⟨g (r.getArgs.extract 2 r.getNumArgs)⟩)))
open Lean in
local macro_rules (kind := Lean.Parser.Tactic.show)
  | s => `(tactic| refine (?_ : $(⟨s[1]⟩)))
noncomputable def ec{n:Type}:List n->Option n|[i]=>I i|_=>ag
def oX{n:Type}{k:List n}{i:n}(j:ec k=I i):k=[i]:=by
 induction k using a8 with
 |nil=>exact nS j
 |cons p k=>
  induction k using a8 with|nil=>exact congrArg (λm=>[m]) (aS j)|cons=>exact nS j
noncomputable def qw(f:ai):Option (ai×iJ×ai×a7):=if j:f.ctorIdx=2 then agC (motive_1:=λk=>Option<|ai×iJ×ai×a7) f j λi p g d=>I (i,p,g,d)else ag
def N7(j:qw f=I x):f=.BinOp x.1 x.2.1 x.2.2.1 x.2.2.2:=by by_cases w:f.ctorIdx=2;exact agC (motive_1:=λf=>qw f=I x->f=.BinOp x.1 x.2.1 x.2.2.1 x.2.2.2) f w (λi p g d j=>aS j▸rfl) j;exact nS<|(dif_neg w).symm.trans j
noncomputable def AP(f:ai):Option (UnaryOp×ai×a7):=if j:f.ctorIdx=3 then agP (motive_1:=λk=>Option<|UnaryOp×ai×a7) f j λi p g=>I (i,p,g)else ag
def afe(j:AP f=I x):f=.UnaryOp x.1 x.2.1 x.2.2:=by by_cases w:f.ctorIdx=3;exact agP (motive_1:=λf=>AP f=I x->f=.UnaryOp x.1 x.2.1 x.2.2) f w (λi p g j=>aS j▸rfl) j;exact nS<|(dif_neg w).symm.trans j
noncomputable def m2(f:ai):Option (ai×ai×ai×a7):=if j:f.ctorIdx=5 then agH (motive_1:=λk=>Option<|ai×ai×ai×a7) f j λi p g d=>I (i,p,g,d)else ag
def N_(j:m2 f=I x):f=.IfExp x.1 x.2.1 x.2.2.1 x.2.2.2:=by by_cases w:f.ctorIdx=5;exact agH (motive_1:=λf=>m2 f=I x->f=.IfExp x.1 x.2.1 x.2.2.1 x.2.2.2) f w (λi p g d j=>aS j▸rfl) j;exact nS<|(dif_neg w).symm.trans j
noncomputable def qx(f:ai):Option (ai×List m'×gQ×a7):=if j:f.ctorIdx=8 then agJ (motive_1:=λk=>Option<|ai×List m'×gQ×a7) f j λi p g d=>I (i,p,g,d)else ag
def ae_(j:qx f=I x):f=.ListComp x.1 x.2.1 x.2.2.1 x.2.2.2:=by by_cases w:f.ctorIdx=8;exact agJ (motive_1:=λf=>qx f=I x->f=.ListComp x.1 x.2.1 x.2.2.1 x.2.2.2) f w (λi p g d j=>aS j▸rfl) j;exact nS<|(dif_neg w).symm.trans j
noncomputable def rV(f:ai):Option (ai×List qJ×List ai×a7):=if j:f.ctorIdx=15 then agF (motive_1:=λk=>Option<|ai×List qJ×List ai×a7) f j λi p g d=>I (i,p,g,d)else ag
def ae9(j:rV f=I x):f=.Compare x.1 x.2.1 x.2.2.1 x.2.2.2:=by by_cases w:f.ctorIdx=15;exact agF (motive_1:=λf=>rV f=I x->f=.Compare x.1 x.2.1 x.2.2.1 x.2.2.2) f w (λi p g d j=>aS j▸rfl) j;exact nS<|(dif_neg w).symm.trans j
noncomputable def kD(f:ai):Option (ai×List ai×List GO×a7):=if j:f.ctorIdx=16 then agE (motive_1:=λk=>Option<|ai×List ai×List GO×a7) f j λi p g d=>I (i,p,g,d)else ag
def AK(j:kD f=I x):f=.Call x.1 x.2.1 x.2.2.1 x.2.2.2:=by by_cases w:f.ctorIdx=16;exact agE (motive_1:=λf=>kD f=I x->f=.Call x.1 x.2.1 x.2.2.1 x.2.2.2) f w (λi p g d j=>aS j▸rfl) j;exact nS<|(dif_neg w).symm.trans j
noncomputable def AL(f:ai):Option (GF×Nat×a7):=if j:f.ctorIdx=19 then agG (motive_1:=λk=>Option<|GF×Nat×a7) f j λi p g=>I (i,p,g)else ag
def N8(j:AL f=I x):f=.Constant x.1 x.2.1 x.2.2:=by by_cases w:f.ctorIdx=19;exact agG (motive_1:=λf=>AL f=I x->f=.Constant x.1 x.2.1 x.2.2) f w (λi p g j=>aS j▸rfl) j;exact nS<|(dif_neg w).symm.trans j
noncomputable def t9(f:ai):Option (ai×ar×a7):=if j:f.ctorIdx=20 then agB (motive_1:=λk=>Option<|ai×ar×a7) f j λi p g=>I (i,p,g)else ag
def ae6(j:t9 f=I x):f=.Attribute x.1 x.2.1 x.2.2:=by by_cases w:f.ctorIdx=20;exact agB (motive_1:=λf=>t9 f=I x->f=.Attribute x.1 x.2.1 x.2.2) f w (λi p g j=>aS j▸rfl) j;exact nS<|(dif_neg w).symm.trans j
noncomputable def kF(f:ai):Option (ai×ai×a7):=if j:f.ctorIdx=21 then agN (motive_1:=λk=>Option<|ai×ai×a7) f j λi p g=>I (i,p,g)else ag
def F0(j:kF f=I x):f=.Subscript x.1 x.2.1 x.2.2:=by by_cases w:f.ctorIdx=21;exact agN (motive_1:=λf=>kF f=I x->f=.Subscript x.1 x.2.1 x.2.2) f w (λi p g j=>aS j▸rfl) j;exact nS<|(dif_neg w).symm.trans j
noncomputable def FZ(f:ai):Option (ai×a7):=if j:f.ctorIdx=22 then agM (motive_1:=λk=>Option<|ai×a7) f j λi p=>I (i,p)else ag
def afd(j:FZ f=I x):f=.Starred x.1 x.2:=by by_cases w:f.ctorIdx=22;exact agM (motive_1:=λf=>FZ f=I x->f=.Starred x.1 x.2) f w (λi p j=>aS j▸rfl) j;exact nS<|(dif_neg w).symm.trans j
noncomputable def fp(f:ai):Option (ar×a7):=if j:f.ctorIdx=23 then agK (motive_1:=λk=>Option<|ar×a7) f j λi p=>I (i,p)else ag
def jW(j:fp f=I x):f=.Name x.1 x.2:=by by_cases w:f.ctorIdx=23;exact agK (motive_1:=λf=>fp f=I x->f=.Name x.1 x.2) f w (λi p j=>aS j▸rfl) j;exact nS<|(dif_neg w).symm.trans j
noncomputable def t'(f:ai):Option (List ai×a7):=if j:f.ctorIdx=24 then agI (motive_1:=λk=>Option<|List ai×a7) f j λi p=>I (i,p)else ag
def N'(j:t' f=I x):f=.List x.1 x.2:=by by_cases w:f.ctorIdx=24;exact agI (motive_1:=λf=>t' f=I x->f=.List x.1 x.2) f w (λi p j=>aS j▸rfl) j;exact nS<|(dif_neg w).symm.trans j
noncomputable def js(f:ai):Option (List ai×Nat×a7):=if j:f.ctorIdx=25 then agO (motive_1:=λk=>Option<|List ai×Nat×a7) f j λi p g=>I (i,p,g)else ag
def ua(j:js f=I x):f=.Tuple x.1 x.2.1 x.2.2:=by by_cases w:f.ctorIdx=25;exact agO (motive_1:=λf=>js f=I x->f=.Tuple x.1 x.2.1 x.2.2) f w (λi p g j=>aS j▸rfl) j;exact nS<|(dif_neg w).symm.trans j
noncomputable def AM(f:ai):Option (List (Option ai)×List ai×a7):=if j:f.ctorIdx=6 then aii (motive_1:=λk=>Option<|List (Option ai)×List ai×a7) f j λi p g=>I (i,p,g)else ag
noncomputable def FY(f:ai):Option (Option ai×Option ai×Option ai×a7):=if j:f.ctorIdx=26 then agL (motive_1:=λk=>Option<|Option ai×Option ai×Option ai×a7) f j λi p g d=>I (i,p,g,d)else ag
def afc(j:FY f=I x):f=.Slice x.1 x.2.1 x.2.2.1 x.2.2.2:=by by_cases w:f.ctorIdx=26;exact agL (motive_1:=λf=>FY f=I x->f=.Slice x.1 x.2.1 x.2.2.1 x.2.2.2) f w (λi p g d j=>aS j▸rfl) j;exact nS<|(dif_neg w).symm.trans j
noncomputable def AJ(f:ai):Option (uB×List ai×a7):=if j:f.ctorIdx=0 then agD (motive_1:=λk=>Option<|uB×List ai×a7) f j λi p g=>I (i,p,g)else ag
def ae8(j:AJ f=I x):f=.BoolOp x.1 x.2.1 x.2.2:=by by_cases w:f.ctorIdx=0;exact agD (motive_1:=λf=>AJ f=I x->f=.BoolOp x.1 x.2.1 x.2.2) f w (λi p g j=>aS j▸rfl) j;exact nS<|(dif_neg w).symm.trans j
noncomputable def xh(f:aF):Option (Option ai×a7):=if j:f.ctorIdx=3 then ahf (motive_2:=λk=>Option<|Option ai×a7) f j λi p=>I (i,p)else ag
def afb(j:xh f=I x):f=.Return x.1 x.2:=by by_cases w:f.ctorIdx=3;exact ahf (motive_2:=λf=>xh f=I x->f=.Return x.1 x.2) f w (λi p j=>aS j▸rfl) j;exact nS<|(dif_neg w).symm.trans j
noncomputable def i7(f:aF):Option (List ai×ai×a7):=if j:f.ctorIdx=5 then aha (motive_2:=λk=>Option<|List ai×ai×a7) f j λi p g=>I (i,p,g)else ag
def N6(j:i7 f=I x):f=.Assign x.1 x.2.1 x.2.2:=by by_cases w:f.ctorIdx=5;exact aha (motive_2:=λf=>i7 f=I x->f=.Assign x.1 x.2.1 x.2.2) f w (λi p g j=>aS j▸rfl) j;exact nS<|(dif_neg w).symm.trans j
noncomputable def AI(f:aF):Option (ai×iJ×ai×a7):=if j:f.ctorIdx=7 then ahb (motive_2:=λk=>Option<|ai×iJ×ai×a7) f j λi p g d=>I (i,p,g,d)else ag
def ae7(j:AI f=I x):f=.AugAssign x.1 x.2.1 x.2.2.1 x.2.2.2:=by by_cases w:f.ctorIdx=7;exact ahb (motive_2:=λf=>AI f=I x->f=.AugAssign x.1 x.2.1 x.2.2.1 x.2.2.2) f w (λi p g d j=>aS j▸rfl) j;exact nS<|(dif_neg w).symm.trans j
noncomputable def rW(f:aF):Option (ai×ai×List aF×List aF×a7):=if j:f.ctorIdx=9 then ahd (motive_2:=λk=>Option<|ai×ai×List aF×List aF×a7) f j λi p g d f=>I (i,p,g,d,f)else ag
def afa(j:rW f=I x):f=.For x.1 x.2.1 x.2.2.1 x.2.2.2.1 x.2.2.2.2:=by by_cases w:f.ctorIdx=9;exact ahd (motive_2:=λf=>rW f=I x->f=.For x.1 x.2.1 x.2.2.1 x.2.2.2.1 x.2.2.2.2) f w (λi p g d f j=>aS j▸rfl) j;exact nS<|(dif_neg w).symm.trans j
noncomputable def pf(f:aF):Option (ai×List aF×List aF×a7):=if j:f.ctorIdx=12 then ahe (motive_2:=λk=>Option<|ai×List aF×List aF×a7) f j λi p g d=>I (i,p,g,d)else ag
def N9(j:pf f=I x):f=.If x.1 x.2.1 x.2.2.1 x.2.2.2:=by by_cases w:f.ctorIdx=12;exact ahe (motive_2:=λf=>pf f=I x->f=.If x.1 x.2.1 x.2.2.1 x.2.2.2) f w (λi p g d j=>aS j▸rfl) j;exact nS<|(dif_neg w).symm.trans j
noncomputable def t_(f:aF):Option (ai×a7):=if j:f.ctorIdx=24 then ahc (motive_2:=λk=>Option<|ai×a7) f j λi p=>I (i,p)else ag
def ae'(j:t_ f=I x):f=.Expr x.1 x.2:=by by_cases w:f.ctorIdx=24;exact ahc (motive_2:=λf=>t_ f=I x->f=.Expr x.1 x.2) f w (λi p j=>aS j▸rfl) j;exact nS<|(dif_neg w).symm.trans j
noncomputable def AN(l:aF):Option (ar×Pc×List aF×List ai×Option ai×List TypeParam×gQ×Option gQ×ar×a7):=if r:l.ctorIdx=0 then aik (motive_2:=λw=>Option<|ar×Pc×List aF×List ai×Option ai×List TypeParam×gQ×Option gQ×ar×a7) l r λm p n d l s q y t k=>I (m,p,n,d,l,s,q,y,t,k)else ag
def AO(f:ai):Option (ar×a7×List ai×a7):=(kD f).bind λx=>(fp x.1).bind λy=>if x.2.2.1.isEmpty=ab then I (y.1,y.2,x.2.1,x.2.2.2)else ag
def Oa(j:AO f=I x):f=.Call (.Name x.1 x.2.1) x.2.2.1 [] x.2.2.2:=bK j λg w j=>bK j λy p j=>by rw[AK w,jW p,pn.mp (cj j).1,<-(cj j).2]
def pg(f:ai):Option (ai×ar×a7×List ai×a7):=(kD f).bind λx=>(t9 x.1).bind λy=>if x.2.2.1.isEmpty=ab then I (y.1,y.2.1,y.2.2,x.2.1,x.2.2.2)else ag
def FX(j:pg f=I x):f=.Call (.Attribute x.1 x.2.1 x.2.2.1) x.2.2.2.1 [] x.2.2.2.2:=bK j λg w j=>bK j λy p j=>by rw[AK w,ae6 p,pn.mp (cj j).1,<-(cj j).2]
def mK{n:Type}{d:Option n}(j:d.isSome=ab):∃i,d=I i:=uA.mp j
noncomputable def gY{n:Type}:List n->Option (n×n)|[i,p]=>I (i,p)|_=>ag
noncomputable def Lw:GF->Option ar|.str m=>I m|_=>ag
def Y3(j:Lw g=I m):g=.str m:=by rcases g with⟨⟩<;>first|exact nS j|exact congrArg _<|aS j
noncomputable def Lv:GF->Option Int|.int m=>I m|_=>ag
def Y2(j:Lv g=I m):g=.int m:=by rcases g with⟨⟩<;>first|exact nS j|exact congrArg _<|aS j
def rM(f:ai):Option ar:=(AL f).bind λx=>Lw x.1
def Nz(j:rM f=I m):∃k s,f=.Constant (.str m) k s:=bK j λb a j=>⟨_,_,Y3 j▸N8 a⟩
def v'(f:ai):Option Int:=(AL f).bind λx=>Lv x.1
def Yg(j:v' f=I m):∃k s,f=.Constant (.int m) k s:=bK j λb a j=>⟨_,_,Y2 j▸N8 a⟩
section
variable{p:n'}{w:a4}{bo:Nat}{ann:Option aq}
def ay(p:n')(w:a4)(bo:Nat)(ann:Option aq){b:Type}(j:ct b)(k:ax)(q:a7)(i:b)(J:ax)(h:a7)(y:Nat):Prop:=∀(K:b->ct Fin)(e:aq->ct Fin)(f:Bool->Bool)(d:List aq->List aq)(g:Code)(l:Frame),uM hb p w bo ann 1 y k ⟨j.wrap K e f d,g,q,[l]⟩=I (J,⟨K i,g,h,[l]⟩)
def acT:∀{y k:Nat}{l J:ax}{b a:GS}{c},uM hb p w bo ann 1 y l b=some (J,a)->uM hb p w bo ann 1 k J a=c->uM hb p w bo ann 1 (y+k) l b=c:=by
 intro y;induction y with
 |zero=>
  exact @λk l J b a c j B=>by
   obtain⟨rfl,rfl⟩:l=J/\b=a:=by simpa[uM]using j
   rw[g9];exact B
 |succ y A=>
  exact @λk l J b a c j B=>by
   rw[show y+1+k=y+k+1 by exact ef _ _ _];unfold uM at j ⊢;induction i:endAt 1 b using b7 with
   |some C=>rw[i]at j;cases j
   |none=>
    rw[i]at j;induction m:stepOk bo ann b using cq with
    |false=>rw[m]at j;cases j
    |true=>
     rw[m]at j;cases q:step (G2 hb) p w l b with|halt d g=>rw[q]at j;cases j|go g x=>rw[q]at j;exact A j B
variable{α β:Type}
theorem ay.pure{q:a7}:ay p w bo ann (bg i) l q i l q 0:=λk k k k k k=>rfl
def ay.bind{B:α->ct β}{q wJ i:a7} (j:ay p w bo ann e l q a e2 wJ n) (y:ay p w bo ann (B a) e2 wJ d g i k):ay p w bo ann (e>>=B) l q d g i (n+k):=by intro K C r t A x;rw[ag7,GR];exact acT (j _ _ _ _ A x)<|y K C r t A x
def ay.of_eq(f:c=r){q d:a7}(j:ay p w bo ann r l q i b d y):ay p w bo ann c l q i b d y:=f▸j
def ay.steps{q g:a7}(j:ay p w bo ann c l q d b g n)(f:n=i):ay p w bo ann c l q d b g i:=f▸j
theorem ay.keep{q k:a7}(j:ay p w bo ann d l q i b k y):ay p w bo ann (d.keep x) l q i b k y:=by intro K e f t g r;rw[Sem.keep_eq_wrap,GR];exact j _ _ _ _ g r
theorem ay.holding{x:List aq}{c:ct α}{e d:ax}{q b:a7}{i:α}{y:Nat}(j:ay p w bo ann c e q i d b y):ay p w bo ann (fV x c) e q i d b y:=by unfold fV;generalize List.filter _ x=k;induction k using a8 with|nil=>exact j|cons=>exact j.keep
theorem ay.onRaise{q r:a7}(j:ay p w bo ann d l q i b r y):ay p w bo ann (d.onRaise k) l q i b r y:=by intro K e f x g t;rw[Sem.onRaise_eq_wrap,GR];exact j _ _ _ _ g t
theorem ay.rule{q:a7}:ay p w bo ann (Ha a) l q () l q 1:=λk k k k k k=>rfl
def ay.at_{q:a7}:ay p w bo ann (fG e) l q () l e 1:=λk k k k k k=>rfl
theorem ay.point{q:a7}:ay p w bo ann xT l q () l q 1:=λk k k k k k=>rfl
theorem ay.fresh{q:a7}:ay p w bo ann PySem.fresh l q l.toks {l with toks:=l.toks+1} q 1:=λk k k k k k=>rfl
theorem ay.loadPart{q:a7}(j:l.heap.get? d=I aQ):ay p w bo ann (PT d part) l q aQ l q 1:=by intro K e f m g i;obtain⟨n,y,drawn,r,os⟩:=l;show(match step (G2 hb) p w _ ⟨.load d part K,g,q,[i]⟩with|.go J a=>I (J,a)|.halt k t=>ag)=_;simp only[step];rw[j]
theorem ay.load{q:a7}(j:l.heap.get? a=I d):ay p w bo ann (PySem.load a) l q d l q 1:=ay.loadPart (part:=ag) j
theorem ay.alloc{q:a7}:ay p w bo ann (PySem.alloc d) s q s.heap.objs.size {s with heap:=s.heap.push d} q 1:=λk k k k k k=>rfl
theorem ay.updatePart{j:aE}{q:a7}(G:l.heap.get? j=I aQ)(B:bG bo j=true):ay p w bo ann (PySem.updatePart j i r) l q () {l with heap:=l.heap.update j r} q 1:=by
 intro K e n d g y;obtain⟨C,A,drawn,E,os⟩:=l;have D:stepOk bo ann (⟨.update j i r λm=>((PB m:ct Unit)).wrap K e n d,g,q,[y]⟩:GS)=true:=by show(true&&(bG bo j||_||_||_))=true;rw[B];rfl
 show(match stepOk bo ann (⟨.update j i r λm=>((PB m:ct Unit)).wrap K e n d,g,q,[y]⟩:GS)with|false=>ag|true=>(match step (G2 hb) p w _ ⟨.update j i r λm=>((PB m:ct Unit)).wrap K e n d,g,q,[y]⟩with|.go J a=>I (J,a)|.halt k t=>ag))=_;rw[D];simp only[step];rw[G];rfl
def acs(c:0<=y)(g:y<2^31):G' (if(if y<0 then -((y.natAbs:Int)%((2^61 -1:Nat):Int))else((y.natAbs:Int)%((2^61 -1:Nat):Int)))==-1 then -2 else(if y<0 then -((y.natAbs:Int)%((2^61 -1:Nat):Int))else((y.natAbs:Int)%((2^61 -1:Nat):Int))))=bg y:=by
 have f:((y.natAbs:Int)%((2^61 -1:Nat):Int))=y:=by rw[Int.natAbs_of_nonneg c];exact Int.emod_eq_of_lt c (uj g<|by decide)
 rw[if_neg<|g8.mpr c,f];have s:(y==-1)=au:=beq_eq_false_iff_ne.mpr λq=>absurd (q▸c) (by decide);rw[s];show G' y=_;unfold G';have:(-(2^63:Int)<=y&&y<2^63)=ab:=by rw[decide_eq_true (jY (by decide) c),decide_eq_true<|uj g<|by decide];rfl
 rw[if_pos this,s];rfl
def yo(p:n')(bo:Nat)(ann:Option aq)(y:Int)(r:iL)(a:ax)(q:a7)(w:a4):Prop:=∀(K:Int->ct Fin)(e:aq->ct Fin)(f:Bool->Bool)(d:List aq->List aq)(g:Code)(l:Frame),uM hb p w bo ann 1 5 a ⟨(pyHash<|.int y r).wrap K e f d,g,q,[l]⟩=I ({a with toks:=a.toks+1},⟨(G'<|if(if y<0 then -((y.natAbs:Int)%((2^61 -1:Nat):Int))else((y.natAbs:Int)%((2^61 -1:Nat):Int)))==-1 then -2 else(if y<0 then -((y.natAbs:Int)%((2^61 -1:Nat):Int))else((y.natAbs:Int)%((2^61 -1:Nat):Int)))).wrap K e f d,g,q,[l]⟩)
def XJ{q:a7}(w:a4):yo p bo ann y r l q (w.withFollow "special-get-raises" au):=by intro K e f d g a;kernel_rfl
def XK{q:a7}(w:a4):yo p bo ann y r l q (w.withFollow "special-get-raises" ab):=by intro K e f d g a;kernel_rfl
def ay.XI{q:a7}:yo p bo ann y r l q w:=Bk "special-get-raises" (P:=yo p bo ann y r l q) XJ XK w
def ay.hash{q:a7}(a:0<=y)(g:y<2^31):ay p w bo ann (pyHash<|.int y r) l q y {l with toks:=l.toks+1} q 5:=by intro K e f d h b;rw[ay.XI,acs a g];rfl
noncomputable def ao(e:Nat->Option cC)(a:Nat):cc:=⟨((bO a).map λy=>(e y).getD h9).toArray,{}⟩
noncomputable def cO(e:Nat->Option cC)(b:Nat)(d:cC):Nat->Option cC:=λy=>if y=b then I d else e y
def lh:cO e i d i=I d:=if_pos rfl
def n1(j:c≠i):cO e i d c=e c:=if_neg j
def xd:cO (cO e c d) c b=cO e c b:=by funext y;unfold cO;split<;>rfl
def vY(e:Nat->Option cC)(y i:Nat):(ao e y).objs[i]?=if i<y then I ((e i).getD h9)else ag:=by unfold ao;rw[m6,m5];by_cases j:i<y;rw[afS j,if_pos j];rfl;rw[A0<|rwL Gf<|Gn ‹_›,if_neg j];rfl
def Dk(e:Nat->Option cC)(y:Nat):(ao e y).objs.size=y:=by unfold ao;rw[Gl,eT,Gf]
def rj(m:i<y)(l:j i=I b)(s:b.isFreed=au):(ao j y).get? i=I b:=by unfold ag0;rw[vY,if_pos m,l];obtain⟨q,d,k,p⟩:=b;cases k<;>first|rfl|cases s
def XW(j:b<y)(k:c b=I d):(ao c y).update b s=ao (cO c b<|s d) y:=by
 have:((ao c y).objs.modify b s)=(ao (cO c b<|s d) y).objs:=by apply afo;intro l;rw[Array.getElem?_modify,vY,vY];unfold cO;by_cases q:l=b;subst q;simp[j,k];have:=jy q;simp[q,this]
 exact congrArg (Heap.mk · {}) this
def KZ:(ao e y).push d=ao (cO e y d) (y+1):=by
 have:((ao e y).objs.push d)=(ao (cO e y d)<|y+1).objs:=by
  apply afo;intro a;rw[Array.getElem?_push,vY,vY,Dk];unfold cO;by_cases q:a=y;subst q;simp;by_cases j:a<y;have:a<y+1:=by exact du ‹_›<|b_ _ _
  simp[j,q,this];have:¬a<y+1:=fD.mpr<|xy (Gn j)<|jy q;simp[j,q,this]
 exact congrArg (Heap.mk · {}) this
def XU(j:(bO y).map e=(bO y).map b):ao e y=ao b y:=by
 unfold ao;have:(bO y).map (λa=>(e a).getD h9)=(bO y).map (λa=>(b a).getD h9):=by have:=congrArg (OO λd:Option cC=>d.getD h9) j;simpa[m7]using this
 rw[this]
noncomputable def b1(b:List e6)(k:Nat):cC:=⟨.type "dict",ag,.dict b.toArray k,#[]⟩
variable{b9:Array GenState}{a_:Drawn}{os:j0}
def ay.entries{e:Nat->Option cC}{q:a7}(a:d<y)(c:e d=I (b1 b k)):ay p w bo ann (Bt d i) ⟨ao e y,b9,a_,r,os⟩ q b.toArray ⟨ao e y,b9,a_,r,os⟩ q 1:=by unfold Bt;exact ay.bind (n:=1) (k:=0) (ay.loadPart (aQ:=b1 b k)<|rj a c rfl) ay.pure
def ay.JO{e:Nat->Option cC}{q:a7}(a:d<y)(c:e d=I (b1 bf k)):ay p w bo ann (G3 d i) ⟨ao e y,b9,a_,r,os⟩ q k ⟨ao e y,b9,a_,r,os⟩ q 1:=by unfold G3;exact ay.bind (n:=1) (k:=0) (ay.loadPart (aQ:=b1 bf k)<|rj a c rfl) ay.pure
def ab4{b:List e6}(p:∀f∈b,f.hash≠j):ahG b.toArray.size (λy=>b.toArray[y]?.map (·.hash)) j=[]:=by
 unfold ahG;rw[OG];intro y g;have n:y<b.length:=by simpa using g
 simp only[m6,n6 n,Bb,beq_iff_eq,Pb];exact p _<|xt n
def ay.find{h:Nat->Option cC}{q:a7}(j:d<a)(l:h d=I (b1 b k))(m:∀f∈b,f.hash≠y):ay p w bo ann (dictFind d (.int y c) y) ⟨ao h a,b9,a_,r,os⟩ q ag ⟨ao h a,b9,a_,r,os⟩ q 1:=by unfold dictFind;refine ay.holding<|ay.bind (n:=1) (k:=0) (ay.entries j l) ?_;dsimp only;rw[ab4 m];exact ay.pure
def ay.MF{y d r:Nat}{q:a7}(j:d<y)(h:bG bo d=ab)(c:a d=I (b1 b k))(l:b.length<100000):ay p w bo ann (ahL d (·.push f) i) ⟨ao a y,b9,a_,r,os⟩ q () ⟨ao (cO a d<|b1 (b++[f])<|k+1) y,b9,a_,r,os⟩ q 3:=by
 unfold ahL;refine ay.bind (n:=1) (k:=2) (ay.loadPart (aQ:=b1 b k)<|rj j c rfl) ?_;dsimp only[b1];refine ay.bind (n:=1) (k:=1) (ay.updatePart (aQ:=b1 b k) (rj j c rfl) h) ?_;have s:ag1 (λm=>m.push f) (b1 b k)=b1 (b++[f]) (k+1):=by show(⟨.type "dict",ag,.dict (b.toArray.push f)<|k+1,#[]⟩:cC)=_;rw[afZ];rfl
 rw[show(ao a y).update d (ag1 λm=>m.push f)=ao (cO a d<|b1 (b++[f])<|k+1) y from by rw[XW j c,s]];unfold lookBehind;refine ay.bind (n:=1) (k:=0) (ay.loadPart (aQ:=b1 (b++[f])<|k+1)<|rj j lh rfl) ?_;have:(b1 (b++[f])<|k+1).data.pastItsLine=ag:=by show(if(b++[f]).toArray.size>pC+1 then I "dict:memory"else ag)=ag;rw[if_neg];rw[Gl,hx];exact fD.mpr (jx<|aC (c2 l)<|show 100000<=pC by decide)
 rw[this];exact ay.pure
def ay.put{x d r:Nat}{q:a7}(j:d<x)(h:bG bo d=ab)(m:a d=I (b1 b k))(l:b.length<100000)(s:∀A∈b,A.hash≠y):ay p w bo ann (G5 d y (.int y c) f) ⟨ao a x,b9,a_,r,os⟩ q () ⟨ao (cO a d<|b1 (b++[⟨y,.int y c,f⟩])<|k+1) x,b9,a_,r,os⟩ q 4:=by unfold G5;refine ay.bind (n:=1) (k:=3) (ay.find j m s) ?_;exact ay.MF j h m l
def ay.set{B d r:Nat}{q:a7}(j:d<B)(h:bG bo d=ab)(m:a d=I (b1 b k))(l:b.length<100000)(A:∀C∈b,C.hash≠y)(s:0<=y)(x:y<2^31):ay p w bo ann (xP d (.int y c) f) ⟨ao a B,b9,a_,r,os⟩ q () ⟨ao (cO a d<|b1 (b++[⟨y,.int y c,f⟩])<|k+1) B,b9,a_,r+1,os⟩ q 10:=by unfold xP;refine ay.holding<|ay.bind (n:=5) (k:=5) (ay.hash s x) ?_;unfold dictSetHashed;refine ay.holding<|ay.bind (n:=1) (k:=4) (ay.find j m A) ?_;dsimp only;exact ay.bind (n:=1) (k:=3) ay.rule<|ay.MF j h m l
noncomputable def el(a:Nat):List (Int×ar)->List e6|[]=>[]|(y,m)::w=>⟨y,.int y a,.str m<|a+1⟩::el (a+3) w
theorem sV:∀(a:Nat)(n:List (Int×ar)),(el a n).length=n.length|k,[]=>rfl|a,(y,m)::w=>by simp[el,sV (a+3) w]
theorem y4:∀(a:Nat)(n:List (Int×ar)),(el a n).map (·.hash)=n.map (·.1)|k,[]=>rfl|a,(y,m)::w=>by simp[el,y4 (a+3) w]
noncomputable def kv(j:a7)(y:Int×ar):ct aq×ct aq:=(G9 y.1,do let t<-sk y.2;fG j;bg t)
theorem ay.mkInt{q:a7}:ay p w bo ann (G9 y) s q (.int y s.toks) {s with toks:=s.toks+1} q 1:=λk k k k k k=>rfl
theorem ay.mkText{q:a7}:ay p w bo ann (sk m) s q (.str m s.toks) {s with toks:=s.toks+1} q 1:=λk k k k k k=>rfl
def gd(b:List e6)(n:List (Int×ar)):Prop:=(b.map (·.hash)++n.map (·.1)).Nodup/\∀y∈n,0<=y.1/\y.1<2^31
def gd.head(j:gd b (y::n)):∀f∈b,f.hash≠y.1:=by intro f i q;have:=(xv.mp j.1).2.2 f.hash (hM.mpr ⟨f,i,rfl⟩) y.1 (by simp);exact this q
def gd.next(j:gd b (y::n))(i:f.hash=y.1):gd (b++[f]) n:=by refine⟨?_,λm ae=>j.2 m<|eA _ ae⟩;have:=j.1;simpa[i]using this
def FN(c:e d=I (b1 b k)):cO e d (b1 (b++[])<|k+0)=e:=by funext y;unfold cO;split;rename_i j;subst j;rw[pl];exact c.symm;rfl
def zI{α:Type}{k:List α}{i:α}(j:k.length+(y+1)<t):(k++[i]).length+y<t:=by rw[hx];exact cH (cL<|ef k.length 1 y) j
def ZK{d D:Nat}(J:d<D)(A:bG bo d=ab)
  (K:∀k L:ct aq,h (k,L) fc=(do let C<-k;let H<-fV [C] L;fV [C,H] (xP d C H);bg (hJ fc))):
  ∀(c:List (Int×ar))(e:Nat->Option cC)(r k:Nat)(b:List e6),e d=I (b1 b k)->gd b c->b.length+c.length<100000->
   ay p w bo ann (iF (c.map<|kv pos) fc h) ⟨ao e D,b9,a_,r,os⟩ pos fc ⟨ao (cO e d<|b1 (b++el r c)<|k+c.length) D,b9,a_,r+3*c.length,os⟩ pos (13*c.length):=by
 intro c
 induction c with
 |nil=>
  exact @λe r k b B q l=>by show ay p w bo ann _ _ _ _ ⟨ao (cO e d<|b1 (b++[])<|k+0) D,b9,a_,r,os⟩ _ _;rw[FN B];exact ay.pure
 |cons G c F=>
  obtain⟨y,m⟩:=G;exact @λe r k b B q l=>by have j:=q.2 (y,m) (eB ..);refine ay.of_eq (m3 ..)<|ay.steps (ay.bind (n:=13) (k:=13*c.length) (a:=hJ fc) (e2:=⟨ao (cO e d<|b1 (b++[⟨y,.int y r,.str m<|r+1⟩])<|k+1) D,b9,a_,r+3,os⟩) (wJ:=pos) (ay.of_eq (K ..) ?_) ?_)<|fU 13<|13*c.length;refine ay.bind (n:=1) (k:=12) (ay.mkInt (s:=⟨ao e D,b9,a_,r,os⟩)) ?_;refine ay.bind (n:=2) (k:=10) (ay.holding<|ay.bind (n:=1) (k:=1) (ay.mkText (s:=⟨ao e D,b9,a_,r+1,os⟩))<|ay.bind (n:=1) (k:=0) ay.at_ ay.pure) ?_;exact ay.bind (n:=10) (k:=0) (ay.holding<|ay.set J A B (cH (b_ _ _) ‹_›) q.head j.1 j.2) ay.pure;have E:=F (cO e d<|b1 (b++[⟨y,.int y r,.str m<|r+1⟩])<|k+1) (r+3) (k+1) (b++[⟨y,.int y r,.str m<|r+1⟩]) lh (q.next rfl)<|zI l;rw[xd,i9,ef k,ef r]at E;exact E
noncomputable def yl(a:Nat):List (Int×ar)->List (aq×aq)|[]=>[]|(y,m)::w=>(.int y a,.str m<|a+1)::yl (a+2) w
noncomputable def iD(a:Nat):List (Int×ar)->List e6|[]=>[]|(y,m)::w=>⟨y,.int y a,.str m<|a+1⟩::iD (a+2) w
theorem Fq:∀(a:Nat)(n:List (Int×ar)),(iD a n).length=n.length|k,[]=>rfl|a,(y,m)::w=>by simp[iD,Fq (a+2) w]
theorem Nd:∀(a:Nat)(n:List (Int×ar)),(iD a n).map (·.hash)=n.map (·.1)|k,[]=>rfl|a,(y,m)::w=>by simp[iD,Nd (a+2) w]
def ay.pairs:∀(a:List (Int×ar))(b:cc)(r:Nat),ay p w bo ann (evalPairs<|a.map<|kv j) ⟨b,b9,a_,r,os⟩ j (yl r a) ⟨b,b9,a_,r+2*a.length,os⟩ j (3*a.length):=by
 intro a;induction a with
 |nil=>
  exact @λb r=>ay.pure
 |cons d a c=>
  obtain⟨y,m⟩:=d;exact @λb r=>by refine ay.steps (ay.bind (n:=1) (k:=2+3*a.length) (ay.mkInt (s:=⟨b,b9,a_,r,os⟩)) ?_)<|(hy 1 2 _).symm.trans<|fU 3<|3*a.length;refine ay.bind (n:=2) (k:=3*a.length) (ay.holding<|ay.bind (n:=1) (k:=1) (ay.mkText (s:=⟨b,b9,a_,r+1,os⟩))<|ay.bind (n:=1) (k:=0) ay.at_ ay.pure) ?_;have g:=c b<|r+2;rw[ef r]at g;exact ay.bind (n:=3*a.length) (k:=0) (ay.holding g) ay.pure
def ZS{q:a7}{d F:Nat}(H:d<F)(B:bG bo d=ab)
  (J:∀k K:aq,s (k,K) fc=(do xP d k K;bg (hJ fc))):
  ∀(c:List (Int×ar))(e:Nat->Option cC)(r h k:Nat)(b:List e6),e d=I (b1 b k)->gd b c->b.length+c.length<100000->
   ay p w bo ann (iF (yl h c) fc s) ⟨ao e F,b9,a_,r,os⟩ q fc ⟨ao (cO e d<|b1 (b++iD h c)<|k+c.length) F,b9,a_,r+c.length,os⟩ q (10*c.length):=by
 intro c
 induction c with
 |nil=>
  exact @λe r h k b C A l=>by show ay p w bo ann _ _ _ _ ⟨ao (cO e d<|b1 (b++[])<|k+0) F,b9,a_,r,os⟩ _ _;rw[FN C];exact ay.pure
 |cons G c E=>
  obtain⟨y,m⟩:=G;exact @λe r h k b C A l=>by have j:=A.2 (y,m) (eB ..);refine ay.of_eq (m3 ..)<|ay.steps (ay.bind (n:=10) (k:=10*c.length) (a:=hJ fc) (e2:=⟨ao (cO e d<|b1 (b++[⟨y,.int y h,.str m<|h+1⟩])<|k+1) F,b9,a_,r+1,os⟩) (wJ:=q) (ay.of_eq (J ..) ?_) ?_)<|fU 10<|10*c.length;exact ay.bind (n:=10) (k:=0) (ay.set H B C (cH (b_ _ _) ‹_›) A.head j.1 j.2) ay.pure;have D:=E (cO e d<|b1 (b++[⟨y,.int y h,.str m<|h+1⟩])<|k+1) (r+1) (h+2) (k+1) (b++[⟨y,.int y h,.str m<|h+1⟩]) lh (A.next rfl)<|zI l;rw[xd,i9,ef k,ef r]at D;exact D
def ZL{d y:Nat}(m:d<y)(b:bG bo d=ab)
  (x:∀k B:ct aq,s (k,B) fc=(do let i<-k;let c<-fV [i] B;fV [i,c] (xP d i c);bg (hJ fc)))
     (q:gd [] a) (l:a.length<100000):
   ay p w bo ann (iF (a.map<|kv j) fc s) ⟨ao (cO e d<|b1 [] 0) y,b9,a_,r,os⟩ j fc ⟨ao (cO e d<|b1 (el r a) a.length) y,b9,a_,r+3*a.length,os⟩ j (13*a.length):=by
 have A:=ZK (p:=p) (w:=w) (bo:=bo) (ann:=ann) (b9:=b9) (a_:=a_) (os:=os) (pos:=j) m b x a (cO e d<|b1 [] 0) r 0 [] lh q<|(g9 _).symm▸l
 rw[xd,g9]at A
 exact A
def ZT{q:a7}{d y:Nat}(m:d<y)(c:bG bo d=ab)
  (x:∀k A:aq,s (k,A) fc=(do xP d k A;bg (hJ fc)))
     (i:gd [] a) (l:a.length<100000):
   ay p w bo ann (iF (yl b a) fc s) ⟨ao (cO e d<|b1 [] 0) y,b9,a_,r,os⟩ q fc ⟨ao (cO e d<|b1 (iD b a) a.length) y,b9,a_,r+a.length,os⟩ q (10*a.length):=by
 have j:=ZS (p:=p) (w:=w) (bo:=bo) (ann:=ann) (b9:=b9) (a_:=a_) (os:=os) (q:=q) m c x a (cO e d<|b1 [] 0) r b 0 [] lh i<|(g9 _).symm▸l
 rw[xd,g9]at j
 exact j
def ay.NA{n t:Nat}(h:bG bo n=ab)(y:15<bP.length)(l:bP.length<100)(q:gd [] bP):ay p w bo ann (Hd<|bP.map<|kv pos) ⟨ao g n,b9,a_,t,os⟩ pos n ⟨ao (cO g n<|b1 (el t bP) bP.length)<|n+1,b9,a_,t+3*bP.length,os⟩ pos (2+13*bP.length):=by unfold Hd;refine ay.steps (ay.bind (n:=1) (k:=1+13*bP.length) (ay.alloc (s:=⟨ao g n,b9,a_,t,os⟩)) ?_)<|(hy _ _ _).symm;show ay p w bo ann _ ⟨(ao g n).push _,b9,a_,t,os⟩ pos n _ pos _;rw[show(⟨ao g n,b9,a_,t,os⟩:ax).heap.objs.size=n from Dk g n,KZ];rw[if_neg (by rw[eT];exact m_.mpr y)];refine ay.steps (ay.bind (a:=()) (n:=1+13*bP.length) (k:=0) (ay.holding<|ay.bind (a:=()) (n:=1) (k:=13*bP.length) ay.rule ?_) ay.pure)<|ef _ _ _;exact ay.steps (ay.bind (k:=0) (ZL (e5 _) h (λb b=>rfl) q<|du l<|by decide) ay.pure) rfl
def ay.sub_short{n t:Nat}(h:bG bo n=ab)(y:bP.length<=15)(q:gd [] bP):ay p w bo ann (Hd<|bP.map<|kv pos) ⟨ao g n,b9,a_,t,os⟩ pos n ⟨ao (cO g n<|b1 (iD t bP) bP.length)<|n+1,b9,a_,t+2*bP.length+bP.length,os⟩ pos (1+13*bP.length):=by unfold Hd;refine ay.steps (ay.bind (n:=1) (k:=13*bP.length) (ay.alloc (s:=⟨ao g n,b9,a_,t,os⟩)) ?_) rfl;show ay p w bo ann _ ⟨(ao g n).push _,b9,a_,t,os⟩ pos n _ pos _;rw[show(⟨ao g n,b9,a_,t,os⟩:ax).heap.objs.size=n from Dk g n,KZ];rw[if_pos (by rw[eT];assumption)];refine ay.steps (ay.bind (a:=()) (n:=13*bP.length) (k:=0) (ay.holding<|ay.steps (ay.bind (n:=3*bP.length) (k:=10*bP.length) (ay.pairs bP _ t)<|ay.holding ?_) (Gm 3 10 _).symm) ay.pure) rfl;exact ay.steps (ay.bind (k:=0) (ZT (e5 _) h (λb b=>rfl) q<|cH y<|by decide) ay.pure) rfl
def YA:Bx (.ref i) (.type "dict")=(PT i (I headPart)>>=λd=>PS d.cls<|.type "dict"):=by unfold Bx typeOf;rfl
def U2:PS (.type "dict") (.type "dict")=bg ab:=by kernel_rfl
def ay.Yy{e:Nat->Option cC}{q:a7}(a:d<y)(c:e d=I (b1 b k)):ay p w bo ann (Bx (.ref d)<|.type "dict") ⟨ao e y,b9,a_,r,os⟩ q ab ⟨ao e y,b9,a_,r,os⟩ q 1:=by rw[YA];refine ay.bind (n:=1) (k:=0) (ay.loadPart (aQ:=b1 b k)<|rj a c rfl) ?_;show ay p w bo ann (PS (.type "dict")<|.type "dict") _ _ _ _ _ _;rw[U2];exact ay.pure
def Qo:P1 (.ref i) m=(PT i (I headPart)>>=λd=>pD d.cls m):=by unfold P1 typeOf;rfl
def U1:pD (.type "dict") "__iter__"=bg (I<|.builtin "dict.__iter__"):=by kernel_rfl
def ay.UZ{e:Nat->Option cC}{q:a7}(a:d<y)(c:e d=I (b1 b k)):ay p w bo ann (P1 (.ref d) "__iter__") ⟨ao e y,b9,a_,r,os⟩ q (I<|.builtin "dict.__iter__") ⟨ao e y,b9,a_,r,os⟩ q 1:=by rw[Qo];refine ay.bind (n:=1) (k:=0) (ay.loadPart (aQ:=b1 b k)<|rj a c rfl) ?_;show ay p w bo ann (pD (.type "dict") "__iter__") _ _ _ _ _ _;rw[U1];exact ay.pure
def uZ(s:List e6):Prop:=∀f∈s,∃y d t,f=⟨y,.int y d,t⟩
def ZQ{q:a7}{d gA V L:Nat}(W:d<V)(N:bG bo d=ab)(K:gA<V)(O:gA≠d){C:List e6}(S:uZ C){Y:Nat->PUnit->ct (ForInStep PUnit)}
  (X:∀l:Nat,Y l fc=(do
   let aa<-Bt gA
   match aa[l]?with
   |some A=>do
    fV [A.key,A.val] (G5 d A.hash A.key A.val)
    let ac<-G3 gA
    if(ac !=L)=ab then do BB "dict.changed-during-merge";bg (hJ fc)else bg (hJ fc)
   |none=>do BB "dict.changed-during-merge";bg (hJ fc))):
  ∀(c s:Nat)(B:Nat->Option cC)(r k:Nat)(b:List e6),s+c=C.length->B d=some (b1 b k)->B gA=some (b1 C L)->(b.map (·.hash)++(C.drop s).map (·.hash)).Nodup->b.length+c<100000->
   ay p w bo ann (iF (ju s c) fc Y) ⟨ao B V,b9,a_,r,os⟩ q fc ⟨ao (cO B d<|b1 (b++C.drop s)<|k+c) V,b9,a_,r,os⟩ q (6*c):=by
 intro c
 induction c with
 |zero=>
  exact @λs B r k b M P G H T=>by rw[List.drop_eq_nil_iff.mpr<|cL M.symm,FN P];exact ay.pure
 |succ c D=>
  exact @λs B r k b M P G H T=>by
   have J:s<C.length:=M▸qD (r5 c);obtain⟨l,E,F,R⟩:=S C[s]<|xt J;have Q:C.drop s=⟨l,.int l E,F⟩::C.drop (s+1):=by rw[OD J,R]
   rw[Q]at H ⊢;have I:∀A∈b,A.hash≠l:=λA Z q=>(xv.mp H).2.2 A.hash (hM.mpr ⟨A,Z,rfl⟩) l (by simp) q;refine ay.of_eq (m3 ..)<|ay.steps (ay.bind (n:=6) (k:=6*c) (a:=hJ fc) (e2:=⟨ao (cO B d<|b1 (b++[⟨l,.int l E,F⟩])<|k+1) V,b9,a_,r,os⟩) (wJ:=q) (ay.of_eq (X _) ?_) ?_)<|fU 6<|6*c;refine ay.bind (n:=1) (k:=5) (ay.entries K G) ?_;have:C.toArray[s]?=some ⟨l,.int l E,F⟩:=by rw[m6,n6 J,R]
   rw[this];dsimp only;refine ay.bind (n:=4) (k:=1) (ay.holding<|ay.put W N P (cH (b_ _ _) ‹_›) I) ?_;refine ay.bind (n:=1) (k:=0) (ay.JO (bf:=C) (k:=L) K<|rwL (n1 O) G) ?_;rw[show(L !=L)=au by simp];exact ay.pure;have U:=D (s+1) (cO B d<|b1 (b++[⟨l,.int l E,F⟩])<|k+1) r (k+1) (b++[⟨l,.int l E,F⟩]) ((ef s 1 c).trans M) lh (rwL (n1 O) G) (by rw[kH,i9];exact H)<|zI T;rw[xd,i9,ef k]at U;exact U
def ZR{q:a7}{d gA F E:Nat}(G:d<F)(A:bG bo d=ab)(B:gA<F)(D:gA≠d){s:List e6}(l:uZ s){J:Nat->PUnit->ct (ForInStep PUnit)}
  (H:∀L:Nat,J L fc=(do
   let m<-Bt gA
   match m[L]?with
   |some a=>do
    fV [a.key,a.val] (G5 d a.hash a.key a.val)
    let N<-G3 gA
    if(N !=E)=ab then do BB "dict.changed-during-merge";bg (hJ fc)else bg (hJ fc)
   |none=>do BB "dict.changed-during-merge";bg (hJ fc)))
  {C:Nat->Option cC} {I k:Nat} {b:List e6} (c:C d=some (b1 b k)) (r:C gA=some (b1 s E)) (j:(b.map (·.hash)++s.map (·.hash)).Nodup) (M:b.length+s.length<100000):
   ay p w bo ann (iF (bO s.length) fc J) ⟨ao C F,b9,a_,I,os⟩ q fc ⟨ao (cO C d<|b1 (b++s)<|k+s.length) F,b9,a_,I,os⟩ q (6*s.length):=by
 have K:=ZQ (p:=p) (w:=w) (bo:=bo) (ann:=ann) (b9:=b9) (a_:=a_) (os:=os) (q:=q) G A B D l H s.length 0 C I k b (g9 _) c r (by simpa using j) (by assumption)
 rw[AX,<-af0]at K
 exact K
def ay.merge{q:a7}{d sub n k Dy t:Nat}(f:d<n)(h:bG bo d=ab)(e:sub<n)(A:sub≠d)(b:sub≠1)(l:uZ cR)(s:bf≠[]) (c:g d=I (b1 bf k)) (r:g sub=I (b1 cR Dy)) (j:(bf.map (·.hash)++cR.map (·.hash)).Nodup) (B:bf.length+cR.length<100000):ay p w bo ann (mergeMapping d (.ref sub) au) ⟨ao g n,b9,a_,t,os⟩ q () ⟨ao (cO g d<|b1 (bf++cR)<|k+cR.length) n,b9,a_,t,os⟩ q (5+6*cR.length):=by
 unfold mergeMapping;refine ay.steps (ay.bind (n:=1) (k:=4+6*cR.length) (ay.Yy e r) ?_)<|(hy _ _ _).symm;dsimp only;rw[if_pos rfl];try simp only[r0]
 refine ay.steps (ay.bind (n:=1) (k:=3+6*cR.length) (ay.UZ e r) ?_)<|(hy _ _ _).symm;refine ay.steps (ay.bind (n:=0) (a:=ab) (ay.of_eq (congrArg bg<|beq_self_eq_true _) ay.pure) ?_)<|g9 _;dsimp only;rw[if_neg<|by simpa[lz]using b];refine ay.steps (ay.bind (n:=1) (k:=2+6*cR.length) (ay.entries f c) ?_)<|(hy _ _ _).symm;rw[if_neg<|by simpa using s];refine ay.steps (ay.bind (n:=1) (k:=1+6*cR.length) (ay.entries e r) ?_)<|(hy _ _ _).symm;refine ay.steps (ay.bind (n:=1) (k:=6*cR.length) (ay.JO e r) ?_) rfl;rw[show cR.toArray.size=cR.length by simp];exact ay.steps (ay.bind (k:=0) (ZR f h e A l (λy=>congrArg (Bt sub>>=·)<|funext λm=>by cases m[y]?<;>rfl) c r j B) ay.pure) rfl
structure Hn(p:Program)(w:World)(bo:Nat)(ann:Option Value)(f:Option (Sem Value)×Sem Value->Option Addr×List (Sem Value×Sem Value)->Sem (ForInStep<|Option Addr×List (Sem Value×Sem Value)))
  (tail:Option Addr×List (Sem Value×Sem Value)->Sem Value):Prop where
 small:∀(k v:Sem Value)(main:Option Addr)(run:List (Sem Value×Sem Value)),run.length+1<17->f (some k,v) (main,run)=bg (.yield (main,run++[(k,v)]))
 first:∀(k v:Sem Value)(run:List (Sem Value×Sem Value))(s J:Shared)(q qi:Pos)(d:Addr)(n:Nat),run.length+1=17->ay p w bo ann (subDict<|run++[(k,v)]) s q d J qi n->
  ay p w bo ann (f (some k,v) (none,run)) s q (.yield (some d,[])) J qi n
 next:∀(k v:Sem Value)(run:List (Sem Value×Sem Value))(s J cX:Shared)(q qi wI:Pos)(d sub:Addr)(n m:Nat),run.length+1=17->ay p w bo ann (subDict<|run++[(k,v)]) s q sub J qi n->
  ay p w bo ann (mergeMapping d (.ref sub) false) J qi () cX wI m->ay p w bo ann (f (some k,v) (some d,run)) s q (.yield (some d,[])) cX wI (n+m)
 last:∀(run:List (Sem Value×Sem Value))(s J cX:Shared)(q qi wI:Pos)(d sub:Addr)(n m:Nat),run≠[]->ay p w bo ann (subDict run) s q sub J qi n->ay p w bo ann (mergeMapping d (.ref sub) false) J qi () cX wI m->ay p w bo ann (tail (some d,run)) s q (.ref d) cX wI (n+m)
 none_:∀(s:Shared)(q:Pos)(d:Addr),ay p w bo ann (tail (some d,[])) s q (.ref d) s q 0
def display:∃b y,(∀fI,Bs fI=(iF fI ((ag:Option aE),([]:List (ct aq×ct aq))) b>>=y))/\Hn p w bo ann b y:=by refine⟨_,_,λg=>rfl,?_,?_,?_,?_,?_⟩;intro k t x dW j;dsimp only;rw[if_neg (by rw[hx];exactλq=>fs j<|bL q)];intro k t dW l J q e d n j i;dsimp only;rw[if_pos<|rwL hx<|beq_iff_eq.mpr j,if_neg<|by simp];exact ay.steps (ay.bind (k:=0) (ay.bind (k:=0) i ay.pure) ay.pure)<|ef _ _ _;intro k t dW l J cX q e a d gA n c j i r;dsimp only;rw[if_pos<|rwL hx<|beq_iff_eq.mpr j,if_neg<|by simp];exact ay.steps (ay.bind (k:=0) (ay.bind (ay.holding i)<|ay.bind (k:=0) (ay.onRaise<|ay.holding r) ay.pure) ay.pure)<|ef _ _ _;intro dW l J cX q e a d gA n c j i r;dsimp only;rw[if_neg<|by simpa using j];exact ay.steps (ay.bind (k:=0) (ay.bind (ay.holding i)<|ay.bind (k:=0) (ay.onRaise<|ay.holding r) ay.pure) ay.pure)<|ef _ _ _;intro l q d;dsimp only;rw[if_pos<|by simp];exact ay.bind (n:=0) (k:=0) ay.pure ay.pure
def nH(j:a7)(y:Int×ar):Option (ct aq)×ct aq:=(I (kv j y).1,(kv j y).2)
def Ht{s:Option (ct aq)×ct aq->Option aE×List (ct aq×ct aq)->ct (ForInStep<|Option aE×List (ct aq×ct aq))}(d:∀(k t:ct aq)(x:Option aE)(dW:List (ct aq×ct aq)),dW.length+1<17->s (I k,t) (x,dW)=bg (.yield (x,dW++[(k,t)])))(j:a7)(x:Option aE):∀(a:List (Int×ar))(e:List (Option (ct aq)×ct aq))(dW:List (ct aq×ct aq)),dW.length+a.length<17->iF (a.map (nH j)++e) (x,dW) s=iF e (x,dW++a.map (kv j)) s:=by
 intro a;induction a with
 |nil=>
  exact @λe dW g=>by simp
 |cons y a c=>
  exact @λe dW b=>by simp only[gx]at b;rw[e4,um,m3,nH,d _ _ _ _<|cH (gy (jx<|dV _) _) b,uk];dsimp only;rw[c e _<|zI b];simp
def Ku{s:Option (ct aq)×ct aq->Option aE×List (ct aq×ct aq)->ct (ForInStep<|Option aE×List (ct aq×ct aq))}(d:∀(k t:ct aq)(a:Option aE)(dW:List (ct aq×ct aq)),dW.length+1<17->s (I k,t) (a,dW)=bg (.yield (a,dW++[(k,t)])))(j:a7)(a:Option aE)(g:List (Int×ar))(w:g.length=17)(i:List (Option (ct aq)×ct aq)):∃dW k t,dW.length+1=17/\dW++[(k,t)]=g.map (kv j)/\iF (g.map (nH j)++i) (a,[]) s=(s (I k,t) (a,dW)>>=λy=>match y with|.done p=>bg p|.yield p=>iF i p s):=by
 have n:g≠[]:=by intro q;rw[q]at w;cases w
 have l:=List.dropLast_concat_getLast n;refine⟨g.dropLast.map<|kv j,(kv j<|g.getLast n).1,(kv j<|g.getLast n).2,by simp;assumption,?_,?_⟩
 ·conv=>rhs;rw[<-l]
  simp
 ·conv=>lhs;rw[<-l]
  rw[kH,i9,Ht d j a g.dropLast _ [] (by rw[Ge,List.length_dropLast,w];decide)];simp only[nH,Gj,e4,List.map_nil,List.singleton_append,um,m3];refine congrArg (_>>=·)<|funext λm=>?_;cases m<;>rfl
set_option genInjectivity false in
structure dM where
 g:Nat->Option Obj
 n:Nat
 t:Nat
 k:Nat
 bf:List DictEntry
def dM.next(d:Nat)(a:List (Int×ar))(m:dM):dM:=⟨cO (cO m.g m.n<|b1 (el m.t a) 17) d<|b1 (m.bf++el m.t a)<|m.k+17,m.n+1,m.t+51,m.k+17,m.bf++el m.t a⟩
def dM.run(d:Nat):List (List<|Int×ar)->dM->dM|[],m=>m|c::s,m=>dM.run d s<|m.next d c
def dM.last(d:Nat)(w:List (Int×ar))(m:dM):dM:=⟨cO (cO m.g m.n<|b1 (iD m.t w) w.length) d<|b1 (m.bf++iD m.t w)<|m.k+w.length,m.n+1,m.t+2*w.length+w.length,m.k+w.length,m.bf++iD m.t w⟩
def gd.left(j:gd b (g++r)):gd [] g:=by refine⟨?_,λm ae=>j.2 m<|n7 _ ae⟩;have:=j.1;rw[kH]at this;have:=(xv.mp (xv.mp this).2.1).1;simpa using this
def gd.pass(j:gd b (g++a))(f:cR.map (·.hash)=g.map (·.1)):gd (b++cR) a:=by refine⟨?_,λm ae=>j.2 m<|n8 _ ae⟩;have:=j.1;simpa[f]using this
def gd.meet{b s:List e6}(j:gd b (g++r))(f:s.map (·.hash)=g.map (·.1)):(b.map (·.hash)++s.map (·.hash)).Nodup:=by have:=j.1;rw[kH,<-i9]at this;rw[f];exact(xv.mp this).1
theorem Jz:∀(a:Nat)(n:List (Int×ar)),uZ (el a n)
 |k,[]=>λk j=>nomatch j
 |a,(y,m)::w=>λf j=>by
  rcases cJ.mp j with rfl|j
  exact⟨_,_,_,rfl⟩
  exact Jz (a+3) w f j
theorem Nf:∀(a:Nat)(n:List (Int×ar)),uZ (iD a n)
 |k,[]=>λk j=>nomatch j
 |a,(y,m)::w=>λf j=>by
  rcases cJ.mp j with rfl|j
  exact⟨_,_,_,rfl⟩
  exact Nf (a+2) w f j
def IK{bo d c:Nat}(j:bG bo d=ab)(f:d<c):bG bo c=ab:=kI<|aC (m8 j)<|c2 f
def ZM{d:Nat}(B:bG bo d=ab)(M:1<=d)(aa:Hn p w bo ann i y)(O:h.length<=15)(P:h≠[]):∀(s:List (List<|Int×ar))(m:dM),(∀F∈s,F.length=17)->d<m.n->m.g d=I (b1 m.bf m.k)->m.bf≠[]->gd m.bf (s.flatten++h)->m.bf.length+17*s.length<90000->ay p w bo ann (iF ((s.flatten++h).map<|nH j) (I d,[]) i>>=y) ⟨ao m.g m.n,b9,a_,m.t,os⟩ j (.ref d) ⟨ao ((m.run d s).last d h).g ((m.run d s).last d h).n,b9,a_,((m.run d s).last d h).t,os⟩ j (330*s.length+(6+19*h.length)):=by
 intro s;induction s with
 |nil=>
  exact @λm H G J E A l=>by
   have D:m.n≠d:=by exact i_ ‹_›
   rw[show([]:List (List<|Int×ar)).flatten++h=h from rfl]at A ⊢;have U:iF (h.map<|nH j) ((I d:Option aE),([]:List (ct aq×ct aq))) i=bg (I d,h.map<|kv j):=by have:=Ht aa.small j (I d) h [] [] (by simp;exact cH ‹_›<|by decide);simpa using this
   rw[U,uk];have R:=ay.sub_short (p:=p) (w:=w) (bo:=bo) (ann:=ann) (b9:=b9) (a_:=a_) (os:=os) (pos:=j) (bP:=h) (g:=m.g) (n:=m.n) (t:=m.t) (IK B G) O (gd.left (r:=[])<|by simpa using A);have S:=ay.merge (p:=p) (w:=w) (bo:=bo) (ann:=ann) (b9:=b9) (a_:=a_) (os:=os) (q:=j) (d:=d) (sub:=m.n) (n:=m.n+1) (k:=m.k) (Dy:=h.length) (t:=m.t+2*h.length+h.length) (g:=cO m.g m.n<|b1 (iD m.t h) h.length) (bf:=m.bf) (cR:=iD m.t h)
    (du ‹_›<|b_ _ _) B (e5 _) D (i_<|cH M G) (Nf _ _) E (by rw[n1<|jy D];exact J) lh (gd.meet (r:=[]) (by simpa using A)<|Nd _ _) (by rw[Fq];exact du (Nat.add_lt_add_of_lt_of_le l O)<|by decide)
   have:=aa.last (h.map<|kv j) _ _ _ _ _ _ d m.n _ _ (by simpa using P) R S;rw[Fq]at this;exact ay.steps this (by rw[Nat.add_add_add_comm,<-Gm];exact(g9 _).symm)
 |cons F s Q=>
  exact @λm H G J E A l=>by
   have D:m.n≠d:=by exact i_ ‹_›
   have C:=H F (eB ..);obtain⟨dW,k,W,N,K,U⟩:=Ku aa.small j (I d) F C<|(s.flatten++h).map<|nH j;rw[AY,i9]at A ⊢;rw[kH,U];simp only[gx]at l;have R:=ay.NA (p:=p) (w:=w) (bo:=bo) (ann:=ann) (b9:=b9) (a_:=a_) (os:=os) (pos:=j) (bP:=F) (g:=m.g) (n:=m.n) (t:=m.t) (IK B G) (C▸by decide) (C▸by decide) A.left;have S:=ay.merge (p:=p) (w:=w) (bo:=bo) (ann:=ann) (b9:=b9) (a_:=a_) (os:=os) (q:=j) (d:=d) (sub:=m.n) (n:=m.n+1) (k:=m.k) (Dy:=F.length) (t:=m.t+3*F.length) (g:=cO m.g m.n<|b1 (el m.t F) F.length) (bf:=m.bf) (cR:=el m.t F)
    (du ‹_›<|b_ _ _) B (e5 _) D (i_<|cH M G) (Jz _ _) E (by rw[n1<|jy D];exact J) lh (A.meet<|y4 _ _) (by rw[sV,C];exact cH (jv (aC (b_ ..)<|c2 l) 17)<|by decide)
   rw[<-K]at R;have L:=aa.next k W dW _ _ _ _ _ _ d m.n _ _ N R S
   rw[sV,C]at L;rw[r0];refine ay.steps (ay.bind L ?_) (n:=(2+13*17+(5+6*17))+(330*s.length+(6+19*h.length))) ((hy 330 (330*s.length) _).symm.trans (congrArg (·+_)<|fU 330<|330*s.length));dsimp only;exact Q (m.next d F) (λT V=>H T<|eA _ V) (by show d<m.n+1;exact du ‹_›<|b_ _ _) lh (by show m.bf++el m.t F≠[];simp[E]) (A.pass<|y4 _ _) (by show(m.bf++el m.t F).length+_<_;rw[hx,sV,C,hy,fU 17];exact l)
theorem ay.display{n t:Nat}(A:bG bo n=ab)(I:1<=n)(B:b.length=17)(E:∀b∈s,b.length=17)(i:d.length<=15)(G:d≠[]) (q:gd [] (b++(s.flatten++d))) (J:17*s.length<80000) (ae:m=((dM.mk (cO g n<|b1 (el t b) 17) (n+1) (t+51) 17<|el t b).run n s).last n d):ay p w bo ann (Bs<|(b++(s.flatten++d)).map<|nH j) ⟨ao g n,b9,a_,t,os⟩ j (.ref n) ⟨ao m.g m.n,b9,a_,m.t,os⟩ j (223+(330*s.length+(6+19*d.length))):=by
 subst ae;obtain⟨O,y,L,aa⟩:=Mine.display (p:=p) (w:=w) (bo:=bo) (ann:=ann);obtain⟨dW,k,N,D,l,H⟩:=Ku aa.small j ag b B<|(s.flatten++d).map<|nH j;rw[L,kH,H,r0];have K:=ay.NA (p:=p) (w:=w) (bo:=bo) (ann:=ann) (b9:=b9) (a_:=a_) (os:=os) (pos:=j) (bP:=b) (g:=g) (n:=n) (t:=t) A (B▸by decide) (B▸by decide) q.left;rw[<-l]at K;have C:=aa.first k N dW _ _ _ _ n _ D K
 rw[B]at C;refine ay.bind C ?_;dsimp only;have F:el t b≠[]:=by intro M;have:=congrArg List.length M;rw[sV,B]at this;cases this
 exact ZM A I aa i G s ⟨cO g n<|b1 (el t b) 17,n+1,t+51,17,el t b⟩ E (e5 n) lh F (by have:=q.pass (cR:=el t b)<|y4 _ _;simpa using this) (by show(el t b).length+_<_;rw[sV,B];exact du (OW J 17)<|by decide)
def dM.M0(d:Nat):∀(s:List (List<|Int×ar))(m:dM),(m.run d s).n=m.n+s.length:=by
 intro s;induction s with
 |nil=>
  exact @λm=>rfl
 |cons g s a=>
  exact @λm=>by show(dM.run d s<|m.next d g).n=_;rw[a];show m.n+1+_=_;simp;exact ef _ _ _
def dM.acM(d:Nat):∀(s:List (List<|Int×ar))(m:dM),(m.run d s).t=m.t+51*s.length:=by
 intro s;induction s with
 |nil=>
  exact @λm=>rfl
 |cons g s a=>
  exact @λm=>by show(dM.run d s<|m.next d g).t=_;rw[a];show m.t+51+_=_;simp;exact ef _ _ _
def dM.MY(d:Nat):∀(s:List (List<|Int×ar))(m:dM)(y:Nat),y≠d->y<m.n->(m.run d s).g y=m.g y:=by
 intro s;induction s with
 |nil=>
  exact @λm y k t=>rfl
 |cons b s a=>
  exact @λm y j e=>by show(dM.run d s<|m.next d b).g y=_;rw[a _ y j (by show y<m.n+1;exact du ‹_›<|b_ _ _)];show cO (cO m.g m.n _) d _ y=_;rw[n1 j,n1<|fs ‹_›]
theorem dM.MZ(d:Nat):∀(s:List (List<|Int×ar))(m:dM)(b:Nat),d<m.n->(e:b<s.length)->(m.run d s).g (m.n+b)=I (b1 (el (m.t+51*b) s[b]) 17)
 |c::s,m,0,a,k=>by
  show(dM.run d s<|m.next d c).g (m.n+0)=_
  rw[dM.MY d s _ _ (i_ a)<|e5 m.n]
  show cO (cO m.g m.n _) d _ (m.n+0)=_
  rw[n1<|i_ a]
  exact lh
 |c::s,m,b+1,a,e=>by
  show(dM.run d s<|m.next d c).g (m.n+(b+1))=_
  have:=dM.MZ d s (m.next d c) b (by show d<m.n+1;exact du ‹_›<|b_ _ _) (by simpa using e)
  rw[show m.n+(b+1)=(m.next d c).n+b from(ef m.n b 1),this]
  show I (b1 (el (m.t+51+51*b) _) 17)=_
  rw[show m.t+51+51*b=m.t+51*(b+1)by exact ef _ _ _]
  rfl
def dM.R_{x:dM}(E:d<x.n)(D:c=x.n+s.length+1) (m:∀y,y<x.n->y≠d->x.g y=a y) (yk:∀w,(p:w<s.length)->a (x.n+w)=I (b1 (el (x.t+51*w) s[w]) 17)) (B:a (x.n+s.length)=I (b1 (iD (x.t+51*s.length) b) b.length)) (C:a d=I (b1 ((x.run d s).last d b).bf ((x.run d s).last d b).k)):ao ((x.run d s).last d b).g c=ao a c:=by
 refine XU<|afW λy A=>?_;have A:y<c:=by simpa using A
 by_cases q:y=d;subst q;rw[C];exact lh;show cO (cO (x.run d s).g (x.run d s).n _) d _ y=_;rw[n1 q];by_cases f:y=x.n+s.length;subst f;rw[B,dM.M0,dM.acM];exact lh;rw[n1 (by rw[dM.M0];exact f)];by_cases F:y<x.n;rw[dM.MY d s x y q F,m y F q];obtain⟨w,rfl⟩:∃w,y=x.n+w:=⟨y -x.n,by exact(Nat.add_sub_of_le<|Gn ‹_›).symm⟩;have p:w<s.length:=xy (m9<|Nat.lt_of_add_lt_add_left<|hy x.n s.length 1▸D▸A) λq=>f<|q▸rfl;rw[dM.MZ d s x w E p,yk w p]
end
section
noncomputable def kk(i:Option (Option aq))(p:Bool):Bool:=p
noncomputable def kp{α β:Type}(a:Option α)(l:Option β):Option β:=l
def kE{n:Type}(k w:Option n):Prop:=kp (#[w][0]?) k=w
inductive aa where
 |none
 |bool (b:Bool)
 |int (i:Int)
 |float (x:UInt64)
 |str (s:Str)
 |tuple (l:List aa)
 |list (l:List aa)
 |obj (c:Addr) (cR:List (Str×aa))
 |dict (cR:List (Str×aa))
 |ref (a:Addr)
 |eb (iY:List Int) (ds:List aa)
 |iX (iY:List Int)
inductive hU:List DictEntry->List Int->List Value->Prop
 |nil:hU [] [] []
 |cons {k t v bf iY bl}:hU bf iY bl->hU (⟨hashInt k,.int k t,v⟩::bf) (k::iY) (v::bl)
def hU.len(j:hU b c x):c.length=x.length:=by induction j with|nil=>rfl|cons _ g=>exact congrArg (·+1) g
def hU.keysOf(j:hU b c x):KeysOf (iN d n) ⟨b⟩:=by
 induction j with
 |nil=>intro f i;simp at i
 |@cons k r a b c x _ g=>
  intro f i;rcases cJ.mp (F4.mpr i)with rfl|i;exact⟨k,Bw ..,rfl⟩;exact g f<|F4.mp i
def hU.pairs(j:hU b c x):Pairs (iN d n) b (c.zip x):=by induction j with|nil=>exact .nil|cons _ g=>exact .cons (Bw ..) rfl g
def hU.dictOf{j:cc}(r:hU b c x)(p:c.Nodup)(f:j.get? i=I ⟨.type "dict",ag,.dict ⟨b⟩ y,#[]⟩):j.DictAt (iN prog w) i (c.zip x) y:=⟨_,_,f,⟨rfl,rfl,rfl⟩,rfl,r.keysOf,r.pairs,by rw[uq<|cL r.len];exact p⟩
def hU.aaQ{j:cc}(T:j.DictOf (iN b f) g i):∃A y,j.get? g=I ⟨.type "dict",ag,.dict ⟨A⟩ y,#[]⟩/\hU A (i.map (·.1)) (i.map (·.2)):=by
 obtain⟨R,⟨A⟩,J,F,⟨B,l,p⟩,b5,m,ao,K⟩:=T;obtain⟨U,d,O,S⟩:=R;dsimp only at B l p b5;subst B l p b5;refine⟨A,J,F,?_⟩;clear F K;replace ao:Pairs (iN b f) A i:=ao;induction ao with
 |nil=>exact .nil
 |@cons H r A i C q P L=>
  obtain⟨k,E,s⟩:=m H (by simp);have:=(iN b f).inj _ _ _ E C;subst this;obtain⟨Q,M,N⟩:=H;obtain⟨V,G⟩:=ahj C;dsimp only at G q s;subst G q s;exact .cons (L λH D=>m H (by simp at D ⊢;exact .inr D))
mutual
inductive Rz(X:Addr->Prop)(h:Heap):Value->aa->Prop
 |none:Rz X h .none .none
 |bool (b):Rz X h (.bool b) (.bool b)
 |int (i t):Rz X h (.int i t) (.int i)
 |float (x t) (n:t≠0):Rz X h (.float x t) (.float x)
 |str (s t):Rz X h (.str s t) (.str s)
 |ref (a):Rz X h (.ref a) (.ref a)
 |tuple {a bl ds n}:¬X a->h.get? a=some ⟨.type "tuple",none,.seq ⟨bl⟩ n,#[]⟩->RzL X h bl ds->Rz X h (.ref a) (.tuple ds)
 |list {a bl ds n}:¬X a->h.get? a=some ⟨.type "list",none,.seq ⟨bl⟩ n,#[]⟩->RzL X h bl ds->Rz X h (.ref a) (.list ds)
 |obj {a d' C bf n cR}:¬X a->¬X d'->h.get? a=some (instObj C d')->h.get? d'=some ⟨.type "dict",none,.dict ⟨bf⟩ n,#[]⟩->c4 X h bf cR->Rz X h (.ref a) (.obj C cR)
 |dict {a bf n cR}:¬X a->(a==sysModules)=false->h.get? a=some ⟨.type "dict",none,.dict ⟨bf⟩ n,#[]⟩->c4 X h bf cR->Rz X h (.ref a) (.dict cR)
 |eb {a bf n iY bl ds}:¬X a->(a==sysModules)=false->h.get? a=some ⟨.type "dict",none,.dict ⟨bf⟩ n,#[]⟩->hU bf iY bl->iY.Nodup->RzL X h bl ds->Rz X h (.ref a) (.eb iY ds)
 |iX {a aQ n iY}:¬X a->h.get? a=some aQ->(aQ.ExactSet/\n<scanBound)->aQ.IntSetOf (λk=>iY.contains k) n->Rz X h (.ref a) (.iX iY)
inductive RzL(X:Addr->Prop)(h:Heap):List Value->List aa->Prop
 |nil:RzL X h [] []
 |cons {v bl d ds}:Rz X h v d->RzL X h bl ds->RzL X h (v::bl) (d::ds)
inductive c4(X:Addr->Prop)(h:Heap):List DictEntry->List (Str×aa)->Prop
 |nil:c4 X h [] []
 |cons {oN x t v bf d ds}:Rz X h v d->c4 X h bf ds->c4 X h (⟨oN,.str x t,v⟩::bf) ((x,d)::ds)
end
section
variable{X:aE->Prop}{h:cc}{v:aq}{G:Prop}
def HM(X:aE->Prop)(h:cc)(v:aq)(G:Prop):aa->Prop|.none=>(v=.none->G)->G|.bool p=>(v=.bool p->G)->G|.int y=>(∀r,v=.int y r->G)->G|.float m=>(∀r,r≠0->v=.float m r->G)->G|.str m=>(∀r,v=.str m r->G)->G|.ref d=>(v=.ref d->G)->G|.tuple e=>(∀d l q,¬X d->h.get? d=I ⟨.type "tuple",ag,.seq ⟨l⟩ q,#[]⟩->RzL X h l e->v=.ref d->G)->G|.list e=>(∀d l q,¬X d->h.get? d=I ⟨.type "list",ag,.seq ⟨l⟩ q,#[]⟩->RzL X h l e->v=.ref d->G)->G|.dict s=>(∀d f q,¬X d->(d==lz)=au->h.get? d=I ⟨.type "dict",ag,.dict ⟨f⟩ q,#[]⟩->c4 X h f s->v=.ref d->G)->G|.obj g s=>(∀d j f q,¬X d->¬X j->h.get? d=I (mu g j)->h.get? j=I ⟨.type "dict",ag,.dict ⟨f⟩ q,#[]⟩->c4 X h f s->v=.ref d->G)->G|.eb c e=>(∀d f q l,¬X d->(d==lz)=au->h.get? d=I ⟨.type "dict",ag,.dict ⟨f⟩ q,#[]⟩->hU f c l->c.Nodup->RzL X h l e->v=.ref d->G)->G|.iX c=>(∀d w q,¬X d->h.get? d=I w->(w.ExactSet/\q<PY)->w.IntSetOf (λk=>c.contains k) q->v=.ref d->G)->G
def Rz.inv(f:Rz X h v d):HM X h v G d:=f.casesOn (motive_1:=λv d _=>HM X h v G d) (λk=>k rfl) (λ_ k=>k rfl) (λ_ e k=>k e rfl) (λ_ e g k=>k e g rfl) (λ_ e k=>k e rfl) (λ_ k=>k rfl) (λm b a k=>k _ _ _ m b a rfl) (λm b a k=>k _ _ _ m b a rfl) (λm b a c q k=>k _ _ _ _ m b a c q rfl) (λm b a c k=>k _ _ _ m b a c rfl) (λm b a c q f k=>k _ _ _ _ m b a c q f rfl) λm b a c k=>k _ _ _ m b a c rfl
def Rz.nK(w:Rz X h v .none):(v=.none->G)->G:=w.inv
def Rz.bK(w:Rz X h v (.bool p)):(v=.bool p->G)->G:=w.inv
def Rz.iK(w:Rz X h v (.int y)):(∀a,v=.int y a->G)->G:=w.inv
def Rz.fK(w:Rz X h v (.float m)):(∀a,a≠0->v=.float m a->G)->G:=w.inv
def Rz.sK(w:Rz X h v (.str m)):(∀a,v=.str m a->G)->G:=w.inv
def Rz.rK{i}(w:Rz X h v (.ref i)):(v=.ref i->G)->G:=w.inv
def Rz.tK(w:Rz X h v (.tuple b)):(∀i x y,¬X i->h.get? i=I ⟨.type "tuple",ag,.seq ⟨x⟩ y,#[]⟩->RzL X h x b->v=.ref i->G)->G:=w.inv
def Rz.lK(w:Rz X h v (.list b)):(∀i x y,¬X i->h.get? i=I ⟨.type "list",ag,.seq ⟨x⟩ y,#[]⟩->RzL X h x b->v=.ref i->G)->G:=w.inv
def Rz.dK(w:Rz X h v (.dict s)):(∀i b y,¬X i->(i==lz)=au->h.get? i=I ⟨.type "dict",ag,.dict ⟨b⟩ y,#[]⟩->c4 X h b s->v=.ref i->G)->G:=w.inv
def Rz.eH(w:Rz X h v (.eb c b)):(∀i d y x,¬X i->(i==lz)=au->h.get? i=I ⟨.type "dict",ag,.dict ⟨d⟩ y,#[]⟩->hU d c x->c.Nodup->RzL X h x b->v=.ref i->G)->G:=w.inv
def Rz.aeF(w:Rz X h v (.iX c)):(∀i d y,¬X i->h.get? i=I d->(d.ExactSet/\y<PY)->d.IntSetOf (λk=>c.contains k) y->v=.ref i->G)->G:=w.inv
def HN(X:aE->Prop)(h:cc)(x:List aq)(G:Prop):List aa->Prop|[]=>(x=[]->G)->G|d::a=>(∀v l,Rz X h v d->RzL X h l a->x=v::l->G)->G
def RzL.inv(w:RzL X h x c):HN X h x G c:=w.casesOn (motive_2:=λx c _=>HN X h x G c) (λk=>k rfl) λi p k=>k _ _ i p rfl
def RzL.nK(w:RzL X h x []):(x=[]->G)->G:=w.inv
def RzL.cK(w:RzL X h x (d::a)):(∀v l,Rz X h v d->RzL X h l a->x=v::l->G)->G:=w.inv
def RzL.TM(w:RzL X h (v::x) (d::c))(k:Rz X h v d->RzL X h x c->G):G:=by cases w with|cons i p=>exact k i p
def RzL.nV(w:RzL X h [] a)(k:a=[]->G):G:=by cases w;exact k rfl
def RzL.cV(w:RzL X h (v::x) c)(k:∀d j,Rz X h v d->RzL X h x j->c=d::j->G):G:=by cases w with|cons i p=>exact k _ _ i p rfl
def RzL.cN{v bl}(r:RzL X h (v::bl) []):G:=by cases r
def RzL.nC(w:RzL X h [] (d::a)):G:=by cases w
end
def fz(d:cC):Prop:=d.cls=.type "code"/\∃s,d.data=.fields s
def wy{j:cc}{i:aE}{d:cC}(f:j.get? i=I d)(y:¬fz d):∀w,j.get? i=I w->¬fz w:=λw b=>by rw[f]at b;cases b;exact y
def L3{xs:Array aq}:¬fz ⟨m,d,.seq xs y,p⟩:=λj=>by obtain⟨k,s,f⟩:=j;cases f
def D1{j:cc}{i:aE}{c:ar->Option aq}(y:j.Ns i c):∀g,j.get? i=I g->¬fz g:=λg f q=>by obtain⟨w,p,t,b,d,k⟩:=y;rw[f]at b;cases b;obtain⟨k,s,l⟩:=q;rw[d]at l;cases l
set_option genInjectivity false in
structure bC where
 prog:Program
 w:World
 T:Addr->Prop
 P:Addr->Prop
 G:Addr
 B:Addr
 ew:Heap->Prop
 lb:∀h hl:Heap,ew h->(∀b aQ,T b\/P b\/fz aQ->h.get? b=some aQ->hl.get? b=some aQ)->ew hl
 Ag:∀(h:Heap)(a:Addr),ew h->P a->∃aQ,h.get? a=some aQ
 booked:∀h,ew h->NoneBooked h
 w8:∀h,ew h->∃aQ,h.get? sysModules=some aQ
def bC.keeps(g:bC)(j y:cc)(r:g.ew j)(k:∀p d,j.get? p=I d->y.get? p=I d):g.ew y:=g.lb j y r λp d a f=>k p d f
def bC.step(g:bC)(j y:cc)(i:aE)(bW:¬g.T i)(c:¬g.P i)(l:∀d,j.get? i=I d->¬fz d)(r:g.ew j)(k:xG i j y):g.ew y:=g.lb j y r λp d s f=>(k.2 p λq=>by subst q;exact s.elim bW λx=>x.elim c<|l d f).trans f
variable{C:bC}
structure ak(C:bC)(s J:Shared):Prop where
 same:∃h ey,J={s with heap:=h,toks:=ey}
 keep:∀b aQ,s.heap.get? b=some aQ->¬C.T b->J.heap.get? b=some aQ
 tabs:∀b,C.T b->∀bP,s.heap.get? b=some (tableObj bP)->∃more,J.heap.get? b=some (tableObj<|bP++more)
 ok:C.ew s.heap->C.ew J.heap
 toks:s.toks<=J.toks
def ak.refl(l:ax):ak C l l:=⟨⟨_,_,rfl⟩,λk k f k=>f,λk k n f=>⟨#[],by simpa using f⟩,id,bM _⟩
def ak.trans(i:ak C l J)(p:ak C J cX):ak C l cX:=by refine⟨?_,λg d f r=>p.keep g d (i.keep g d f r) r,λg r n f=>?_,λj=>p.ok<|i.ok j,aC i.toks p.toks⟩;obtain⟨j,k,rfl⟩:=i.same;obtain⟨y,q,rfl⟩:=p.same;exact⟨_,_,rfl⟩;obtain⟨c,f⟩:=i.tabs g r n f;obtain⟨w,f⟩:=p.tabs g r _ f;exact⟨c++w,by rw[f,AS]⟩
def ak.of_keep{s:ax}{h:cc}{ey:Nat}(k:∀p d,s.heap.get? p=I d->h.get? p=I d)(y:s.toks<=ey:=by first|exact bM _|exact lp _|assumption|exact b_ _ 2|exact b_ _ 3):ak C s {s with heap:=h,toks:=ey}:=⟨⟨_,_,rfl⟩,λp d f a=>k p d f,λp a c f=>⟨#[],by simpa using k p _ f⟩,λr=>C.keeps _ _ r k,y⟩
def ak.tok{l:ax}{k:Nat}(y:l.toks<=k:=by first|exact bM _|exact lp _|assumption|exact b_ _ 2|exact b_ _ 3):ak C l {l with toks:=k}:=⟨⟨_,_,rfl⟩,λa a f a=>f,λa a b f=>⟨#[],by simpa using f⟩,id,y⟩
theorem ak.push{s:ax}{d:cC}{ey:Nat}(y:s.toks<=ey:=by first|exact bM _|exact lp _|assumption|exact b_ _ 2|exact b_ _ 3):ak C s {s with heap:=s.heap.push d,toks:=ey}:=ak.of_keep (λk k f=>dS _ f) y
theorem ak.some{l J:ax}(g:ak C l J){p:aE}{d:cC}(f:l.heap.get? p=I d)(a:C.T p->∃n,d=r' n):∃w,J.heap.get? p=I w:=by by_cases r:C.T p;obtain⟨n,rfl⟩:=a r;obtain⟨c,f⟩:=g.tabs p r n f;exact⟨_,f⟩;exact⟨d,g.keep p d f r⟩
def BY(c s:aE->Prop)(j y:cc):Prop:=∀p d,¬c p->j.get? p=I d->¬s p/\y.get? p=I d
def Rz.map(k:BY f s j y)(w:Rz f j t d):Rz s y t d:=Rz.rec (motive_1:=λt d x=>Rz s y t d) (motive_2:=λt d x=>RzL s y t d) (motive_3:=λt d x=>c4 s y t d) .none .bool .int .float .str .ref (λn p x g=>.tuple (k _ _ n p).1 (k _ _ n p).2 g) (λn p x g=>.list (k _ _ n p).1 (k _ _ n p).2 g) (λn p g d x C=>.obj (k _ _ n g).1 (k _ _ p d).1 (k _ _ n g).2 (k _ _ p d).2 C) (λn B p x g=>.dict (k _ _ n p).1 B (k _ _ n p).2 g) (λn B p A q x g=>.eb (k _ _ n p).1 B (k _ _ n p).2 A q g) (λn p D A=>.iX (k _ _ n p).1 (k _ _ n p).2 D A) .nil (λx x n p=>.cons n p) .nil (λx x n p=>.cons n p) w
def RzL.map(k:BY f s j y)(w:RzL f j t d):RzL s y t d:=RzL.rec (motive_1:=λt d x=>Rz s y t d) (motive_2:=λt d x=>RzL s y t d) (motive_3:=λt d x=>c4 s y t d) .none .bool .int .float .str .ref (λn p x g=>.tuple (k _ _ n p).1 (k _ _ n p).2 g) (λn p x g=>.list (k _ _ n p).1 (k _ _ n p).2 g) (λn p g d x C=>.obj (k _ _ n g).1 (k _ _ p d).1 (k _ _ n g).2 (k _ _ p d).2 C) (λn B p x g=>.dict (k _ _ n p).1 B (k _ _ n p).2 g) (λn B p A q x g=>.eb (k _ _ n p).1 B (k _ _ n p).2 A q g) (λn p D A=>.iX (k _ _ n p).1 (k _ _ n p).2 D A) .nil (λx x n p=>.cons n p) .nil (λx x n p=>.cons n p) w
def c4.map(k:BY f s j y)(w:c4 f j t d):c4 s y t d:=c4.rec (motive_1:=λt d x=>Rz s y t d) (motive_2:=λt d x=>RzL s y t d) (motive_3:=λt d x=>c4 s y t d) .none .bool .int .float .str .ref (λn p x g=>.tuple (k _ _ n p).1 (k _ _ n p).2 g) (λn p x g=>.list (k _ _ n p).1 (k _ _ n p).2 g) (λn p g d x C=>.obj (k _ _ n g).1 (k _ _ p d).1 (k _ _ n g).2 (k _ _ p d).2 C) (λn B p x g=>.dict (k _ _ n p).1 B (k _ _ n p).2 g) (λn B p A q x g=>.eb (k _ _ n p).1 B (k _ _ n p).2 A q g) (λn p D A=>.iX (k _ _ n p).1 (k _ _ n p).2 D A) .nil (λx x n p=>.cons n p) .nil (λx x n p=>.cons n p) w
def c4.ind{X:aE->Prop}{h:cc}{P:∀bf cR,c4 X h bf cR->Prop}(n:P [] [] .nil)(c:∀{oN x t v bf d cR}(a:Rz X h v d)(b:c4 X h bf cR),P bf cR b->P (⟨oN,.str x t,v⟩::bf) ((x,d)::cR) (.cons a b)){bf:List e6}{cR:List (ar×aa)}(r:c4 X h bf cR):P bf cR r:=c4.rec (motive_1:=λ_ _ _=>True) (motive_2:=λ_ _ _=>True) (motive_3:=P) trivial (λ_=>trivial) (λ_ _=>trivial) (λ_ _ _=>trivial) (λ_ _=>trivial) (λ_=>trivial) (λ_ _ _ _=>trivial) (λ_ _ _ _=>trivial) (λ_ _ _ _ _ _=>trivial) (λ_ _ _ _ _=>trivial) (λ_ _ _ _ _ _ _=>trivial) (λ_ _ _ _=>trivial) trivial (λ_ _ _ _=>trivial) n (λa b _ e=>c a b e) r
def Rz.mono(k:∀p a,¬c p->j.get? p=I a->hl.get? p=I a)(w:Rz c j t d):Rz c hl t d:=w.map λp a y f=>⟨y,k p a y f⟩
def Rz.less(k:∀p,s p->c p)(w:Rz c j t d):Rz s j t d:=w.map λp i a f=>⟨λg=>a<|k p g,f⟩
def Rz.more(k:∀p a,j.get? p=I a->Y p->c p)(w:Rz c j t d):Rz Y j t d:=w.map λp a g f=>⟨λi=>g<|k p a f i,f⟩
def RzL.mono(k:∀p a,¬c p->j.get? p=I a->hl.get? p=I a)(w:RzL c j t d):RzL c hl t d:=w.map λp a y f=>⟨y,k p a y f⟩
def RzL.less(k:∀p,s p->c p)(w:RzL c j t d):RzL s j t d:=w.map λp i a f=>⟨λg=>a<|k p g,f⟩
def RzL.more(k:∀p a,j.get? p=I a->Y p->c p)(w:RzL c j t d):RzL Y j t d:=w.map λp a g f=>⟨λi=>g<|k p a f i,f⟩
def c4.mono(k:∀p a,¬c p->j.get? p=I a->hl.get? p=I a)(w:c4 c j t d):c4 c hl t d:=w.map λp a y f=>⟨y,k p a y f⟩
def c4.less(k:∀p,s p->c p)(w:c4 c j t d):c4 s j t d:=w.map λp i a f=>⟨λg=>a<|k p g,f⟩
def c4.more(k:∀p a,j.get? p=I a->Y p->c p)(w:c4 c j t d):c4 Y j t d:=w.map λp a g f=>⟨λi=>g<|k p a f i,f⟩
theorem RzL.length:∀{a x},RzL c j x a->x.length=a.length|[]=>λw=>w.nK λf=>f▸rfl|Z::t=>λw=>w.cK λZ Z Z p f=>f▸congrArg (·+1) p.length
def RzL.RM(q:RzL c f l j):∀{d x},RzL c f x d->RzL c f (x++l) (d++j):=by
 intro d;induction d with
 |nil=>
  exactλw=>w.nK λm=>m▸q
 |cons k t g=>
  exactλw=>w.cK λk k i p m=>m▸.cons i (g p)
def RzL.append(w:RzL c b x a)(q:RzL c b l j):RzL c b (x++l) (a++j):=RzL.RM q w
theorem RzL.get:∀{f x},RzL c j x f->∀{i:Nat},f[i]?=I d->∃k,x[i]?=I k/\Rz c j k d|[],Z,t,s=>@λg=>nS g|Z::t,s,w,0=>@λg=>w.cK λk Z l Z q=>q▸⟨k,rfl,aS g▸l⟩|Z::t,s,w,i+1=>@λg=>w.cK λZ Z Z p q=>q▸p.get (i:=i) g
theorem RzL.take:∀{d x},RzL c j x d->∀y,RzL c j (x.take y) (d.take y)|Z,t,s,0=>.nil|[],Z,w,t+1=>w.nK λf=>f▸.nil|Z::t,s,w,y+1=>w.cK λZ Z i p f=>f▸.cons i (p.take y)
theorem RzL.drop:∀{a x},RzL c j x a->∀y,RzL c j (x.drop y) (a.drop y)|Z,t,w,0=>w|[],Z,w,t+1=>w.nK λf=>f▸.nil|Z::t,s,w,y+1=>w.cK λZ Z Z p f=>f▸p.drop y
structure bh(C:bC)(X:Addr->Prop)(A:Around)(fuel:Nat)(s:Shared):Prop where
 handled:A.handled=none
 depth:A.depth+fuel<1000
 units:A.units+4*fuel<9000
 guards:A.guards=some []
 cA:∀a,X a->∃aQ,s.heap.get? a=some aQ/\(C.T a->∃bP,aQ=tableObj bP)
 aT:∀a,C.T a->X a
 ok:C.ew s.heap
 tok:s.toks≠0
def bh.ext(h:bh C c r y l)(j:ak C l J):bh C c r y J:=⟨h.handled,h.depth,h.units,h.guards,λi p=>by
  obtain⟨d,f,B⟩:=h.cA i p;by_cases b:C.T i;obtain⟨w,rfl⟩:=B b;obtain⟨D,f⟩:=j.tabs i b w f;exact⟨_,f,λk=>⟨_,rfl⟩⟩;exact⟨d,j.keep i d f b,λq=>absurd q b⟩,h.aT,j.ok h.ok,λf=>h.tok<|Gq.mp<|f▸j.toks⟩
theorem bh.mono(i:bh C c f y l)(m:ak C l J)(w:Rz c l.heap a d):Rz c J.heap a d:=w.mono λp k j h=>m.keep p k h λq=>j<|i.aT p q
def bh.fR(i:bh C c f y l)(m:ak C l J)(w:RzL c l.heap a d):RzL c J.heap a d:=w.mono λp k j h=>m.keep p k h λq=>j<|i.aT p q
def bh.fuel(e:bh C c r y l)(j:a<=y):bh C c r a l:=⟨e.handled,cH (gy j _) e.depth,cH (gy (kJ 4 j) _) e.units,e.guards,e.cA,e.aT,e.ok,e.tok⟩
def bh.fresh(a:bh C c r y l):¬c l.heap.objs.size:=λae=>by obtain⟨d,f,k⟩:=a.cA _ ae;exact absurd (fe f)<|jZ _
set_option genInjectivity false in
structure bX where
 env:Env
 X:Addr->Prop
 Y:Addr->Prop
 A:Around
 fuel:Nat
 pin:Str->Option Value:=λ_=>.none
def mz(C:bC)(g:bX)(b:ct aq)(r:ax)(d:aa):Prop:=∀l,ak C r l->bh C g.X g.A g.fuel l->∀(h:aq->ax->Prop)(f:aq->ax->Prop),(∀a J,ak C l J->Rz g.X J.heap a d->h a J)->aB (aK C.prog C.w) g.A b h f l
abbrev bq(C:bC)(g:bX)(f:ai)(r:ax)(d:aa):Prop:=mz C g (cn f g.env) r d
def j'(C:bC)(g:bX)(k:List (Bool×ct aq))(r:ax)(q:List aa):Prop:=∀a,ak C r a->bh C g.X g.A g.fuel a->∀(h:List aq->ax->Prop)(f:aq->ax->Prop),(∀x J,ak C a J->RzL g.X J.heap x q->h x J)->aB (aK C.prog C.w) g.A (spliced k) h f a
def pO(C:bC)(e:aq->ct aq)(i d:aa):Prop:=∀(c:aE->Prop)(r:dI)(y:Nat)(l:ax)(t:aq),bh C c r y l->Rz c l.heap t i->∀(h:aq->ax->Prop)(b:aq->ax->Prop),(∀t J,ak C l J->Rz c J.heap t d->h t J)->aB (aK C.prog C.w) r (e t) h b l
def dk(C:bC)(j:aq->aq->ct aq)(i p d:aa):Prop:=∀(c:aE->Prop)(r:dI)(y:Nat)(l:ax)(t e:aq),bh C c r y l->Rz c l.heap t i->Rz c l.heap e p->∀(h:aq->ax->Prop)(g:aq->ax->Prop),(∀t J,ak C l J->Rz c J.heap t d->h t J)->aB (aK C.prog C.w) r (j t e) h g l
def cM(C:bC)(e:aq)(y:List aa)(b:Nat)(d:aa):Prop:=∀(c:aE->Prop)(r:dI)(l:ax)(x:List aq),bh C c r b l->RzL c l.heap x y->∀(h:aq->ax->Prop)(a:aq->ax->Prop),(∀t J,ak C l J->Rz c J.heap t d->h t J)->aB (aK C.prog C.w) r (e8 e x []) h a l
def FW(n:d () e):aB c j (release x m) d f e:=by
 unfold release;generalize(x.filter λ|.ref Z=>ab|Z=>au)=k;induction k with
 |nil=>exact aY n
 |cons i w g=>
  cases w with|nil=>exact aY n|cons p w=>exact av<|c6<|uT g
def qv(j:aB c r b a f l):aB c r (xS x b) a f l:=by unfold xS;exact av<|c6<|ff j (λt J q=>av<|FW<|aY q) λk k d=>d
section
variable{c:bX}{bb:ax}
def mz.bind(G:mz C c j bb d) (k:∀l t,ak C bb l->bh C c.X c.A c.fuel l->Rz c.X l.heap t d->∀(a:aq->ax->Prop)(e:aq->ax->Prop),(∀t J,ak C l J->Rz c.X J.heap t b->a t J)->aB (aK C.prog C.w) c.A (i t) a e l):mz C c (j>>=i) bb b:=by intro l F D a e q;exact av<|G l F D _ _ λt J B H=>k J t (F.trans B) (D.ext B) H _ _ λp cX I n=>q p cX (B.trans I) n
theorem bq.int{i:Int}{k:Nat}{pos:a7}:bq C c (.Constant (.int i) k pos) bb (.int i):=λs x g Q E q=>by show aB _ _ (G9 i) _ _ _;exactλZ Z Z=>q _ _ ak.tok<|.int i _
theorem bq.float:bq C c (.Constant (.float y) k j) bb (.float y):=λl m e h f q=>by show aB _ _ (mkFloat y) _ _ _;exactλa a a=>q _ _ ak.tok<|.float y _ e.tok
theorem bq.str:bq C c (.Constant (.str y) k j) bb (.str y):=λl m e h f q=>by show aB _ _ (sk y) _ _ _;exactλa a a=>q _ _ ak.tok<|.str y _
theorem bq.bool:bq C c (.Constant (.bool y) k j) bb (.bool y):=λl m e h f q=>aY<|q _ _ (ak.refl l)<|.bool y
theorem bq.none:bq C c (.Constant .none k j) bb .none:=λl m e h f q=>aY<|q _ _ (ak.refl l) .none
def bq.binop(H:bq C c k bb a)(i:bq C c w bb b)(I:dk C (eK e) a b d):bq C c (.BinOp k e w j) bb d:=by intro M m G P f q;rw[PI];refine av<|H M m G _ _ λt n h p=>av<|c6<|i n (m.trans h) (G.ext h) _ _ λN F B D=>av<|dc<|qv ?_;exact I c.X c.A c.fuel F t N ((G.ext h).ext B) ((G.ext h).mono B p) D _ _ λL J O K=>q L J ((h.trans B).trans O) K
def bq.unop(F:bq C c f bb i)(w:pO C (Hf b) i d):bq C c (.UnaryOp b f j) bb d:=by intro l m D I H q;rw[arm_eval_UnaryOp];refine av<|F l m D _ _ λt n k p=>av<|dc<|c6 ?_;exact w c.X c.A c.fuel n t (D.ext k) p _ _ λr J G B=>q r J (k.trans G) B
end
end
set_option genSizeOfSpec false
open Lean in
local macro_rules (kind := Lean.Parser.Tactic.cases)
  | s => do
    let h : TSyntax `term := ⟨s[1][0][1]⟩
    if !h.raw.isIdent || !s[3].isNone then Macro.throwUnsupported
    let f := fun (k : Name × Nat) => do
      let c := mkIdent (`Mine ++ k.1)
      if k.2 == 9 then `(tacticSeq| exact $c $h) else `(tacticSeq| (refine $c $h ?_; clear $(⟨h.raw⟩); (iterate $(quote k.2) intro _); intro e; first | subst e | cases (e)))
    let a ← [(`nS, 9), (`sN, 9), (`fT, 9), (`tF, 9), (`sK, 0), (`Rz.iK, 1), (`Rz.sK, 1), (`Rz.fK, 2), (`Rz.nK, 0), (`Rz.bK, 0), (`Rz.rK, 0), (`Rz.lK, 6), (`Rz.tK, 6), (`Rz.dK, 7), (`RzL.cN, 9), (`RzL.nC, 9), (`RzL.nK, 0), (`RzL.nV, 0), (`RzL.cK, 4), (`RzL.cV, 4)].toArray.mapM f
    `(tactic| first | with_reducible first $[| $(a.extract 0 5)]* | first $[| $(a.extract 5 99)]* | (rcases $h:term with ⟨⟩) | cases ($h))
open Lean in
local macro_rules (kind := ident)
  | s => if s.getId == `z then `(by first | (refine (?_ : Mine.kk (PySem.W.getL "" []) _ = true); k_get) | (refine (?_ : Mine.kE _ _); refine (?_ : Mine.kp (#[_][0]?) _ = _); k_slotget) | kernel_rfl | decide) else if s.getId == `o then `(by assumption) else Macro.throwUnsupported
section
variable{C:bC}
def bH(C:bC)(j:cc)(q:kK)(b:ar)(t:aq):Prop:=q.scope.kind=.function/\(b==("__debug__":ar))=au/\(b==("__classdict__":ar))=au/\((q.kindOf b=I .local/\¬C.T q.locals/\∃c,j.Ns q.locals c/\c b=I t)\/((q.kindOf b=I .cell\/q.kindOf b=I .free)/\∃i,q.cells.lookup b=I i/\¬C.T i/\j.IsCell i (I t)))
def nP{j y:cc}(g:j.Ns i c)(k:∀d,j.get? i=I d->y.get? i=I d):y.Ns i c:=let⟨d,b,t,f,w⟩:=g;⟨d,b,t,k d f,w⟩
def pW{j y:cc}(c:j.IsCell i t)(k:∀b,j.get? i=I b->y.get? i=I b):y.IsCell i t:=let⟨b,f,d⟩:=c;⟨b,k b f,d⟩
def bH.ext(H:bH C g.heap f i h)(A:ak C g J):bH C J.heap f i h:=by obtain⟨B,D,E,d⟩:=H;refine⟨B,D,E,?_⟩;rcases d with⟨k,r,G,p,j⟩|⟨k,ad,F,r,w⟩;exact .inl ⟨k,r,G,nP p λq j=>A.keep _ q j r,j⟩;exact .inr ⟨k,ad,F,r,pW w λq j=>A.keep _ q j r⟩
def bH.load(J:bH C i.heap g w p)(D:j p i):aB y r (loadName g w) j f i:=by obtain⟨B,L,H,d⟩:=J;rcases d with⟨k,K,N,F,I⟩|⟨k,ad,G,K,q⟩;exact wpAny_loadName_local B k F I D;rcases k with k|k;exact wpAny_loadName_cell B k G q D;exact wpAny_loadName_free B k G q D H
def mw(C:bC)(g:bX)(l:ax)(m:ar)(d:aa):Prop:=∃t,bH C l.heap g.env m t/\Rz g.X l.heap t d
theorem mw.ext(j:mw C e l m d)(h:bh C e.X e.A e.fuel l)(f:ak C l J):mw C e J m d:=let⟨t,i,p⟩:=j;⟨t,i.ext f,h.mono f p⟩
section
variable{c:bX}{bb:ax}
def bq.name(D:mw C c bb m d)(k:∀i,C.T i->c.X i):bq C c (.Name m j) bb d:=by intro l B K J I q;obtain⟨H,n,w⟩:=D;exact BE (bH.load (n.ext B)<|q H l (ak.refl l)<|w.mono λp F A f=>B.keep p F f λG=>A<|k p G) n.2.1
def ng(C:bC)(c:bX)(b:ai)(d:aq):Prop:=∀l,bh C c.X c.A c.fuel l->∀(h:aq->ax->Prop)(a:aq->ax->Prop),h d l->aB (aK C.prog C.w) c.A (cn b c.env) h a l
def Hp(C:bC)(q:kK)(m:ar)(t:aq):Prop:=q.scope.kind=.function/\q.kindOf m=I .globalImplicit/\(m==("__debug__":ar))=au/\∀j,C.ew j->∃y,j.Ns q.globals y/\(y m=I t\/(y m=ag/\∃r,j.Ns q.builtins r/\r m=I t))
def ng.name(D:Hp C c.env m t):ng C c (.Name m j) t:=by intro l e G f q;obtain⟨i,p,d,k⟩:=D;obtain⟨y,A,w⟩:=k l.heap e.ok;refine Name_function_global i p ?_ d;rcases w with w|⟨w,F,B,n⟩;exact loadGlobal_global A w q;exact loadGlobal_builtin A w B n q
theorem j'.nil:j' C c [] bb []:=λl m e h f q=>aY<|q [] l (ak.refl l) .nil
theorem j'.cons{D:ct aq}{e:List (Bool×ct aq)}{d:aa}{k:List aa}(j:mz C c D bb d)(i:j' C c e bb k):j' C c ((au,D)::e) bb (d::k):=by intro l m A H f q;refine r7<|j l m A _ _ λG n b w=>i n (m.trans b) (A.ext b) _ _ λB a F p=>q (G::B) a (b.trans F)<|.cons ((A.ext b).mono F w) p
def e9(C:bC)(c:bX)(b:List ai)(bb:ax)(q:List aa):Prop:=∀j,j' C c (j1 j<|ha b c.env) bb q/\(j1 j<|ha b c.env).any (·.1)=au
theorem e9.nil:e9 C c [] bb []:=λj=>⟨j'.nil,rfl⟩
theorem e9.cons{e:ai}{b:List ai}{d:aa}{q:List aa}(f:bq C c e bb d)(i:e9 C c b bb q)(a:ha (e::b) c.env=(au,cn e c.env)::ha b c.env:=by rfl):e9 C c (e::b) bb (d::q):=by
 intro j;have s:j1 j (ha (e::b) c.env)=(au,cn e c.env)::j1 j (ha b c.env):=by rw[a];rfl
 rw[s];exact⟨j'.cons f (i j).1,(i j).2⟩
def gw:pC=16777216:=z
theorem bq.tuple(d:e9 C c b bb ds)(i:ds.length<=1000000):bq C c (.Tuple b k j) bb (.tuple ds):=by intro l m e t f q;rw[aht];refine av<|dc<|av<|(d j).1 l m e _ _ λp n a w=>?_;refine ahU (q _ _ (a.trans ak.push)<|.tuple (e.ext a).fresh (dE _ rfl)<|(e.ext a).fR (ak.push (ey:=n.toks)) w) (by rw[w.length,gw];exact aC o z)
theorem bq.list{b:List ai}{j:a7}{a:List aa}(i:e9 C c b bb a)(k:a.length<=1000000):bq C c (.List b j) bb (.list a):=by intro l m e p f q;rw[Bo];refine av<|dc<|av<|(i j).1 l m e _ _ λbl n d w=>?_;refine x3 (q _ _ (d.trans ak.push)<|.list (e.ext d).fresh (dE _ rfl)<|(e.ext d).fR (ak.push (ey:=n.toks)) w) (by rw[w.length,gw];exact aC o z)
def zb(B:k.any (·.1)=au)(F:j' C c k bb i)(G:ak C bb a)(D:bh C c.X c.A c.fuel a)(q:∀n J,ak C a J->RzL c.X J.heap n i->d ⟨n,[]⟩ J):aB (aK C.prog C.w) c.A (PQ m ab k []) d j a:=by rcases k with _|⟨⟨p,L⟩,K⟩;have:=F a G D (λn J=>d ⟨n,[]⟩ J) j q;unfold PQ;show aB _ _ (spliced []>>=_) _ _ _;exact av<|ff this (λn J y=>c6<|av<|aY<|av<|aY<|aY y) λH H I=>I;cases p;exact Ph<|F a G D (λn J=>d ⟨n,[]⟩ J) j q;simp at B
def ei(C:bC)(s:aq):Prop:=∀j,C.ew j->∃k,(k=uH\/k=uI)/\uK (aK C.prog C.w) j (qO s) k
def ei.blt(id:String):ei C (.builtin id):=λj k=>⟨_,.inr rfl,PE rfl⟩
def ei.typ(y:String):ei C (.type y):=λj k=>⟨_,.inr rfl,PE rfl⟩
def ei.fn(p:∀j,C.ew j->∃d e,j.get? i=I d/\d.data=.func e):ei C (.ref i):=λj r=>by obtain⟨d,e,c,b⟩:=p j r;refine⟨.frame,.inl rfl,λg m f l k q=>?_⟩;unfold qO;refine av<|wpAny_load (k _ _ c) ?_;rw[b];exact aY q
def yR(I:i.any (·.1)=au)(O:aB (aK C.prog C.w) c.A (PQ d ab i []) (λF p=>F.kw=[]/\(∃k,(k=uH\/k=uI)/\uK (aK C.prog C.w) p.heap (qO d) k)/\aB (aK C.prog C.w) c.A (e8 d (first++F.pos) []) g b p) b n):aB (aK C.prog C.w) c.A (ic j d first i []) g b n:=by
 unfold ic;refine av<|c6<|ff O (λF p R=>?_) λD D N=>N;obtain⟨B,P⟩:=F;obtain⟨rfl,⟨k,H,G⟩,q⟩:=R;refine av<|dc ?_;rw[I];refine av<|G.here ?_;have y:∀{m:ct aq},aB (aK C.prog C.w) c.A m g b p->aB (aK C.prog C.w) c.A (m>>=λL=>fV [L] xT>>=λD=>bg L) g b p:=
  λK=>av<|ff K (λL M J=>av<|c6<|uT<|aY J) λD D S=>S
 rcases H with rfl|rfl;show aB _ _ (if i.length+2*0>30 then e8 d (first++B) []>>=_ else Bq plainCall d (first++B) []>>=_) g b p;split;exact y q;exact y<|wpAny_keep q;exact y q
def I'(K:ei C e)(F:k.any (·.1)=au)(O:j' C c k bb b)(I:cM C e (fd++b) m d)(L:m<=c.fuel)(R:ak C bb a)(G:bh C c.X c.A c.fuel a)(B:RzL c.X a.heap first fd)(q:∀t J,ak C a J->Rz c.X J.heap t d->i t J):aB (aK C.prog C.w) c.A (ic j e first k []) i p a:=by exact yR F<|zb F O R G λN D H P=>⟨rfl,K D.heap (G.ext H).ok,I c.X c.A D (first++N) ((G.ext H).fuel L) ((G.fR H B).append P) _ _ λt J S M=>q t J (H.trans S) M⟩
def bq.call{i:ai}{b:List ai}{j:a7}{r:aq}{ds:List aa}{d:aa}{y:Nat}(a:ng C c i r)(p:e9 C c b bb ds)(w:cM C r ds y d)(B:y<=c.fuel)(A:ei C r) (k:cn (.Call i b [] j) c.env=(cn i c.env>>=λt=>ic j t [] (j1 j<|ha b c.env)<|oa j<|ob [] c.env):=by rfl):bq C c (.Call i b [] j) bb d:=by intro l m e h D q;show aB _ _ (cn (.Call i b [] j) c.env) _ _ _;rw[k];exact av<|a l e _ _<|I' (fd:=[]) A (p j).2 (p j).1 w B m e .nil q
def gb(C:bC)(c:bX)(a:ai)(bb:ax)(p:Bool):Prop:=∀l,ak C bb l->bh C c.X c.A c.fuel l->∀(h:Bool->ax->Prop)(f:aq->ax->Prop),(∀J,ak C l J->h p J)->aB (aK C.prog C.w) c.A (isTrue a c.env<|cn a c.env) h f l
def hQ(C:bC)(g:qJ)(i p:aa)(j:Bool):Prop:=∀(c:aE->Prop)(e:dI)(y:Nat)(l:ax)(t d:aq),bh C c e y l->Rz c l.heap t i->Rz c l.heap d p->∀(h:aq->ax->Prop)(f:aq->ax->Prop),(∀J,ak C l J->h (.bool j) J)->aB (aK C.prog C.w) e (si g t d) h f l
def vm(C:bC)(i:aa)(d:Bool):Prop:=∀(c:aE->Prop)(b:dI)(y:Nat)(l:ax)(t:aq),bh C c b y l->Rz c l.heap t i->∀(h:Bool->ax->Prop)(f:aq->ax->Prop),(∀J,ak C l J->h d J)->aB (aK C.prog C.w) b (xY t) h f l
def AH(j:a p l):aB d r (xY<|.bool p) a f l:=λk k k=>j
def zT(j:nd a f=au):PU [a] [f] [r]=[r]:=by show[ahD a f r]=[r];unfold ahD;rw[j]
def Jk:compareChain j t [a] [w]=(fV [t] w>>=λd=>fG j>>=λk=>xS [t,d]<|si a t d):=rfl
def NP:P2 j t [a] [w]=(fV [t] w>>=λd=>fG j>>=λk=>xS [t,d] (si a t d)>>=λc=>fV [c]<|xY c):=rfl
def aeq:P2 j t [a,f] [w,n]=(fV [t] w>>=λd=>fG j>>=λk=>fV [t,d] (si a t d)>>=λc=>release [t,d] [c]>>=λk=>fV [c,d] (xY c)>>=λp=>if p=ab then P2 j d [f] [n]else bg au):=rfl
def bq.cmp{K w:ai}{op:qJ}{j:a7}{a b:aa}{k:Bool}(G:bq C c K bb a)(i:bq C c w bb b)(I:hQ C op a b k)(H:nd op w=au:=by rfl):bq C c (.Compare K [op] [w] j) bb (.bool k):=by intro L m e N f q;rw[ahs];refine av<|G L m e _ _ λt n h p=>?_;rw[show sj [w] c.env=[cn w c.env]from rfl,zT H];rw[Jk];refine av<|c6<|i n (m.trans h) (e.ext h) _ _ λd F B D=>av<|dc<|qv ?_;exact I c.X c.A c.fuel F t d ((e.ext h).ext B) ((e.ext h).mono B p) D _ _ λJ M=>q _ J ((h.trans B).trans M)<|.bool k
def gb.cmp{K w:ai}{op:qJ}{j:a7}{a b:aa}{k:Bool}(G:bq C c K bb a)(i:bq C c w bb b)(I:hQ C op a b k)(H:nd op w=au:=by rfl):gb C c (.Compare K [op] [w] j) bb k:=by intro L m e N f q;rw[ahu];refine av<|G L m e _ _ λt n h p=>?_;rw[show sj [w] c.env=[cn w c.env]from rfl,zT H];rw[NP];refine av<|c6<|i n (m.trans h) (e.ext h) _ _ λd F B D=>av<|dc<|av<|qv ?_;exact I c.X c.A c.fuel F t d ((e.ext h).ext B) ((e.ext h).mono B p) D _ _ λJ M=>c6<|AH<|q J<|(h.trans B).trans M
def gb.Ue{ab R L:ai}{G f:qJ}{P:a7}{Y S Z:aa}{k O:Bool}(T:bq C c ab bb Y)(i:bq C c R bb S)(m:bq C c L bb Z)(V:hQ C G Y S k)(N:hQ C f S Z O)(U:nd f L=false:=by rfl):gb C c (.Compare ab [G,f] [R,L] P) bb (k&&O):=by
 intro ac W F ag af q;rw[ahu];refine av<|T ac W F _ _ λad n h H=>?_;rw[show PU [G,f] [R,L] (sj [R,L] c.env)=cn R c.env::PU [f] [L] [cn L c.env]from rfl,zT U];rw[aeq];refine av<|c6<|i n (W.trans h) (F.ext h) _ _ λd I B D=>av<|dc<|av<|c6 ?_;refine V c.X c.A c.fuel I ad d ((F.ext h).ext B) ((F.ext h).mono B H) D _ _ λeI p=>?_;refine av<|FW<|av<|c6<|AH ?_;have M:=(h.trans B).trans p;induction k using cq with
 |false=>exact aY<|q eI M
 |true=>
  rw[if_pos rfl,NP];refine av<|c6<|m eI (W.trans M) (F.ext M) _ _ λw K j t=>av<|dc<|av<|qv ?_;refine N c.X c.A c.fuel K d w ((F.ext M).ext j) ((F.ext M).mono j<|((F.ext h).ext B).mono p D) t _ _ λJ ae=>c6<|AH ?_;simpa using q J<|(M.trans j).trans ae
def gb.val{f:ai}{d:aa}{k:Bool}(j:bq C c f bb d)(b:vm C d k)(i:isTrue f c.env (cn f c.env)=(do let t<-cn f c.env;fG f.pos;fV [t] (xY t)):=by rfl):gb C c f bb k:=by intro l m r D B q;rw[i];exact av<|j l m r _ _ λt n a p=>av<|dc<|c6<|b c.X c.A c.fuel n t (r.ext a) p _ _ λJ w=>q J<|a.trans w
def gb.not(d:gb C c f bb k):gb C c (.UnaryOp .Not f j) bb (!k):=by intro l m a n i q;rw[arm_isTrue_UnaryOp];exact av<|d l m a _ _ λJ b=>aY<|q J b
def hP(C:bC)(c:bX)(d:uB)(a:List ai)(bb:ax)(p:Bool):Prop:=∀l,ak C bb l->bh C c.X c.A c.fuel l->∀(h:Bool->ax->Prop)(f:aq->ax->Prop),(∀J,ak C l J->h p J)->aB (aK C.prog C.w) c.A (allTrue d a c.env) h f l
def hP.and_nil:hP C c .And [] bb ab:=λl m e h f q=>aY<|q l<|ak.refl l
def hP.or_nil:hP C c .Or [] bb au:=λl m e h f q=>aY<|q l<|ak.refl l
def hP.and_cons(j:gb C c f bb k)(i:k=true->hP C c .And b bb lS):hP C c .And (f::b) bb (k&&lS):=by intro l m d t r q;rw[ahr];refine av<|j l m d _ _ λn a=>?_;induction k using cq with|false=>exact aY (q n a)|true=>exact i rfl n (m.trans a) (d.ext a) _ _ λJ p=>by simpa using q J<|a.trans p
def hP.or_cons(j:gb C c f bb k)(i:k=false->hP C c .Or b bb lS):hP C c .Or (f::b) bb (k||lS):=by intro l m d t r q;rw[ahr];refine av<|j l m d _ _ λn a=>?_;induction k using cq with|true=>exact aY (q n a)|false=>exact i rfl n (m.trans a) (d.ext a) _ _ λJ p=>by simpa using q J<|a.trans p
theorem gb.op{a:uB}(i:hP C c a b bb k):gb C c (.BoolOp a b j) bb k:=by intro l m e d f q;rw[arm_isTrue_BoolOp];exact i l m e d f q
def bq.Dn(G:gb C c e bb k)(D:k=true->bq C c i bb d)(F:k=false->bq C c p bb d):bq C c (.IfExp e i p j) bb d:=by intro l m B h f q;rw[arm_eval_IfExp];refine av<|G l m B _ _ λn A=>?_;induction k using cq with|true=>exact D rfl n (m.trans A) (B.ext A) _ _ λH J I w=>q H J (A.trans I) w|false=>exact F rfl n (m.trans A) (B.ext A) _ _ λH J I w=>q H J (A.trans I) w
end
def aa7(i p:Int):dk C (eK .Add) (.int i) (.int p) (.int<|i+p):=by intro c r y l t d e w m h f q;cases w;cases m;exact AutoIntOps.add_0<|q _ _ ak.tok<|.int _ _
def abi(i p:Int):dk C (eK .Sub) (.int i) (.int p) (.int<|i -p):=by intro c r y l t d e w m h f q;cases w;cases m;exact AutoIntOps.sub_0<|q _ _ ak.tok<|.int _ _
def abc(i p:Int)(j:Pu i p):dk C (eK .Mult) (.int i) (.int p) (.int<|i*p):=by intro c r y l t d e w m k f q;cases w;cases m;exact AutoIntOps.mul_0 (q _ _ ak.tok<|.int _ _) j
def abb(i p:Int)(j:p≠0):dk C (eK .Mod) (.int i) (.int p) (.int<|i.fmod p):=by intro c r y l t d e w m k f q;cases w;cases m;exact mod_int' j<|q _ _ ak.tok<|.int _ _
def aa'(i p:Int)(j:p≠0)(ao:pv i p=au):dk C (eK .FloorDiv) (.int i) (.int p) (.int<|i.fdiv p):=by intro c r y l t d e w m k f q;cases w;cases m;exact floordiv_int j (q _ _ ak.tok<|.int _ _)<|.inl ao
def abk(i p:Int)(j:p≠0)(k:n_ (d5 (decide (i<0)!=decide (p<0)) i.natAbs p.natAbs)=au):dk C (eK .Div) (.int i) (.int p) (.float<|d5 (decide (i<0)!=decide (p<0)) i.natAbs p.natAbs):=by intro c r y l t d e w m x f q;cases w;cases m;exact AutoIntOps.truediv_2 (by simpa using j) (by rw[k];simp)<|q _ _ ak.tok<|.float _ _ e.tok
def aba(i y:Int)(p:0<=y)(j:(eU i:Int)+y<=2^27):dk C (eK .LShift) (.int i) (.int y) (.int<|i*2^y.toNat):=by intro c r k l t d e w m x f q;cases w;cases m;exact lshift_int_or e.handled (λj=>absurd p<|F_.mpr j) (λb=>j) λb=>q _ _ ak.tok<|.int _ _
def aa_(i p:Int):dk C (eK .BitAnd) (.int i) (.int p) (.int<|GD i p):=by intro c r y l t d e w m h f q;cases w;cases m;exact and_int<|q _ _ ak.tok<|.int _ _
def abf(i p:Int):dk C (eK .BitOr) (.int i) (.int p) (.int<|agx i p):=by intro c r y l t d e w m h f q;cases w;cases m;exact or_int<|q _ _ ak.tok<|.int _ _
def abl(i p:Int):dk C (eK .BitXor) (.int i) (.int p) (.int<|Pg i p):=by intro c r y l t d e w m h f q;cases w;cases m;exact xor_int<|q _ _ ak.tok<|.int _ _
def abh(i y:Int)(p:0<=y):dk C (eK .RShift) (.int i) (.int y) (.int<|if y>=((eU i:Nat):Int)then(if i<0 then -1 else 0)else i.fdiv (2^y.toNat)):=by intro c r k l t d e w m b f q;cases w;cases m;split at q;rename_i j;exact AutoIntOps.rshift_1 (g8.mpr p) j<|q _ _ ak.tok<|.int _ _;rename_i j;exact AutoIntOps.rshift_2 (g8.mpr p) j<|q _ _ ak.tok<|.int _ _
def abg(i p:Int)(B:0<=p)(l:Bc (((eU i:Nat):Int)*p)=au):dk C (eK .Pow) (.int i) (.int p) (.int<|i^p.toNat):=by
 intro K H k M t N L w G J I q;cases w;cases G;by_cases n:p=0;subst n;exact AutoIntOps.pow_0 (by assumption) (by simp) (q _ _ ak.tok<|by simpa using Rz.int 1 _);by_cases x:(i==0||i==1)=ab;have f:i^p.toNat=i:=by simp only[mj,beq_iff_eq]at x;rcases x with rfl|rfl;exact Int.zero_pow λq=>n<|afC (Int.toNat_eq_zero.mp q) B;exact Int.one_pow
 exact AutoIntOps.pow_1 (by assumption) (by simpa using n) x (q _ _ ak.tok (by rw[f];exact .int i _));by_cases y:(i==-1)=ab;have D:i=-1:=by simpa using y
 subst D;refine AutoIntOps.pow_2 (by assumption) (by simpa using n) x y<|q _ _ ak.tok ?_;have f:(-1:Int)^p.toNat=if(p%2==0)=ab then 1 else -1:=by
  obtain⟨c,r⟩:∃c:Nat,p=c:=⟨p.toNat,(qA B).symm⟩;subst r;have:((c:Int)).toNat=c:=rfl;rw[this];clear this n l B q x y;have d:∀c:Nat,(-1:Int)^c=if c%2=0 then 1 else -1:=by
   intro c;induction c with
   |zero=>simp
   |succ k F=>
    rw[Int.pow_succ,F];rcases agc k with j|j;rw[if_pos j,OX,j];rfl;rw[if_neg (by rw[j];decide),OX,j];rfl
  rw[d];by_cases j:c%2=0;rw[if_pos j,if_pos<|beq_iff_eq.mpr<|congrArg Oy j];rw[if_neg j,if_neg λq=>j<|F'<|beq_iff_eq.mp q]
 rw[f];exact .int _ _;exact AutoIntOps.pow_4 (by assumption) (by simpa using n) x y (by rw[l];simp)<|q _ _ ak.tok<|.int _ _
def aeI(i:Int):pO C (Hf .USub) (.int i) (.int<|-i):=by intro c b y l t e w h f q;cases w;exact neg_int<|q _ _ ak.tok<|.int _ _
def aeH(i:Int):pO C (Hf .Invert) (.int i) (.int<|agw i):=by intro c b y l t e w h f q;cases w;exact invert_int<|q _ _ ak.tok<|.int _ _
def Uk(i p:Int):hQ C .Lt (.int i) (.int p) (decide (i<p)):=by intro c r y l t d e w m h f q;cases w;cases m;exact lt_int<|q l<|ak.refl l
def Uj(i p:Int):hQ C .LtE (.int i) (.int p) (decide (i<=p)):=by intro c r y l t d e w m h f q;cases w;cases m;exact le_int<|q l<|ak.refl l
def Qc(i p:Int):hQ C .Gt (.int i) (.int p) (decide (p<i)):=by intro c r y l t d e w m h f q;cases w;cases m;exact gt_int<|q l<|ak.refl l
def Ui(i p:Int):hQ C .GtE (.int i) (.int p) (decide (p<=i)):=by intro c r y l t d e w m h f q;cases w;cases m;exact ge_int<|q l<|ak.refl l
def aen(i:Int):vm C (.int i) (i !=0):=by intro c b y l t e w h f q;cases w;exact truthy_int<|q l<|ak.refl l
def aem(p:Bool):vm C (.bool p) p:=by intro c a y l t e w h f q;cases w;exact AH<|q l<|ak.refl l
def Wv(i p:UInt64):dk C (eK .Add) (.float i) (.float p) (.float<|da i p):=by intro c r y l t d e w m h f q;cases w;cases m;exact add_float<|q _ _ ak.tok<|.float _ _ e.tok
def WD(i p:UInt64):dk C (eK .Sub) (.float i) (.float p) (.float<|bU i p):=by intro c r y l t d e w m h f q;cases w;cases m;exact sub_float<|q _ _ ak.tok<|.float _ _ e.tok
def WA(i p:UInt64):dk C (eK .Mult) (.float i) (.float p) (.float<|cz i p):=by intro c r y l t d e w m h f q;cases w;cases m;exact mul_float<|q _ _ ak.tok<|.float _ _ e.tok
def Wx(i p:UInt64)(j:g' p=au):dk C (eK .Div) (.float i) (.float p) (.float<|g_ i p):=by intro c r y l t d e w m k f q;cases w;cases m;exact ah_ (by rw[j];simp)<|q _ _ ak.tok<|.float _ _ e.tok
def Wz(i p:UInt64)(j:g' p=au):dk C (eK .Mod) (.float i) (.float p) (.float (uF i p).2):=by intro c r y l t d e w m k f q;cases w;cases m;exact ah8 (by rw[j];simp)<|q _ _ ak.tok<|.float _ _ e.tok
def Ww(i:UInt64)(y:Int)(j:y.natAbs<2^1023):dk C (eK .Add) (.float i) (.int y) (.float<|da i<|iI y):=by intro c r k l t d e w m b f q;cases w;cases m;exact add_fi_fits j<|q _ _ ak.tok<|.float _ _ e.tok
def WE(i:UInt64)(y:Int)(j:y.natAbs<2^1023):dk C (eK .Sub) (.float i) (.int y) (.float<|bU i<|iI y):=by intro c r k l t d e w m b f q;cases w;cases m;exact sub_fi_fits j<|q _ _ ak.tok<|.float _ _ e.tok
def WB(i:UInt64)(y:Int)(j:y.natAbs<2^1023):dk C (eK .Mult) (.float i) (.int y) (.float<|cz i<|iI y):=by intro c r k l t d e w m b f q;cases w;cases m;exact mul_fi_fits j<|q _ _ ak.tok<|.float _ _ e.tok
def WC(i:UInt64)(y:Int)(j:y.natAbs<2^1023):dk C (eK .Mult) (.int y) (.float i) (.float<|cz (iI y) i):=by intro c r k l t d e w m b f q;cases w;cases m;exact mul_if_fits j<|q _ _ ak.tok<|.float _ _ e.tok
def Wy(i:UInt64)(y:Int)(b:n_ (iI y)=au)(j:g' (iI y)=au):dk C (eK .Div) (.float i) (.int y) (.float<|g_ i<|iI y):=by intro c r k l t d e w m h f q;cases w;cases m;exact ah' (by rw[b];simp) (by rw[j];simp)<|q _ _ ak.tok<|.float _ _ e.tok
def Wa(i p:UInt64):hQ C .Eq (.float i) (.float p) (eJ i p==I qI):=by intro c r y l t d e w m h f q;cases w;cases m;exact ags<|q l<|ak.refl l
def Wc(i p:UInt64):hQ C .Lt (.float i) (.float p) (eJ i p==I lq):=by intro c r y l t d e w m h f q;cases w;cases m;exact ah7<|q l<|ak.refl l
def Wb(i p:UInt64):hQ C .LtE (.float i) (.float p) (eJ i p==I lq||eJ i p==I qI):=by intro c r y l t d e w m h f q;cases w;cases m;exact ah6<|q l<|ak.refl l
def ado(i p:ar)(j:i.length+p.length<=1000000):dk C (eK .Add) (.str i) (.str p) (.str<|i++p):=by intro c r y l t d e w m D f q;cases w;cases m;exact hO (bM l.toks) (add_str (λB k x=>q _ _ (ak.tok x)<|.str _ _) (by rw[gw];exact aC o z))
def Mb{j:cc}(D:j.Ns i c)(E:j.Ns i r):c=r:=by obtain⟨F,B,t,A,d,k,s⟩:=D;obtain⟨C,p,g,b,w,k,l⟩:=E;rw[A]at b;cases b;rw[d]at w;cases w;funext q;rw[<-s q,l q]
structure hS(C:bC)(c:bX)(s:Shared):Prop where
 kind:c.env.scope.kind=.function
 ns:∃m,s.heap.Ns c.env.locals m
 cell:∀n a,c.env.cells.lookup n=some a->∃v,s.heap.IsCell a v
 apart:c.env.cells.Pairwise λx y=>x.2≠y.2
 e1:c.Y c.env.locals
 bJ:∀a,c.Y a->c.X a
 hI:∀a,c.Y a->¬C.T a
 jt:∀a,c.Y a->¬C.P a
 dx:∀n a,c.env.cells.lookup n=some a->¬C.T a/\a≠c.env.locals/\c.X a
 pin:∀x v,c.pin x=some v->bH C s.heap c.env x v
def aax{j:cc}{i:aE}{t:Option aq}(y:j.IsCell i t):∀c,j.get? i=I c->¬fz c:=λc f q=>by obtain⟨w,b,d⟩:=y;rw[f]at b;cases b;obtain⟨k,s,l⟩:=q;rw[d]at l;cases l
structure dn(C:bC)(c:bX)(s J:Shared):Prop where
 same:∃h ey,J={s with heap:=h,toks:=ey}
 keep:∀b aQ,s.heap.get? b=some aQ->¬C.T b->¬c.Y b->J.heap.get? b=some aQ
 tabs:∀b,C.T b->∀bP,s.heap.get? b=some (tableObj bP)->∃more,J.heap.get? b=some (tableObj<|bP++more)
 ok:C.ew s.heap->C.ew J.heap
 all:∀b aQ,s.heap.get? b=some aQ->¬C.T b->∃D9,J.heap.get? b=some D9
 toks:s.toks<=J.toks
def dn.jR(m:ak C l J):dn C g l J:=⟨m.same,λp d f r k=>m.keep p d f r,m.tabs,m.ok,λp d f r=>⟨d,m.keep p d f r⟩,m.toks⟩
theorem dn.refl(l:ax):dn C g l l:=.jR<|ak.refl l
def dn.trans(i:dn C g l J)(p:dn C g J cX):dn C g l cX:=by refine⟨?_,λA d f r E=>p.keep A d (i.keep A d f r E) r E,λA r n f=>?_,λj=>p.ok<|i.ok j,λA d f r=>?_,aC i.toks p.toks⟩;obtain⟨j,k,rfl⟩:=i.same;obtain⟨F,q,rfl⟩:=p.same;exact⟨_,_,rfl⟩;obtain⟨G,f⟩:=i.tabs A r n f;obtain⟨D,f⟩:=p.tabs A r _ f;exact⟨G++D,by rw[f,AS]⟩;obtain⟨w,B⟩:=i.all A d f r;exact p.all A w B r
def dn.ext(A:ak C r l)(B:dn C g l J)(D:∀i,g.Y i->r.heap.get? i=ag):ak C r J:=by refine⟨?_,λp d f w=>B.keep p d (A.keep p d f w) w λq=>?_,λp w n f=>?_,λj=>B.ok<|A.ok j,aC A.toks B.toks⟩;obtain⟨j,k,rfl⟩:=A.same;obtain⟨G,F,rfl⟩:=B.same;exact⟨_,_,rfl⟩;rw[D p q]at f;cases f;obtain⟨H,f⟩:=A.tabs p w n f;obtain⟨E,f⟩:=B.tabs p w _ f;exact⟨H++E,by rw[f,AS]⟩
def bh.step(j:bh C b.X b.A b.fuel l)(y:dn C b l J):bh C b.X b.A b.fuel J:=⟨j.handled,j.depth,j.units,j.guards,λi p=>by
  obtain⟨d,f,r⟩:=j.cA i p;by_cases h:C.T i;obtain⟨n,rfl⟩:=r h;obtain⟨D,f⟩:=y.tabs i h n f;exact⟨_,f,λk=>⟨_,rfl⟩⟩;obtain⟨w,B⟩:=y.all i d f h;exact⟨w,B,λq=>absurd q h⟩,j.aT,y.ok j.ok,λf=>j.tok<|Gq.mp<|f▸y.toks⟩
def dn.nW(n:bh C a.X a.A a.fuel f)(k:hS C a f)(m:dn C a f J)(w:Rz a.X f.heap h d):Rz a.X J.heap h d:=w.mono λp q j i=>m.keep p q i (λB=>j<|n.aT p B) λD=>j<|k.bJ p D
def dn.rH(n:bh C a.X a.A a.fuel f)(k:hS C a f)(m:dn C a f J)(w:RzL a.X f.heap h d):RzL a.X J.heap h d:=w.mono λp q j i=>m.keep p q i (λB=>j<|n.aT p B) λD=>j<|k.bJ p D
theorem hS.ext(k:hS C g b)(r:ak C b J):hS C g J:=by refine⟨k.kind,?_,λp i f=>?_,k.apart,k.e1,k.bJ,k.hI,k.jt,k.dx,λB A f=>(k.pin B A f).ext r⟩;obtain⟨w,p⟩:=k.ns;exact⟨w,nP p λd f=>r.keep _ d f<|k.hI _ k.e1⟩;obtain⟨t,j⟩:=k.cell p i f;exact⟨t,pW j λd q=>r.keep _ d q (k.dx p i f).1⟩
def BM(g:bX)(m:ar):Prop:=g.pin m=ag/\(m==("__debug__":ar))=au/\(m==("__classdict__":ar))=au/\(g.env.kindOf m=I .local\/(g.env.kindOf m=I .cell/\∃i,g.env.cells.lookup m=I i/\g.Y i))
def hS.same(D:hS C g f)(h:g.Y i)(E:∀w,f.heap.get? i=I w->¬fz w)(m:xG i f.heap d)(A:∃w,d.get? i=I w)(B:f.toks<=k):dn C g f {f with heap:=d,toks:=k}:=by refine⟨⟨_,_,rfl⟩,λp w x r F=>(m.2 p λq=>F<|q▸h).trans x,λp r n x=>⟨#[],?_⟩,λj=>C.step f.heap d i (D.hI _ h) (D.jt _ h) E j m,λp w x r=>?_,B⟩;rw[Array.append_empty];exact(m.2 p λq=>D.hI _ h<|q▸r).trans x;by_cases q:p=i;exact q▸A;exact⟨w,(m.2 p q).trans x⟩
def Au(av:bh C c.X c.A c.fuel f)(k:hS C c f)(al:BM c i)(q:∀J,dn C c f J->hS C c J->bH C J.heap c.env i as->(∀F G,F≠i->bH C f.heap c.env F G->bH C J.heap c.env F G)->an () J):aB (aK C.prog C.w) c.A (xX c.env i as) an a1 f:=by
 obtain⟨ao,af,ag,H⟩:=al;have V:∀F G,c.pin F=I G->F≠i:=λF G M q=>by rw[q,ao]at M;cases M
 rcases H with H|⟨H,N,p,ak⟩;obtain⟨aq,R⟩:=k.ns;refine wpAny_storeName_local H R (λd j D=>?_) (by rw[k.kind];rfl);have st:dn C c f {f with heap:=d,toks:=f.toks+1}:=k.same k.e1 (D1 R) D (j.imp λau ae=>ae.elim λar ae=>ae.elim λar ae=>ae.1)<|lp _;have B:∀F G,F≠i->bH C f.heap c.env F G->bH C d c.env F G:=by rintro F r S ⟨_,Y,t,ac⟩;refine⟨k.kind,Y,t,?_⟩;rcases ac with⟨K,L,ah,P,ab⟩|⟨K,W,T,L,aa⟩;refine .inl ⟨K,L,_,j,?_⟩;rw[if_neg S];rw[<-ab];exact congrFun (Mb R P) F;exact .inr ⟨K,W,T,L,aa.sameBut D (k.dx _ _ T).2.1⟩
 refine q _ st ?_ ?_ B;refine⟨k.kind,⟨_,j⟩,λaj N M=>?_,k.apart,k.e1,k.bJ,k.hI,k.jt,k.dx,λF G M=>B F G (V F G M)<|k.pin F G M⟩;obtain⟨r,U⟩:=k.cell aj N M;exact⟨r,U.sameBut D (k.dx aj N M).2.1⟩;exact⟨k.kind,af,ag,.inl ⟨H,k.hI _ k.e1,_,j,by simp⟩⟩;obtain⟨am,U⟩:=k.cell i N p;have ad:∀d,d.IsCell N (I as)->xG N f.heap d->an () {f with heap:=d}:=by
  intro d O D;have st:dn C c f {f with heap:=d}:=k.same ak (aax U) D (O.imp λau=>i8)<|bM _;have B:∀F G,F≠i->bH C f.heap c.env F G->bH C d c.env F G:=by rintro F r S ⟨_,Y,t,ac⟩;refine⟨k.kind,Y,t,?_⟩;rcases ac with⟨K,L,ah,P,ab⟩|⟨K,W,T,L,aa⟩;exact .inl ⟨K,L,ah,P.sameBut D<|jy (k.dx i N p).2.1,ab⟩;refine .inr ⟨K,W,T,L,aa.sameBut D λq=>S ?_⟩;subst q;exact(name_of_addr k.apart (mem_of_lookup T)<|mem_of_lookup p)
  refine q _ st ?_ ?_ B;obtain⟨aq,R⟩:=k.ns;refine⟨k.kind,⟨aq,R.sameBut D<|jy (k.dx i N p).2.1⟩,λaj ap M=>?_,k.apart,k.e1,k.bJ,k.hI,k.jt,k.dx,λF G M=>B F G (V F G M)<|k.pin F G M⟩;by_cases ai:ap=N;exact⟨_,ai▸O⟩;obtain⟨r,d⟩:=k.cell aj ap M;exact⟨r,d.sameBut D ai⟩;exact⟨k.kind,af,ag,.inr ⟨.inl H,N,p,(k.dx i N p).1,O⟩⟩
 exact wpAny_storeName_cell k.kind H p U ad
def Cp(G:bh C c.X c.A c.fuel d)(k:hS C c d)(j:BM c m)(q:∀J,dn C c d J->hS C c J->bH C J.heap c.env m t->(∀n r,n≠m->bH C d.heap c.env n r->bH C J.heap c.env n r)->h () J):aB (aK C.prog C.w) c.A (lu c.env m t) h i d:=by unfold lu;exact av<|c6<|uT<|av<|Au G k j λJ B p D F=>uT<|q J B p D F
def Ri(C:bC)(F:dI)(c:aE->Prop)(j:ai)(e:aq)(m:List aE)(q:List aa)(St:Nat->cc->Prop):Prop:=∀D d(l:ax)(h:aq->ax->Prop)(f:aq->ax->Prop),q[D]?=some d->St D l.heap->(∀x,c x->∃B,l.heap.get? x=some B)->(∀t y k,(∀p B,p∉m->l.heap.get? p=some B->y.get? p=some B)->St (D+1) y->Rz (λx=>c x\/x∈m) y t d->h t {l with heap:=y,toks:=k})->aB (aK C.prog C.w) F (ly e) (λG n=>match G with|none=>False|some t=>aB (aK C.prog C.w) F (uQ j e t) (λ_ g=>h t g) f n) f l
def Rh(C:bC)(a:dI)(e:aq)(m:List aE)(q:List aa)(St:Nat->cc->Prop):Prop:=∀(l:ax)(h:ax->Prop)(f:aq->ax->Prop),St q.length l.heap->(∀y k,(∀p d,p∉m->l.heap.get? p=some d->y.get? p=some d)->h {l with heap:=y,toks:=k})->aB (aK C.prog C.w) a (ly e) (λc n=>match c with|none=>h n|some _=>False) f l
def Rg(C:bC)(r:dI)(e:aq)(St:Nat->cc->Prop):Prop:=∀y(l:ax)(h:aq->ax->Prop)(f:aq->ax->Prop),St y l.heap->h e l->aB (aK C.prog C.w) r (qP e) h f l
structure oo(C:bC)(A:Around)(X:Addr->Prop)(target:ai)(it:Value)(wr:List Addr)(ds:List aa)(St:Nat->Heap->Prop):Prop where
 off:∀b∈wr,¬X b
 frame:∀i h hl,St i h->(∀b aQ,h.get? b=some aQ->(b∈wr\/¬X b)->hl.get? b=some aQ)->St i hl
 here:∀i h,St i h->∀b∈wr,∃aQ,h.get? b=some aQ
 jP:∀i h,St i h->∀b∈wr,∀aQ,h.get? b=some aQ->¬fz aQ
 turn:Ri C A X target it wr ds St
 stop:Rh C A it wr ds St
 self:Rg C A it St
def Rf(C:bC)(G:dI)(H:aE->Prop)(K:aE->Prop)(j:ai)(e:aq)(m:List aE)(q:List aa)(St:Nat->cc->Prop):Prop:=∀(c:aE->Prop) D d(l:ax)(h:aq->ax->Prop)(f:aq->ax->Prop),(∀x,c x->¬K x)->q[D]?=some d->St D l.heap->(∀x,(H x\/c x)->∃B,l.heap.get? x=some B)->(∀t y k,(∀p B,p∉m->l.heap.get? p=some B->y.get? p=some B)->St (D+1) y->Rz (λx=>(H x\/c x)\/x∈m) y t d->h t {l with heap:=y,toks:=k})->aB (aK C.prog C.w) G (ly e) (λI n=>match I with|none=>False|some t=>aB (aK C.prog C.w) G (uQ j e t) (λ_ g=>h t g) f n) f l
def Rd(C:bC)(a:dI)(e:aq)(m:List aE)(q:List aa)(St:Nat->cc->Prop):Prop:=∀(l:ax)(h:ax->Prop)(f:aq->ax->Prop),St q.length l.heap->(∀y k,(∀p d,p∉m->l.heap.get? p=some d->y.get? p=some d)->h {l with heap:=y,toks:=k})->aB (aK C.prog C.w) a (ly e) (λc n=>match c with|none=>h n|some _=>False) f l
def Rc(C:bC)(r:dI)(e:aq)(St:Nat->cc->Prop):Prop:=∀y(l:ax)(h:aq->ax->Prop)(f:aq->ax->Prop),St y l.heap->h e l->aB (aK C.prog C.w) r (qP e) h f l
structure d9(C:bC)(A:Around)(X:Addr->Prop)(K:Addr->Prop)(target:ai)(it:Value)(wr:List Addr)(ds:List aa)(St:Nat->Heap->Prop):Prop where
 off:∀b∈wr,¬X b
 low:∀b∈wr,K b
 frame:∀i h hl,St i h->(∀b aQ,h.get? b=some aQ->(b∈wr\/(¬X b/\K b))->hl.get? b=some aQ)->St i hl
 here:∀i h,St i h->∀b∈wr,∃aQ,h.get? b=some aQ
 jP:∀i h,St i h->∀b∈wr,∀aQ,h.get? b=some aQ->¬fz aQ
 turn:Rf C A X K target it wr ds St
 stop:Rd C A it wr ds St
 self:Rc C A it St
def d9.to{K:aE->Prop}{St:Nat->cc->Prop}(B:d9 C r c K t j m g St)(l:aE->Prop)(w:∀D,l D->¬K D):oo C r (λD=>c D\/l D) t j m g St where
 off:=λp n q=>q.elim (B.off p n) λG=>w p G<|B.low p n
 frame:=λJ O y st k=>B.frame J O y st λp P N n=>k p P N<|n.imp id λq x=>x.elim q.1 λG=>w p G q.2
 here:=B.here
 jP:=B.jP
 turn:=λJ d R M L I st H q=>B.turn l J d R M L w I st H q
 stop:=B.stop
 self:=B.self
noncomputable def aby:List String:=["enumerate","zip","dict_itemiterator","dict_reverseitemiterator","odict_iterator","itertools.zip_longest","itertools.pairwise"]
set_option tactic.hygienic true in
def vR(q:l.heap.get? g=I d)(k:d.cls=.type n)(p:aby.contains n=au)
  (j:h () l):aB c e (uQ t (.ref g) b) h f l:=by
 have aP:aB c e (do
   let(.ref w,.ref i):=(Bj g,b)|return
   let d<-load w
   match d.cls,d.data with
   |.type n,.fields x=>
    if["enumerate","zip","dict_itemiterator","dict_reverseitemiterator","odict_iterator","itertools.zip_longest","itertools.pairwise"].contains n&&x[0]?==I (rawInt i)then
     Ha "for.unpacks-the-owned-tuple"
     updateField w 0 .none
   |_,_=>bg ()) h f l:=by
  cases b
  case ref i=>
   refine av<|wpAny_load q ?_;rw[k];cases m:d.data with
   |fields x=>
    dsimp only;have:["enumerate","zip","dict_itemiterator","dict_reverseitemiterator","odict_iterator","itertools.zip_longest","itertools.pairwise"].contains n=au:=p;rw[this];exact aY j
   |_=>exact aY j
  all_goals exact aY j
 cases t
 case Tuple=>exact aP
 case List=>exact aP
 all_goals exact aY j
def l1{j:cc}{i:aE}{d:cC}{n:String}(f:j.get? i=I d)(g:d.cls=.type n)(p:(n=="code")=au):∀w,j.get? i=I w->¬fz w:=λw b q=>by rw[f]at b;cases b;have:=g.symm.trans q.1;injection this with this;subst this;simp at p
abbrev fN(c:aE->Prop)(K:aE->Prop)(m:List aE):aE->Prop:=λp=>(c p\/¬K p)\/p∈m
def c7{P:aE->Prop}(c:P i)(p:aE)(j:p∈[i]):P p:=(cm.mp j)▸c
def lZ{P:aE->Prop}(d:P i)(y:P g)(p:aE)(j:p∈[i,g]):P p:=(cJ.mp j).elim (λf=>f▸d)<|c7 y p
def oS{P:aE->Prop}(l:P i)(y:P g)(q:P d)(k:P f)(p:aE)(j:p∈[i,g,d,f]):P p:=(cJ.mp j).elim (λf=>f▸l) λj=>(cJ.mp j).elim (λf=>f▸y)<|lZ q k p
def ts{P:aE->Prop}(d:∀p∈c,P p)(y:P i)(p:aE)(j:p∈c++[i]):P p:=(ml.mp j).elim (d p)<|c7 y p
def z0{p i g:aE}(j:p∉[i,g]):p≠i/\p≠g:=by simpa using j
def oV{p i g d f:aE}(j:p∉[i,g,d,f]):p≠i/\p≠g/\p≠d/\p≠f:=by simpa using j
def fN.no{c K:aE->Prop}(j:¬fN c K m p):¬c p/\K p:=⟨λq=>j<|.inl<|.inl q,afu λq=>j<|.inl<|.inr q⟩
def d9.ofWalks{K:aE->Prop}{St:Nat->cc->Prop}{R:cc->Prop} (Y:xK C.prog C.w ac al c m ds.length am St) (V:∀p∈m,¬X p) (J:∀p∈m,K p) (x:∀p∈c,p∈m\/(¬X p/\K p)) (O:∀j y,R j->(∀p r,j.get? p=I r->¬fN X K m p->y.get? p=I r)->R y) (T:∀g t(l:ax)(a:Unit->ax->Prop)(f:aq->ax->Prop),St g l.heap->a () l->aB (aK C.prog C.w) ac (uQ target (.ref al) t) a f l) (B:∀g j,St g j->∀p∈m,∃r,j.get? p=I r) (U:∀g j,St g j->∀p∈m,∀r,j.get? p=I r->¬fz r) (aa:∀g t j d,am g t->R j->ds[g]?=I d->Rz (fN X K m) j t d):d9 C ac X K target (.ref al) m ds (λg j=>St g j/\R j)where
 off:=V
 low:=J
 frame:=λg j y st k=>⟨Y.frame g j y st.1 λp H r M=>k p r M<|x p H,O j y st.2 λp r M D=>k p r M<|.inr ⟨λq=>D<|.inl<|.inl q,afu λq=>D<|.inl<|.inr q⟩⟩
 here:=λg j st=>B g j st.1
 jP:=λg j st=>U g j st.1
 turn:=λaf g d l a f Z S st ad q=>by have ab:g<ds.length:=(m4.mp S).1;refine Y.item g l _ f ab st.1 λt y L N n k=>?_;have G:R y:=O _ _ st.2 λp r M D=>k p r (λq=>D<|.inr q) M;refine T (g+1) t _ _ _ n<|q t y L k ⟨n,G⟩<|(aa g t y d N G S).less λp H=>?_;exact H.imp (λae=>ae.imp id<|Z p) id
 stop:=λl a f st q=>Y.done l _ f st.1 λy L k=>q y L k
 self:=λg l a f st q=>Y.self g l a f st.1 q
def fN.keep{K:aE->Prop}(g y:cc)(w:RzL (fN c K m) g x a)(k:∀p d,g.get? p=I d->¬fN c K m p->y.get? p=I d):RzL (fN c K m) y x a:=w.mono λp d j f=>k p d f j
def d9.eb{K:aE->Prop}(J:r.handled=ag)(G:¬j g)(N:K g)(H:¬j e)(O:K e)(n:e≠g)(m:wd.map (·.1)=c):d9 C r j K f (.ref g) [g] (c.map .int) (λy B=>(B.IsKeyIter g e y wd.length CR/\B.DictAt (iN C.prog C.w) e wd CR)/\True):=by
 have R:=Walks.dictKeys (prog:=C.prog) (w:=C.w) (knd:=iN C.prog C.w) J g e n wd CR;have L:wd.length=(c.map aa.int).length:=by rw[eT,<-m,eT]
 rw[L]at R ⊢;refine d9.ofWalks R ?_ ?_ ?_ (λ_ _ _ _=>trivial) ?_ ?_ ?_ ?_;exact c7 G;exact c7 N;exact lZ (P:=λp=>p∈[g]\/(¬j p/\K p)) (.inl<|.head _)<|.inr ⟨H,O⟩;exactλy T Y V U st q=>letGo_keyiter st.1 q;exactλy B st=>c7 (P:=λp=>∃D,B.get? p=I D)<|st.1.imp λD=>i8;exactλy B st=>c7 (P:=λp=>∀D,B.get? p=I D->¬fz D)<|st.1.elim λD e=>l1 e.1 e.2.1 z;intro y T B d l _ F;obtain⟨k,Z,ae,M⟩:=l;rw[<-m,m7,m5,ae]at F;obtain rfl:=aS F;obtain⟨S,rfl⟩:=ahj M;exact .int k S
theorem d9.list{A:dI}{c:aE->Prop}{K:aE->Prop}{t:ai}{g B:aE}{bl:List aq}{D:List aa}(k:A.handled=ag)(m:¬c g)(x:K g)(H:¬c B)(M:K B)(n:B≠g)(L:bl.length=D.length):d9 C A c K t (.ref g) [g] D (λy j=>(j.IsListIter g B y/\j.IsList B bl.toArray)/\RzL (fN c K [g]) j bl D):=by have O:=Bm (prog:=C.prog) (w:=C.w) k g B n bl.toArray;rw[show bl.toArray.size=D.length by simpa using L]at O;refine d9.ofWalks O ?_ ?_ ?_ fN.keep ?_ ?_ ?_ ?_;exact c7 m;exact c7 x;exact lZ (P:=λp=>p∈[g]\/(¬c p/\K p)) (.inl<|.head _)<|.inr ⟨H,M⟩;exactλy S l V U st q=>st.1.elim λF B=>vR B.1 B.2.1 z q;exactλy j st=>c7 (P:=λp=>∃F,j.get? p=I F)<|st.1.imp λF=>i8;exactλy j st=>c7 (P:=λp=>∀F,j.get? p=I F->¬fz F)<|st.1.elim λF B=>l1 B.1 B.2.1 z;intro y S j d G R J;obtain⟨T,f,N⟩:=R.get J;simp only[m6]at G;rw[G]at f;cases f;exact N
theorem d9.tuple{K:aE->Prop}(k:A.handled=ag)(m:¬c g)(J:K g)(F:¬c f)(L:K f)(n:f≠g)(H:x.length=ds.length):d9 C A c K t (.ref g) [g] ds (λy j=>(j.IsTupleIter g f y/\j.IsTuple f x.toArray)/\RzL (fN c K [g]) j x ds):=by have N:=Bn (prog:=C.prog) (w:=C.w) k g f n x.toArray;rw[show x.toArray.size=ds.length by simpa using H]at N;refine d9.ofWalks N ?_ ?_ ?_ fN.keep ?_ ?_ ?_ ?_;exact c7 m;exact c7 J;exact lZ (P:=λp=>p∈[g]\/(¬c p/\K p)) (.inl<|.head _)<|.inr ⟨F,L⟩;exactλy S l V U st q=>st.1.elim λB f=>vR f.1 f.2.1 z q;exactλy j st=>c7 (P:=λp=>∃B,j.get? p=I B)<|st.1.imp λB=>i8;exactλy j st=>c7 (P:=λp=>∀B,j.get? p=I B->¬fz B)<|st.1.elim λB f=>l1 f.1 f.2.1 z;intro y S j d D R G;obtain⟨T,O,M⟩:=R.get G;simp only[m6]at D;rw[D]at O;cases O;exact M
noncomputable def jr(b g:Int)(d:Nat):List aa:=(bO d).map λy=>.int<|b+(y:Nat)*g
theorem d9.range{K:aE->Prop}(N:r.handled=ag)(M:¬m g)(x:K g):d9 C r m K f (.ref g) [g] (jr l k y) (λB D=>IsRangeIter D g (l+(B:Nat)*k) ((y:Int) -(B:Nat)) k/\True):=by
 have O:=Walks.range (prog:=C.prog) (w:=C.w) N g l k y;have H:(jr l k y).length=y:=by simp[jr]
 rw[<-H]at O;have:=d9.ofWalks (X:=m) (K:=K) (target:=f) (R:=λF=>True) O (c7 M) (c7 x) (λ_=>.inl) (λF F F F=>trivial) ?_ ?_ ?_ ?_;rw[H]at this;exact this;intro B U aa Y V st q;exact vR (n:="range_iterator") st rfl z q;exactλB D st=>c7 (P:=λL=>∃J,D.get? L=I J) ⟨_,st⟩;exactλB D st=>c7 (P:=λL=>∀J,D.get? L=I J->¬fz J)<|l1 (n:="range_iterator") st rfl z;rintro B U D d ⟨ab,rfl⟩ _ G;simp only[jr,m5,xD]at G;obtain⟨T,p,rfl⟩:=G;have:T=B:=by rw[m4]at p;obtain⟨F,S⟩:=p;simpa using S.symm
 subst this;exact .int _ _
noncomputable def pK(m:ar):List aa:=m.cps.toList.map λg=>.str ⟨#[g]⟩
theorem d9.str{K:aE->Prop}(k:r.handled=ag)(J:¬e g)(M:K g):d9 C r e K target (.ref g) [g] (pK m) (λy j=>j.IsStrIter g (BA m) m t y/\True):=by
 have N:xK C.prog C.w r g [g] [g] (pK m).length (SignAt m) (λy j=>j.IsStrIter g (BA m) m t y):=by rw[show(pK m).length=m.cps.size by simp[pK]];unfold BA;split;exact Walks.strAscii k g m t;exact Walks.strWide k g m t
 refine d9.ofWalks (R:=λG=>True) N (c7 J) (c7 M) (λ_=>.inl) (λG G G G=>trivial) ?_ ?_ ?_ ?_;exactλy S l T f st q=>st.elim λn B=>vR B.1 B.2.1 (by unfold BA;split<;>decide) q;exactλy j st=>c7 (P:=λp=>∃n,j.get? p=I n)<|st.imp λn=>i8;exactλy j st=>c7 (P:=λp=>∀n,j.get? p=I n->¬fz n) (st.elim λn B=>l1 B.1 B.2.1 (by unfold BA;split<;>decide));rintro y S j d ⟨O,U,L,rfl⟩ _ F;simp only[pK,m5,xD]at F;obtain⟨H,D,rfl⟩:=F;have:O=H:=GB (L.symm.trans<|by simpa using D);subst this;exact .str _ _
def d9.rev{K:aE->Prop}(L:k.handled=ag)(m:¬c g)(x:K g)(J:¬c j)(O:K j)(n:j≠g)(N:bl.length=f.length):d9 C k c K t (.ref g) [g] f.reverse (λy l=>(y<=f.length/\l.IsRevIter g j ((f.length:Int) -1 -(y:Int))/\l.IsList j bl.toArray)/\RzL (fN c K [g]) l bl f):=by
 have H:=Walks.listRev (prog:=C.prog) (w:=C.w) L g j n bl.toArray;have G:bl.toArray.size=f.length:=by simpa using N
 rw[G]at H;rw[<-ON]at H;have:=d9.ofWalks (X:=c) (K:=K) (target:=t) (ds:=f.reverse) (R:=λl=>RzL (fN c K [g]) l bl f) H ?_ ?_ ?_ fN.keep ?_ ?_ ?_ ?_;rw[ON]at this;exact this;exact c7 m;exact c7 x;exact lZ (P:=λp=>p∈[g]\/(¬c p/\K p)) (.inl<|.head _)<|.inr ⟨J,O⟩;exactλy V ab aa Z st q=>st.2.1.elim λF j=>vR j.1 j.2.1 z q;exactλy l st=>c7 (P:=λp=>∃F,l.get? p=I F)<|st.2.1.imp λF=>i8;exactλy l st=>c7 (P:=λp=>∀F,l.get? p=I F->¬fz F)<|st.2.1.elim λF j=>l1 j.1 j.2.1 z;intro y V l d D U B;have M:y<f.length:=by simpa using(m4.mp B).1
 rw[List.getElem?_reverse<|by simpa using M]at B;obtain⟨Y,T,S⟩:=U.get B;rw[ON]at D;simp only[m6]at D;rw[D]at T;cases T;exact S
noncomputable def qT(q:List aa):List aa:=q.zipIdx.map λs=>.tuple [.int (s.2:Nat),s.1]
def M4(ae:¬b c)(d:j.get? c=I {cls:=.type "tuple",data:=.seq k})(w:RzL b j k.toList a):Rz b j (.ref c) (.tuple a):=by obtain⟨x⟩:=k;exact .tuple ae d w
def Mc(q:List aa):(qT q).length=q.length:=by simp[qT]
def aaP{y:Nat}(j:(qT a)[y]?=I d):∃w,a[y]?=I w/\.tuple [.int (y:Nat),w]=d:=by simp only[qT,m5,xD,List.getElem?_zipIdx]at j;obtain⟨s,⟨w,n,rfl⟩,rfl⟩:=j;exact⟨w,n,by simp⟩
def d9.enum{K:aE->Prop}{ft:List ai}(an:bd.handled=ag)(am:¬m f)(aa:¬m g)(aj:¬m j)(ar:K f)(ab:K g)(aq:K j)(S:f≠g)(R:j≠f)(Y:j≠g)(ao:al.length=l.length):d9 C bd m K (.Tuple ft k a2) (.ref f) [f,g] (qT l) (λV L=>((∃G,IsEnum L f g V G)/\L.IsListIter g j V/\L.IsList j al.toArray)/\RzL (fN m K [f,g]) L al l)where
 off:=lZ am aa
 low:=lZ ar ab
 frame:=λV L T st kp=>
  ⟨⟨st.1.1.imp λG B=>kp f _ B<|.inl<|.head _,st.1.2.1.at λr W=>kp g r W<|.inl<|.tail _<|.head _,st.1.2.2.at λr W=>kp j r W<|.inr ⟨aj,aq⟩⟩,st.2.mono λp r w W=>kp p r W<|.inr<|fN.no w⟩
 here:=λV L st=>lZ (P:=λp=>∃r,L.get? p=I r) (st.1.1.elim λG B=>⟨_,B⟩)<|st.1.2.1.imp λr=>i8
 jP:=λV L st=>lZ (P:=λp=>∀r,L.get? p=I r->¬fz r) (st.1.1.elim λG B=>l1 (n:="enumerate") B rfl z)<|st.1.2.1.elim λr j=>l1 j.1 j.2.1 z
 turn:=λaz V d N av au ad ak st ah q=>by
  obtain⟨G,B⟩:=st.1.1;obtain⟨ax,Z,rfl⟩:=aaP ak;obtain⟨W,ae,as⟩:=st.2.get Z;refine wpAny_pyNext_enum_item B st.1.2.1 st.1.2.2 (m6.trans ae) S λT ap U af aw kp=>?_;have t:∀{a1},(∃r,N.heap.get? a1=I r)->N.heap.objs.size≠a1:=λ⟨_,f⟩=>i_<|fe f;refine wpAny_letOwnedTupleGo_enum ap λH M D=>?_;have dR:∀p r,p∉[f,g]->N.heap.get? p=I r->H.get? p=I r:=λp r w O=>
   (D.2 p (z0 w).1).trans (kp p r (z0 w).1 (z0 w).2 O)
  have ac:∀p r,¬fN m K [f,g] p->N.heap.get? p=I r->H.get? p=I r:=λp r w=>dR p r λq=>w<|.inr q;refine q _ H (N.toks+1) dR ⟨⟨⟨W,M⟩,U.at λr O=>(D.2 g S.symm).trans O,(st.1.2.2.at λr O=>kp j r R Y O).at λr O=>(D.2 j R).trans O⟩,st.2.mono λp r w=>ac p r w⟩ ?_;refine M4 ?_ ((D.2 _<|t ⟨_,B⟩).trans af)<|.cons (Rz.int _ _)<|.cons ((as.mono λp r w=>ac p r w).less λp w=>w.imp (λay=>ay.imp id<|ad p) id) .nil;exactλJ=>J.elim (λJ=>t (ah _ J) rfl) λJ=>lZ (P:=λp=>N.heap.objs.size≠p) (t ⟨_,B⟩) (t<|st.1.2.1.imp λr=>i8) _ J rfl
 stop:=λN av au st q=>by obtain⟨G,B⟩:=st.1.1;exact wpAny_pyNext_enum_end an (Mc l▸B) (Mc l▸st.1.2.1) st.1.2.2 (by simp[ao]) λT kp=>q T N.toks λp r w O=>kp p r (z0 w).2 O
 self:=λV N av au st q=>st.1.1.elim λG B=>ahV B q
noncomputable def qU:List aa->List aa->List aa|a::k,p::w=>.tuple [a,p]::qU k w|_,_=>[]
def abB:∀{w:List aa}{y:Nat}{d:aa},(qU k w)[y]?=I d->∃c p,k[y]?=I c/\w[y]?=I p/\d=.tuple [c,p]:=by
 induction k with
 |nil=>exactλj=>nS j
 |cons c k g=>
  intro w y d j;induction w using a8 with
  |nil=>exact nS j
  |cons p w=>
   induction y using cN with|zero=>exact⟨c,p,rfl,rfl,(aS j).symm⟩|succ y=>exact g (y:=y) j
def Mp(k:List aa):∀w:List aa,(qU k w).length=c_ k.length w.length:=by
 induction k with
 |nil=>exactλw=>(Nat.zero_min _).symm
 |cons i k g=>
  intro w;induction w using a8 with|nil=>rfl|cons p w=>exact(congrArg (·+1)<|g w).trans (Nat.add_min_add_right ..).symm
def d9.zip{K:aE->Prop}{ft:List ai}(az:bd.handled=ag)(L:ZipApart w m g f j r t) (aB:¬B w) (Z:¬B m) (aa:¬B g) (au:¬B f) (av:¬B j) (ab:¬B r) (ac:¬B t) (aD:K w) (af:K m) (ah:K g) (aC:K f) (ad:K j) (aj:K r) (ak:K t) (jn:bl.length=ds.length) (jO:us.length=bf.length):d9 C bd B K (.Tuple ft k a2) (.ref w) [w,g,f,j] (qU ds bf) (λY M=>(IsZip M w m g .none/\IsPair M m (.ref f) (.ref j)/\(∃a b,IsPair M g a b)/\M.IsListIter f r Y/\M.IsListIter j t Y/\M.IsList r bl.toArray/\M.IsList t us.toArray)/\RzL (fN B K [w,g,f,j]) M bl ds/\RzL (fN B K [w,g,f,j]) M us bf)where
 off:=oS aB aa au av
 low:=oS aD ah aC ad
 frame:=λY M W st kp=>
  ⟨⟨kp _ _ st.1.1<|.inl<|.head _,kp _ _ st.1.2.1<|.inr ⟨Z,af⟩,st.1.2.2.1.imp λS=>afw λD gh=>kp _ _ gh<|.inl<|.tail _<|.head _,st.1.2.2.2.1.at λH l=>kp _ H l<|.inl<|.tail _<|.tail _<|.head _,st.1.2.2.2.2.1.at λH l=>kp _ H l<|.inl<|.tail _<|.tail _<|.tail _<|.head _,st.1.2.2.2.2.2.1.at λH l=>kp _ H l<|.inr ⟨ab,aj⟩,st.1.2.2.2.2.2.2.at λH l=>kp _ H l<|.inr ⟨ac,ak⟩⟩,st.2.1.mono λb H G S=>kp b H S<|.inr<|fN.no G,st.2.2.mono λb H G S=>kp b H S<|.inr<|fN.no G⟩
 here:=λY M st=>oS (P:=λb=>∃H,M.get? b=I H) ⟨_,st.1.1⟩ (st.1.2.2.1.elim λS=>Exists.elim (p:=λD=>IsPair M g S D) (h₂:=λD gh=>⟨_,gh⟩)) (st.1.2.2.2.1.imp λH=>i8)<|st.1.2.2.2.2.1.imp λH=>i8
 jP:=λY M st=>oS (P:=λb=>∀H,M.get? b=I H->¬fz H) (l1 (n:="zip") st.1.1 rfl z) (st.1.2.2.1.elim λS=>λ⟨D,gh⟩=>l1 (n:="tuple") gh rfl z) (st.1.2.2.2.1.elim λH a=>l1 a.1 a.2.1 z)<|st.1.2.2.2.2.1.elim λH a=>l1 a.1 a.2.1 z
 turn:=λaL Y d V aK aJ aw ay st ax q=>by
  obtain⟨aF,aG,gh⟩:=st.1.2.2.1;obtain⟨aN,eF,ar,as,rfl⟩:=abB ay;obtain⟨S,ae,aH⟩:=st.2.1.get ar;obtain⟨D,aA,aI⟩:=st.2.2.get as;refine wpAny_pyNext_zip_item L st.1.1 st.1.2.1 gh st.1.2.2.2.1 st.1.2.2.2.2.1 st.1.2.2.2.2.2.1 st.1.2.2.2.2.2.2 (x:=S) (y:=D) (m6.trans ae) (m6.trans aA) λW am an ao ap aq aM kp=>?_;have O:∀{a1},(∃H,V.heap.get? a1=I H)->V.heap.objs.size≠a1:=λ⟨_,l⟩=>i_<|fe l;refine wpAny_letOwnedTupleGo_zip am λN T J=>?_;have dR:∀b H,b∉[w,g,f,j]->V.heap.get? b=I H->N.get? b=I H:=λb H G D=>
   (J.2 b (oV G).1).trans (kp b H (oV G).1 (oV G).2.1 (oV G).2.2.1 (oV G).2.2.2 D)
  have U:∀b H,¬fN B K [w,g,f,j] b->V.heap.get? b=I H->N.get? b=I H:=λb H G=>dR b H λq=>G<|.inr q;have al:∀b,(B b\/aL b)\/b∈[w,g,f,j]->fN B K [w,g,f,j] b:=λb G=>G.imp (λw=>w.imp id<|aw b) id;refine q _ N V.toks dR ⟨⟨T,(J.2 m L.TIz).trans<|kp m _ L.TIz L.TITO L.TIi1 L.TIi2 st.1.2.1,⟨S,D,(J.2 g L.TOz).trans an⟩,ao.at λH l=>(J.2 f L.i1z).trans l,ap.at λH l=>(J.2 j L.i2z).trans l,st.1.2.2.2.2.2.1.at λH l=>(J.2 r L.l1z).trans<|kp r H L.l1z L.l1TO L.l1i1 L.l1i2 l,st.1.2.2.2.2.2.2.at λH l=>(J.2 t L.l2z).trans<|kp t H L.l2z L.l2TO L.l2i1 L.l2i2 l⟩,st.2.1.mono λb H G=>U b H G,st.2.2.mono λb H G=>U b H G⟩ ?_;refine M4 ?_ ((J.2 _<|O ⟨_,st.1.1⟩).trans aq)<|.cons ((aH.mono λb H G=>U b H G).less al)<|.cons ((aI.mono λb H G=>U b H G).less al) .nil;exactλR=>R.elim (λR=>O (ax _ R) rfl) λR=>oS (P:=λb=>V.heap.objs.size≠b) (O ⟨_,st.1.1⟩) (O ⟨_,gh⟩) (O<|st.1.2.2.2.1.imp λH=>i8) (O<|st.1.2.2.2.2.1.imp λH=>i8) _ R rfl
 stop:=λV aK aJ st q=>by obtain⟨aF,aG,gh⟩:=st.1.2.2.1;refine wpAny_pyNext_zip_end az L st.1.1 st.1.2.1 gh ((Mp ds bf)▸st.1.2.2.2.1) ((Mp ds bf)▸st.1.2.2.2.2.1) st.1.2.2.2.2.2.1 st.1.2.2.2.2.2.2 ?_ λW kp=>q W V.toks λb H G D=>kp b H (oV G).1 (oV G).2.1 (oV G).2.2.1 (oV G).2.2.2 D;rw[m6,m6];exact(Gp ds.length bf.length).imp (λM=>A0 (by rw[jn,uw M];exact bM _)) (λM=>A0 (by rw[jO,qE M];exact bM _))
 self:=λY V aK aJ st q=>ahW st.1.1 q
end
structure aZ where
 sc:Scope
 own:List Str
abbrev bQ:=List<|ar×aa
set_option genInjectivity false in
structure b0 where
 bin:Operator->aa->aa->Option aa
 un:UnaryOp->aa->Option aa
 cmp:CmpOp->aa->aa->Option Bool
 truth:aa->Option Bool
 item:aa->aa->Option aa
 slice:aa->aa->aa->aa->Option aa
 attr:aa->Str->Option aa
 en:aa->Str->List aa->Option aa
 call:Str->List aa->Option aa
 const:Str->Option aa
 aug:Operator->aa->aa->Option aa
 move:Str->List aa->List aa->Option aa
 hk:Str->Str->Option aa
noncomputable def aZ.global(a:aZ)(m:ar):Bool:=a.sc.kind==.function&&a.sc.names.lookup m==I .globalImplicit&&!(m==("__debug__":ar))
noncomputable def An(i h:gQ):gQ:={i with names:=i.names.map λ(y,k)=>if(k==.free&&h.kind==.function&&h.names.lookup y==I .cell)then(y,.cell)else(y,k)}
noncomputable def jj(m:ar):Bool:=!(m==("__debug__":ar))&&!(m==("__classdict__":ar))
noncomputable def dG:List ar->Bool|[]=>ab|x::w=>!w.contains x&&dG w
def aZ.comp(a:aZ)(i:gQ):Option aZ:=if a.sc.kind==.function&&i.kind==.function&&dG (i.names.map (·.1))&&i.names.all (λs=>jj s.1&&i.names.lookup s.1==I s.2&&(s.2!=.free||a.sc.names.lookup s.1==I .cell||a.sc.names.lookup s.1==I .free))then
  I ⟨An i a.sc,(i.names.filter λs=>s.2==.local||s.2==.cell).map (·.1)⟩
 else ag
noncomputable def h2(i:gQ)(w:bQ):bQ:=w.filter λs=>i.names.lookup s.1==I .free
def pU(a:aZ)(f:ai)(d:aa)(w:bQ):Option bQ:=(fp f).bind λx=>if a.own.contains x.1&&jj x.1 then I ((x.1,d)::w)else ag
noncomputable def er(c:aZ):List ai->List aa->bQ->Option bQ|[],[],w=>I w|e::b,d::a,w=>(pU c e d w).bind λl=>er c b a l|_,_,_=>ag
noncomputable def xc(d:aa):Option (List aa):=if j:d.ctorIdx=5 then aa.tuple.elim (motive_1:=λk=>Option<|List aa) d j I else ag
def dq(a:aZ)(r:ai)(d:aa)(w:bQ):Option bQ:=(js r).elim (pU a r d w) λx=>(xc d).bind λq=>er a x.1 q w
def tB(f:ai):Option ar:=(fp f).map (·.1)
def xb(f:ai):List ar:=(js f).elim (tB f).toList λx=>x.1.filterMap tB
def kU(a:aZ)(t:ai)(d:aa)(w:bQ):Option bQ:=if(xb t).all λm=>(w.lookup m).isNone then dq a t d w else ag
noncomputable def fX:ai->Bool|.Starred ..=>ab|_=>au
noncomputable def tO:aa->Option (List aa)|.list a=>I a|.tuple a=>I a|_=>ag
noncomputable def lC:aa->Option (List aa)|.list a=>I a|_=>ag
noncomputable def Qf:ai->Bool|.Name ..=>ab|_=>au
def yi(f:ai):Bool:=(js f).isSome
def yj(t:ai):aa->Option (List aa)|.list a=>I a|.tuple a=>I a|.str m=>if Qf t then I (pK m)else ag|.eb c _=>I (c.map .int)|_=>ag
def Ce:List ai->Option ai|[i]=>if fX i then ag else I i|_=>ag
def qo(k:List ai):Option ai:=(ec k).bind λf=>(FZ f).map (·.1)
def qm(f:ai):Option (Option ai×Option ai×Option ai):=(FY f).map λx=>(x.1,x.2.1,x.2.2.1)
def rF(s:ar)(k:List ai):Option (ar×List ai):=(ec k).bind λa=>(AO a).bind λx=>if s==("list":ar)&&x.1==("range":ar)then I (x.1,x.2.2.1)else ag
def Cf:List ai->Option (ai×ai)|[i,p]=>if fX i||fX p then ag else I (i,p)|_=>ag
noncomputable def acv(i:aa)(m c:ar):Option aa:=match i with|.str b=>if decide (b.length+(b.length+1)*c.length<=16777216)then I (.str<|ahh b m c)else ag|_=>ag
def Sa(f:ai):Option aa:=(rM f).elim ((v' f).map .int) λm=>I<|.str m
noncomputable def vI:List (Option ai)->List ai->Option (List<|ar×aa)|[],[]=>I []|k::c,t::a=>(k.bind rM).bind λm=>(Sa t).bind λd=>(vI c a).map λw=>(m,d)::w|_,_=>ag
noncomputable def nI:List ar->Bool|[]=>ab|x::w=>!w.contains x&&nI w
def JA(c:List (Option ai))(x:List ai):Option aa:=(vI c x).bind λs=>if nI (s.map (·.1))&&!s.isEmpty&&bG s.length 15 then I (.dict s)else ag
def o1(f:ai):Bool:=(AO f).elim ab λx=>!x.2.2.1.isEmpty
noncomputable def kz(i p g:Int):Bool:=Pe i p g&&decide (g≠0)&&decide (jz i p g<=1000000)
def gZ:List aa->Option (List aa)|[.int p]=>if kz 0 p 1 then I (jr 0 1 (jz 0 p 1).toNat)else ag|[.int i,.int p]=>if kz i p 1 then I (jr i 1 (jz i p 1).toNat)else ag|[.int i,.int p,.int g]=>if kz i p g&&!pv (p -i) g then I (jr i g (jz i p g).toNat)else ag|_=>ag
def C_(a:aZ)(w:bQ)(f:ai):Option ar:=(fp f).bind λx=>if a.global x.1&&(w.lookup x.1).isNone then I x.1 else ag
mutual
noncomputable def bc(C:b0):Nat->aZ->bQ->ai->Option aa
 |0,_,_,_=>none
 |n+1,g,w,Y=>match Y with
  |.Constant (.int P) _ _=>some<|.int P
  |.Constant (.float A) _ _=>some<|.float A
  |.Constant (.str A) _ _=>some<|.str A
  |.Constant (.bool A) _ _=>some<|.bool A
  |.Constant .none _ _=>some .none
  |.Name A _=>match w.lookup A with|some d=>some d|none=>if g.global A then C.const A else none
  |.Tuple F _ _=>(fv C n g w F).bind λI=>if bG I.length 1000000 then some (.tuple I)else none
  |.List F _=>(fv C n g w F).bind λI=>if bG I.length 1000000 then some (.list I)else none
  |.BinOp N c Q _=>(bc C n g w N).bind λB=>(bc C n g w Q).bind λE=>C.bin c B E
  |.UnaryOp c A _=>(bc C n g w A).bind λB=>C.un c B
  |.Compare N [c] [Q] _=>if nd c Q then none else(bc C n g w N).bind λB=>(bc C n g w Q).bind λE=>(C.cmp c B E).map .bool
  |.IfExp V B E _=>(fW C n g w V).bind λk=>if k then bc C n g w B else bc C n g w E
  |.Subscript H P _=>(qm P).elim ((bc C n g w H).bind λB=>(bc C n g w P).bind λE=>C.item B E) λq=>(bc C n g w H).bind λB=>(sZ C n g w q.1).bind λN=>(sZ C n g w q.2.1).bind λab=>(sZ C n g w q.2.2).bind λV=>C.slice B N ab V
  |.Attribute H A _=>(C_ g w H).elim (if o1 H then(bc C n g w H).bind λB=>C.attr B A else none) λs=>C.hk s A
  |.Call (.Attribute X ac R) y [] al=>if o1 X&&bG y.length 20&&R.endLine==al.line then(bc C n g w X).bind λB=>(fv C n g w y).bind λI=>C.en B ac I else none
  |.Call (.Name s _) y [] _=>if g.global s&&(w.lookup s).isNone then
    (qo y).elim ((rF s y).elim ((fv C n g w y).bind λI=>C.call s I) λK=>if g.global K.1&&(w.lookup K.1).isNone then(fv C n g w K.2).bind λI=>(gZ I).map .list else none) λA=>(bc C n g w A).bind λd=>(tO d).bind λI=>if bG I.length 1000000 then C.call s I else none
   else none
  |.Dict U W _=>JA U W
  |.ListComp L (⟨j,G,M,k⟩::T) D _=>if k==0 then(g.comp D).bind λZ=>(fI C n g w j G).bind λI=>
    (oh C n Z (h2 D w) L j M T I).bind λJ=>if bG J.length 1000000 then some (.list J)else none
   else none
  |_=>none
noncomputable def sZ(h:b0):Nat->aZ->bQ->Option ai->Option aa
 |0,_,_,_=>none
 |n+1,a,w,f=>match f with|none=>some .none|some f=>bc h n a w f
noncomputable def fv(h:b0):Nat->aZ->bQ->List ai->Option (List aa)
 |0,_,_,_=>ag
 |n+1,a,w,b=>match b with|[]=>I []|e::b=>if fX e then ag else(bc h n a w e).bind λd=>(fv h n a w b).bind λc=>I<|d::c
noncomputable def fW(q:b0):Nat->aZ->bQ->ai->Option Bool
 |0,_,_,_=>ag
 |n+1,g,w,e=>match e with|.UnaryOp .Not m _=>(fW q n g w m).map (!·)|.BoolOp c i _=>ow q n g w c i|.IfExp _ _ _ _=>ag|.Compare j [c] [h] _=>if nd c h then ag else(bc q n g w j).bind λs=>(bc q n g w h).bind λp=>q.cmp c s p|.Compare j [c,f] [h,d] _=>if nd f d then ag else(bc q n g w j).bind λs=>(bc q n g w h).bind λp=>(bc q n g w d).bind λe=>(q.cmp c s p).bind λk=>(q.cmp f p e).bind λt=>I (k&&t)|.Compare _ _ _ _=>ag|e=>(bc q n g w e).bind q.truth
noncomputable def ow(h:b0):Nat->aZ->bQ->uB->List ai->Option Bool
 |0,_,_,_,_=>ag
 |n+1,a,w,c,b=>match c,b with|.And,[]=>I ab|.Or,[]=>I au|.And,f::b=>(fW h n a w f).bind λk=>if k then ow h n a w .And b else I au|.Or,f::b=>(fW h n a w f).bind λk=>if k then I ab else ow h n a w .Or b
noncomputable def fI(h:b0):Nat->aZ->bQ->ai->ai->Option (List aa)
 |0,_,_,_,_=>ag
 |n+1,b,w,t,e=>match e with
  |.Call (.Name s c) y [] q=>if b.global s&&(w.lookup s).isNone then
    (if s==("range":ar)then(fv h n b w y).bind gZ
    else if s==("enumerate":ar)then(if yi t then(Ce y).bind λi=>(bc h n b w i).bind λd=>(lC d).map qT else ag)
    else if s==("zip":ar)then(if yi t then(Cf y).bind λi=>(bc h n b w i.1).bind λd=>(bc h n b w i.2).bind λg=>(lC d).bind λj=>(lC g).map λk=>qU j k else ag)
    else if s==("reversed":ar)then(Ce y).bind λi=>(bc h n b w i).bind λd=>(lC d).map List.reverse
    else(bc h n b w<|.Call (.Name s c) y [] q).bind tO)
   else ag
  |e=>(bc h n b w e).bind<|yj t
noncomputable def oh(q:b0):Nat->aZ->bQ->ai->ai->List ai->List m'->List aa->Option (List aa)
 |0,_,_,_,_,_,_,_=>ag
 |n+1,a,w,b,t,p,f,e=>match e with
  |[]=>I []
  |d::e=>(kU a t d w).bind λl=>(ow q n a l .And p).bind λk=>
    (if k then match f with
     |[]=>(bc q n a l b).map λm=>[m]
     |⟨i,h,c,j⟩::g=>if j==0 then(fI q n a l i h).bind λs=>oh q n a l b i c g s else ag
    else I []).bind λxs=>(oh q n a w b t p f e).bind λy=>I<|xs++y
end
section
variable{C:bC}
structure bj(C:bC)(c:bX)(S:aZ)(aO:bQ)(s:Shared):Prop where
 sc:c.env.scope=S.sc
 glob:c.env.globals=C.G
 blt:c.env.builtins=C.B
 aT:∀a,C.T a->c.X a
 own:∀x,S.own.contains x=true->jj x=true->BM c x
 cells:∀n,(S.sc.names.lookup n=some .cell\/S.sc.names.lookup n=some .free)->∃a,c.env.cells.lookup n=some a
 names:∀x d,aO.lookup x=some d->mw C c s x d
 loc:hS C c s
def mw.ext'(w:mw C g l m d)(r:∀i,C.T i->g.X i)(h:ak C l J):mw C g J m d:=
 let⟨f,i,p⟩:=w;⟨f,i.ext h,p.mono λp A j k=>h.keep p A k λq=>j<|r p q⟩
theorem bj.ext(k:bj C g a w l)(m:ak C l J):bj C g a w J:=⟨k.sc,k.glob,k.blt,k.aT,k.own,k.cells,λb d f=>(k.names b d f).ext' k.aT m,k.loc.ext m⟩
def yM(j:pU a f d w=I l):∃m s,f=.Name m s/\(a.own.contains m&&jj m)=ab/\(m,d)::w=l:=bK j λb k j=>⟨b.1,b.2,jW k,cj j⟩
def yN(ae:(a.own.contains m&&jj m)=ab):pU a (.Name m s) d w=I ((m,d)::w):=if_pos ae
inductive x7(S:aZ):List ai->List aa->bQ->bQ->Prop
 |nil (aO):x7 S [] [] aO aO
 |cons {x p bf d ds aO qz} (ae:(S.own.contains x&&jj x)=true):x7 S bf ds ((x,d)::aO) qz->x7 S (.Name x p::bf) (d::ds) aO qz
def q2:∀{c:List aa}{w l:bQ},er a b c w=I l->x7 a b c w l:=by
 induction b with
 |nil=>
  intro c w l j;induction c using a8 with|nil=>exact aS j▸.nil _|cons=>exact nS j
 |cons f b k=>
  intro c w l j;induction c using a8 with
  |nil=>exact nS j
  |cons d c=>
   refine bK j λn g q=>?_;obtain⟨m,r,s,ae,i⟩:=yM g;rw[s];exact .cons ae<|k<|i▸q
inductive BJ(S:aZ):ai->aa->bQ->bQ->Prop
 |name {x p d aO} (ae:(S.own.contains x&&jj x)=true):BJ S (.Name x p) d aO ((x,d)::aO)
 |tuple {bf k p ds aO qz} (h:er S bf ds aO=some qz):BJ S (.Tuple bf k p) (.tuple ds) aO qz
def aet(j:xc d=I k):d=.tuple k:=by by_cases w:d.ctorIdx=5;exact aa.tuple.elim (motive_1:=λd=>xc d=I k->d=.tuple k) d w (λi j=>congrArg _<|aS j) j;exact nS<|(dif_neg w).symm.trans j
def yO(j:dq a r d w=some l):BJ a r d w l:=by
 replace j:(js r).elim (pU a r d w) (λe=>(xc d).bind λq=>er a e.1 q w)=some l:=j;induction k:js r using b7 with
 |none=>
  rw[k]at j;obtain⟨m,f,s,ae,b⟩:=yM j;rw[s,<-b];exact .name ae
 |some e=>
  rw[k]at j;exact bK j λq c j=>by rw[ua k,aet c];exact .tuple j
def D6{b a:ar}(j:b∉a::k):b∉[a]:=λc=>j<|cm.mp c▸eB
def D7{b a:ar}(j:b∉a::k):b∉k:=λc=>j<|eA _ c
def z1{b m:ar}(j:b∉[m]):b≠m:=λf=>j<|cm.mpr f
def IH(k:bj C b a j l)(L:bh C b.X b.A b.fuel l)(O:pU a t d j=I i)(T:Rz b.X l.heap m d)(q:∀J,dn C b l J->bj C b a i J->(∀D F,D∉xb t->bH C l.heap b.env D F->bH C J.heap b.env D F)->n () J):aB (aK C.prog C.w) b.A (gR t b.env m) n f l:=by
 obtain⟨R,U,rfl,ae,rfl⟩:=yM O;clear O;rw[PL];refine av<|dc<|Cp L k.loc (k.own R (aM ae).1 (aM ae).2) λJ st N M H=>q J st ⟨k.sc,k.glob,k.blt,k.aT,k.own,k.cells,λD K G=>?_,N⟩ λD F B=>H D F<|z1 B;rw[ep]at G;induction B:D==R using cq with
 |true=>
  rw[B]at G;exact bL B▸⟨m,M,aS G▸st.nW L k.loc T⟩
 |false=>
  rw[B]at G;exact(k.names D K G).elim λF P=>⟨F,H D F (by simpa using B) P.1,st.nW L k.loc P.2⟩
def Ci:∀{b:List ai}{c:List aa}{w l:bQ},er a b c w=I l->b.length=c.length/\uN b env=b.map (λf=>(au,gR f env)):=by intro b c w l d;have j:=q2 d;clear d;induction j with|nil=>exact⟨rfl,rfl⟩|@cons q n b k t s y m i g=>exact⟨congrArg (·+1) g.1,congrArg ((au,gR (.Name q n) env)::·) g.2⟩
def H8{xs:List aq}:uO (r::m) (a::xs)=(fV xs (r a)>>=λk=>uO m xs):=rfl
set_option tactic.hygienic true in
def ID:∀{b:List ai}{i:List aa}{j:List aq}{m l:bQ}{f:ax},bj C a ac m f->bh C a.X a.A a.fuel f->er ac b i m=I l->RzL a.X f.heap j i->(∀J,dn C a f J->bj C a ac l J->(∀H M,H∉(b.filterMap tB)->bH C f.heap a.env H M->bH C J.heap a.env H M)->al () J)->aB (aK C.prog C.w) a.A (uO (b.map λP=>gR P a.env) j) al am f:=by
 intro b i j m l f k R O ad q;have K:=q2 O;clear O;induction K generalizing j f with
 |nil=>cases ad;exact aY<|q f (dn.refl f) k λab ab ab O=>O
 |@cons ah af b d i m l ae K U=>
  cases ad;rename_i ag N V W;show aB _ _ (uO (gR (.Name ah af) a.env::b.map λP=>gR P a.env)<|ag::N) _ _ _;rw[H8];refine av<|c6<|IH k R (yN ae) V λn st D Y=>?_;refine U D (R.step st) (dn.rH R k.loc st W) λG t F B=>q G (st.trans t) F λH M L T=>?_;exact B H M (D7 L)<|Y H M (D6 L) T
theorem dn.of_keep(k:∀p d,s.heap.get? p=I d->h.get? p=I d)(y:s.toks<=ey):dn C g s {s with heap:=h,toks:=ey}:=.jR<|ak.of_keep k y
def J6{b:List ai}:(b.map λf=>(au,gR f a)).findIdx? (·.1)=ag:=by rw[List.findIdx?_eq_none_iff];intro m ae;simp at ae;obtain⟨k,k,rfl⟩:=ae;rfl
set_option tactic.hygienic true in
def Co(k:bj C c m j l)(L:bh C c.X c.A c.fuel l)(F:dq m t d j=I i)(Z:Rz c.X l.heap al d)(q:∀J,dn C c l J->bj C c m i J->(∀H N,H∉xb t->bH C l.heap c.env H N->bH C J.heap c.env H N)->ac () J):aB (aK C.prog C.w) c.A (gR t c.env al) ac am l:=by
 have P:=yO F;clear F;cases P with
 |name ae=>exact IH k L (yN ae) Z q
 |tuple F=>
  cases Z;rename_i aa V af ad D p;have B:=Ci (env:=c.env) F;have O:l.heap.IsTuple aa V.toArray:=⟨_,D,rfl,af,rfl⟩;refine wpAny_assign_Tuple L.handled O (by rw[B.2];simp[B.1,p.length]) (by rw[B.2];exact J6) λf ae=>?_;have kp:∀K M,l.heap.get? K=I M->f.get? K=I M:=λK M Y=>ae K M (fs<|fe Y) Y;have G:ak C l {l with heap:=f}:=ak.of_keep kp;rw[B.2,m7];exact ID (k.ext G) (L.ext G) F (L.fR G p) λJ st U W=>q J ((dn.jR G).trans st) U λH N T R=>W H N T<|R.ext G
def vn(C:bC)(g:bX)(t:ai)(e:aq)(m:List aE)(q:List aa)(l:ax):Prop:=∃St,d9 C g.A g.X (λp=>∃d,l.heap.get? p=I d) t e m q St/\St 0 l.heap
def dN(C:bC)(g:bX)(t d:ai)(r:ax)(q:List aa):Prop:=∀l,ak C r l->bh C g.X g.A g.fuel l->∀(h:aq->ax->Prop)(f:aq->ax->Prop),(∀a J m,ak C l J->(∀p∈m,l.heap.get? p=ag)->vn C g t a m q J->h a J)->aB (aK C.prog C.w) g.A (cn d g.env) (λi n=>aB (aK C.prog C.w) g.A (qP i) h f n) f l
def L'{j:cc}{i:aE}(k:¬i<j.objs.size):j.get? i=none:=by induction f:j.get? i using b7 with|none=>rfl|some d=>exact absurd (fe f) k
def iB{j:cc}{i:aE}(k:j.objs.size<=i):j.get? i=ag:=L'<|fD.mpr k
def gJ(j:cc):j.get? j.objs.size=ag:=L'<|jZ _
def ak.old(E:ak C l J)(D:bh C c r y l)(j:J.heap.get? i=none):l.heap.get? i=none:=by
 induction f:l.heap.get? i using b7 with
 |none=>rfl
 |some d=>
  by_cases p:C.T i;obtain⟨w,b,q⟩:=D.cA i<|D.aT i p;obtain⟨B,rfl⟩:=q p;obtain⟨F,k⟩:=E.tabs i p B b;rw[j]at k;cases k;rw[E.keep i d f p]at j;cases j
def RzL.s7(l:∀p∈m,j.get? p=ag)(k:∀p g,j.get? p=I g->a.get? p=I g)(w:RzL c j x d):RzL (fN c (λp=>∃g,a.get? p=I g) m) a x d:=by refine(w.more (Y:=fN c (λp=>∃g,a.get? p=I g) m) λp g f i=>?_).mono λp g n f=>k p g f;rcases i with(i|i)|i;exact i;exact absurd ⟨_,k p g f⟩ i;rw[l p i]at f;cases f
def RzL.wide{m:List aE}(g:∀p∈m,j.get? p=ag)(w:RzL c j x d):RzL (λi=>c i\/i∈m) j x d:=w.more λp l f k=>k.resolve_right λq=>by rw[g p q]at f;cases f
section
variable{c:bX}{bb:ax}{target e:ai}
set_option tactic.hygienic true in
theorem dN.list{B:List aa}(j:bq C c e bb (.list B)):dN C c target e bb B:=by intro l m F K f q;refine j l m F _ _ λM A I w=>?_;have k:=F.ext I;cases w;rename_i i bl J H t p;have D:A.heap.IsList i bl.toArray:=⟨_,t,rfl,J,rfl⟩;refine P9 D<|q _ _ [A.heap.objs.size] (I.trans ak.push) ?_ ⟨_,d9.list F.handled k.fresh ⟨_,dE _ rfl⟩ H ⟨_,dS _ t⟩ (fs<|fe t) p.length,?_⟩;exact c7<|I.old F<|gJ _;refine⟨⟨⟨_,dE _ rfl,rfl,rfl⟩,D.push _⟩,?_⟩;exact RzL.s7 (c7<|gJ _) (λL d G=>dS _ G) p
set_option tactic.hygienic true in
theorem dN.tuple(j:bq C c e bb (.tuple ds)):dN C c target e bb ds:=by intro K m D L f q;refine j K m D _ _ λN A I w=>?_;have k:=D.ext I;cases w;rename_i i H J G t p;have B:A.heap.IsTuple i H.toArray:=⟨_,t,rfl,J,rfl⟩;refine Hk B<|q _ _ [A.heap.objs.size] (I.trans ak.push) ?_ ⟨_,d9.tuple D.handled k.fresh ⟨_,dE _ rfl⟩ G ⟨_,dS _ t⟩ (fs<|fe t) p.length,?_⟩;exact c7<|I.old D<|gJ _;refine⟨⟨⟨_,dE _ rfl,rfl,rfl⟩,B.at λd l=>dS _ l⟩,?_⟩;exact RzL.s7 (c7<|gJ _) (λM d F=>dS _ F) p
set_option tactic.hygienic true in
theorem dN.eb(j:bq C c e bb (.eb b d)):dN C c target e bb (b.map .int):=by intro l m F O f q;refine j l m F _ _ λP B J M=>?_;have k:=F.ext J;refine Rz.eH M λi K L I G H t D p N e=>?_;subst e;have A:=D.dictOf (prog:=C.prog) (w:=C.w) p t;refine wpAny_pyIter_dict H A<|q _ _ [B.heap.objs.size] (J.trans ak.push) ?_ ⟨_,d9.eb (wd:=b.zip I) (CR:=L) F.handled k.fresh ⟨_,dE _ rfl⟩ G ⟨_,dS _ t⟩ (fs<|fe t)<|uq<|cL D.len,?_⟩;exact c7<|J.old F<|gJ _;exact⟨⟨⟨_,dE _ rfl,rfl,rfl⟩,A.push _⟩,trivial⟩
theorem dN.str(j:bq C c e bb (.str m)):dN C c target e bb (pK m):=by
 intro l b a d f q;refine j l b a _ _ λp n b w=>?_;have k:=a.ext b;cases w with
 |str i t=>
 refine wpAny_pyIter_strU<|q _ _ [n.heap.objs.size] (b.trans ak.push) ?_ ⟨_,d9.str (t:=t) a.handled k.fresh ⟨_,dE _ rfl⟩,?_⟩;exact c7<|b.old a<|gJ _;exact⟨⟨_,dE _ rfl,rfl,rfl⟩,trivial⟩
def vD(B:ei C d)(t:k.any (·.1)=au)(F:j' C c k bb a)(H:ak C bb b)(e:bh C c.X c.A c.fuel b)(q:∀p J,ak C b J->RzL c.X J.heap p a->aB (aK C.prog C.w) c.A (e8 d p []) m i J):aB (aK C.prog C.w) c.A (ic j d [] k []) m i b:=by exact yR (first:=[]) t<|zb t F H e λp n D G=>⟨rfl,B n.heap (e.ext D).ok,q p n D G⟩
def Ap{i p c:Int}(j:kz i p c=ab):Pe i p c=ab/\c≠0/\jz i p c<=1000000:=by unfold kz at j;simp only[c0,decide_eq_true_eq]at j;exact⟨j.1.1,j.1.2,j.2⟩
def MM(i p c:Int):0<=jz i p c:=by unfold jz;split;split;have:0<=(p -i -1)/c:=afA (afD<|Oz o)<|hK o;exact Oo this z;exact iG _;split;have:0<=(i -p -1)/ -c:=afA (afD<|Oz o)<|Int.neg_nonneg_of_nonpos<|g8.mp o;exact Oo this z;exact iG _
def dN.ofRange(F:bh C c.X c.A c.fuel l)(I:ak C l n)(H:IsRange n.heap m i p k x d B)(K:kz i p k=ab) (q:∀e J D,ak C l J->(∀p∈D,l.heap.get? p=ag)->vn C c target e D (jr i k (jz i p k).toNat) J->j e J):aB (aK C.prog C.w) c.A (qP<|.ref m) j f n:=by obtain⟨G,L,M⟩:=Ap K;refine wpAny_pyIter_range H G<|q _ _ [n.heap.objs.size] (I.trans ak.push) ?_ ⟨_,d9.range F.handled (F.ext I).fresh ⟨_,dE _ rfl⟩,?_⟩;exact c7<|I.old F<|gJ _;have:=MM i p k;refine⟨?_,trivial⟩;show ag0 _ _=_;rw[dE _ rfl];simp[qA this]
inductive yt:List aa->List aa->Prop
 |one {b} (h:kz 0 b 1=true):yt [.int b] (jr 0 1 (jz 0 b 1).toNat)
 |two {a b} (h:kz a b 1=true):yt [.int a,.int b] (jr a 1 (jz a b 1).toNat)
 |three {a b c} (h:kz a b c=true) (Xs:pv (b -a) c=false):yt [.int a,.int b,.int c] (jr a c (jz a b c).toNat)
def MK(j:gZ k=I d):yt k d:=by
 induction k using a8 with
 |nil=>exact nS j
 |cons i k=>
 cases i<;>try exact nS j
 induction k using a8 with
 |nil=>have e:=cj j;exact e.2▸.one e.1
 |cons p k=>
 cases p<;>try exact nS j
 induction k using a8 with
 |nil=>have e:=cj j;exact e.2▸.two e.1
 |cons c k=>
 cases c<;>try exact nS j
 induction k using a8 with|cons=>exact nS j|nil=>have e:=cj j;exact e.2▸.three (aM e.1).1 (ks (aM e.1).2)
set_option tactic.hygienic true in
def dN.range(D:ng C c i (.type "range"))(p:e9 C c b bb a)(H:gZ a=I d) (k:cn (.Call i b [] j) c.env=(cn i c.env>>=λK=>ic j K [] (j1 j<|ha b c.env)<|oa j<|ob [] c.env)):dN C c target (.Call i b [] j) bb d:=by
 intro J M A N f q;rw[k];refine av<|D J A _ _<|vD (.typ _) (p j).2 (p j).1 M A λL n G F=>?_;cases MK H with
 |one l=>
  cases F;rename_i w m;cases m;cases w;exact call_range_1<|dN.ofRange (target:=target) A (G.trans ak.push) (xH ..) l q
 |two l=>
  cases F;rename_i w m;cases m;rename_i m e;cases e;cases w;cases m;exact call_range_2<|dN.ofRange (target:=target) A (G.trans ak.push) (xH ..) l q
 |three l B=>
  cases F;rename_i w m;cases m;rename_i m e;cases e;rename_i e t;cases t;cases w;cases m;cases e;exact call_range_3 (Ap l).2.1 (dN.ofRange (target:=target) A (G.trans ak.push) (xH ..) l q)<|.inl B
set_option tactic.hygienic true in
theorem dN.enum{ft:List ai}(S:ng C c d (.type "enumerate"))(p:e9 C c [i] bb [.list f]) (B:cn (.Call d [i] [] j) c.env=(cn d c.env>>=λad=>ic j ad [] (j1 j<|ha [i] c.env)<|oa j<|ob [] c.env)):dN C c (.Tuple ft k al) (.Call d [i] [] j) bb (qT f):=by intro ac ae e ag af q;rw[B];refine av<|S ac e _ _<|vD (.typ _) (p j).2 (p j).1 ae e λL A N ab=>?_;cases ab;rename_i w m;cases m;cases w;rename_i Z L aa R t K;have I:A.heap.IsList Z L.toArray:=⟨_,t,rfl,aa,rfl⟩;have G:=e.ext N;have J:∀i,A.heap.objs.size<=i->¬c.X i:=λi p T=>(G.cA _ T).elim λM W=>fD.mpr p<|fe W.1;have F:=fe t;refine call_enumerate_list I λY H D U kp=>ahV H ?_;refine q _ _ [A.heap.objs.size+1,A.heap.objs.size] (N.trans<|ak.of_keep kp) ?_ ⟨_,d9.enum e.handled (J _<|b_ _ _) (J _<|bM _) R ⟨_,H⟩ (D.imp λM=>i8) ⟨_,kp _ _ t⟩ (i_<|e5 _) (fs<|uu F) (fs F) K.length,?_⟩;exact lZ (N.old e<|iB<|b_ _ _)<|N.old e<|gJ _;refine⟨⟨⟨_,H⟩,D,I.at λM P=>kp _ _ P⟩,?_⟩;exact RzL.s7 (lZ (iB<|b_ _ _)<|gJ _) (λV M O=>kp V M O) K
set_option tactic.hygienic true in
theorem dN.rev(K:ng C c i (.type "reversed"))(G:e9 C c [h] bb [.list f]) (B:cn (.Call i [h] [] j) c.env=(cn i c.env>>=λP=>ic j P [] (j1 j<|ha [h] c.env)<|oa j<|ob [] c.env)):dN C c target (.Call i [h] [] j) bb f.reverse:=by
 intro O R e T S q;rw[B];refine av<|K O e _ _<|vD (.typ _) (G j).2 (G j).1 R e λbl d L N=>?_;cases N;rename_i w m;cases m;cases w;rename_i k bl M J t p;have F:d.heap.IsList k bl.toArray:=⟨_,t,rfl,M,rfl⟩;have D:=e.ext L;have H:=fe t;have A:(d.heap.push<|revObj k<|(bl.toArray.size:Int) -1).IsRevIter d.heap.objs.size k ((bl.toArray.size:Int) -1):=⟨_,dE _ rfl,rfl,rfl⟩;refine call_reversed_list F<|wpAny_pyIter_revIter A ?_;refine q _ _ [d.heap.objs.size] (L.trans ak.push) ?_ ⟨_,d9.rev (bl:=bl) e.handled D.fresh ⟨_,dE _ rfl⟩ J ⟨_,dS _ t⟩ (fs H) p.length,?_⟩;exact c7<|L.old e<|gJ _;refine⟨⟨dV _,?_,F.push _⟩,?_⟩;have:(bl.toArray.size:Int) -1=(f.length:Int) -1 -((0:Nat):Int):=by simp[p.length]
 rw[this]at A ⊢;exact A;exact RzL.s7 (c7<|gJ _) (λU V I=>dS _ I) p
set_option tactic.hygienic true in
theorem dN.zip{ft:List ai}(W:ng C c i (.type "zip"))(p:e9 C c [a,b] bb [.list ds,.list bf]) (B:cn (.Call i [a,b] [] j) c.env=(cn i c.env>>=λam=>ic j am [] (j1 j<|ha [a,b] c.env)<|oa j<|ob [] c.env)):dN C c (.Tuple ft k al) (.Call i [a,b] [] j) bb (qU ds bf):=by intro aj an e aq ao q;rw[B];refine av<|W aj e _ _<|vD (.typ _) (p j).2 (p j).1 an e λbl d ab ah=>?_;cases ah;rename_i w m;cases m;rename_i m aa;cases aa;cases w;rename_i O bl af U t R;cases m;rename_i P us Z M A G;have L:d.heap.IsList O bl.toArray:=⟨_,t,rfl,af,rfl⟩;have D:d.heap.IsList P us.toArray:=⟨_,A,rfl,Z,rfl⟩;have I:=e.ext ab;have f:∀a,d.heap.objs.size<=a->¬c.X a:=λa p Y=>(I.cA _ Y).elim λF ad=>fD.mpr p<|fe ad.1;have N:=fe t;have J:=fe A;have T:ZipApart (d.heap.objs.size+4) (d.heap.objs.size+2) (d.heap.objs.size+3) d.heap.objs.size (d.heap.objs.size+1) O P:=ktu_apart _ _ _ N J;refine call_zip_2 L D λae ue xk xl AR S ac kp=>ahW ue ?_;have K:∀b∈[d.heap.objs.size+4,d.heap.objs.size+3,d.heap.objs.size,d.heap.objs.size+1],d.heap.get? b=ag:=oS (iB<|b_ _ _) (iB<|b_ _ _) (iB<|bM _)<|iB<|b_ _ _;refine q _ _ [d.heap.objs.size+4,d.heap.objs.size+3,d.heap.objs.size,d.heap.objs.size+1] (ab.trans<|ak.of_keep kp) (λb V=>ab.old e<|K b V) ⟨_,d9.zip (bl:=bl) (us:=us) e.handled T (f _<|b_ _ _) (f _<|b_ _ _) (f _<|b_ _ _) (f _<|bM _) (f _<|b_ _ _) U M ⟨_,ue⟩ ⟨_,xk⟩ ⟨_,xl⟩ (AR.imp λF=>i8) (S.imp λF=>i8) ⟨_,kp _ _ t⟩ ⟨_,kp _ _ A⟩ R.length G.length,?_⟩;exact⟨⟨ue,xk,⟨_,_,xl⟩,AR,S,L.at λF l=>kp _ _ l,D.at λF l=>kp _ _ l⟩,RzL.s7 K (λb F H=>kp b F H) R,RzL.s7 K (λb F H=>kp b F H) G⟩
end
def nq(C:bC)(g:bX)(p:List ai)(a:ax)(k:Bool):Prop:=
 ∀l,ak C a l->bh C g.X g.A g.fuel l->∀(h:Bool->ax->Prop)(f:aq->ax->Prop),(∀J,ak C l J->h k J)->
  aB (aK C.prog C.w) g.A (iF p ab λb d=>if d=ab then do let j<-isTrue b g.env (cn b g.env);bg (hJ j)else bg (hJ d)) h f l
def aee:∀{p:List ai}{l:ax}{h:Bool->ax->Prop}{f:aq->ax->Prop},h au l->
  aB c b (iF p au λg w=>if w=ab then do let j<-isTrue g a (cn g a);bg (hJ j)else bg (hJ w)) h f l:=by
 intro p
 induction p with
 |nil=>
  exactλq=>aY q
 |cons g i d=>
  exactλq=>by rw[m3];exact av<|aY<|d q
def nq.nil:nq C a [] r ab:=λl m e h f q=>aY<|q l<|ak.refl l
def nq.cons{d:bX}{r:ax}{e:ai}{b:List ai}{k lS:Bool}(j:gb C d e r k)(i:k=true->nq C d b r lS):nq C d (e::b) r (k&&lS):=by intro l m p w f q;rw[m3];refine av ?_;rw[if_pos rfl];refine av<|j l m p _ _ λn a=>aY ?_;induction k using cq with|false=>exact aee (q n a)|true=>exact i rfl n (m.trans a) (p.ext a) _ _ λJ t=>by simpa using q J<|a.trans t
def Jn(q:y[k]?=I ⟨t,l,p,0⟩)
  (c:fF (aK C.prog C.w) r (.compLoop (.ListComp d y i j) k e b a) D n)
  (F:∀G,aB (aK C.prog C.w) r (qP e) (λg J=>fF (aK C.prog C.w) r (.compLoop (.ListComp d y i j) k g b a) D J) G n):
  fF (aK C.prog C.w) r (.compStart (.ListComp d y i j) k e b a) D n:=by
 refine G0 ?_
 show aB _ _ ((compStart (.ListComp d y i j) k e b a).onRaise (λm=>do G_ m a;fG theWindowsPlace)) _ _ n
 refine wpAny_notedAt ?_
 unfold compStart
 rw[show clausesOf (.ListComp d y i j)=y from rfl,q]
 show aB _ _ (ask>>=_) _ _ n
 refine av<|P7<|x2 ?_
 split
 first
  |exact av<|aY<|aY<|F3 rfl c
  |exact aY<|F3 rfl c
 first
  |exact av<|oc<|av<|dc<|av<|ff (F _) (λg J f=>aY<|F3 rfl f) λB B m=>m
  |(refine av<|oc ?_;show aB _ _ (fG l.pos>>=_) _ _ n;exact av<|dc<|av<|ff (F _) (λg J f=>aY<|F3 rfl f) λB B m=>m)
def I5(C:bC)(d:ai)(y:List m')(i:gQ)(j:a7)(k:Nat)(e c:aq)(q:kK)(l:dI)(h:nc->ax->Prop)(p:aq->ax->Prop)(a:ax):Option m'->Prop
 |some b=>b.is_async=0/\(∀m,G8 b.iter q m=bg m)/\aB (aK C.prog C.w) l (cn b.iter q) (λm n0=>aB (aK C.prog C.w) l (qP m) (λg n=>
   fF (aK C.prog C.w) l (.compStart (.ListComp d y i j) (k+1) g c q) (λB t=>∃s,B=.ok s/\fF (aK C.prog C.w) l (.compLoop (.ListComp d y i j) k e c q) h t) n) p n0) p a
 |none=>aB (aK C.prog C.w) l (cn d q) (λm n0=>aB (aK C.prog C.w) l (e8 (.builtin "list.append") [c,m]) (λD n=>fF (aK C.prog C.w) l (.compLoop (.ListComp d y i j) k e c q) h n) p n0) p a
def Ta(C:bC)(d:ai)(y:List m')(i:gQ)(j:a7)(k:Nat)(l c:aq)(q:kK)(s:dI)(h:nc->ax->Prop)(f:aq->ax->Prop)(b:ai)(p:List ai)(n:ax):Option aq->Prop
 |none=>h (.ok .next) n
 |some t=>aB (aK C.prog C.w) s (uQ b l t) (λD g=>aB (aK C.prog C.w) s (gR b q t) (λD eI=>
   aB (aK C.prog C.w) s (iF p ab λx B=>if B=ab then do let m<-isTrue x q (cn x q);bg (hJ m)else bg (hJ B)) (λm a=>
    cond m (I5 C d y i j k l c q s h f a y[k+1]?) (fF (aK C.prog C.w) s (.compLoop (.ListComp d y i j) k l c q) h a)) f eI) f g) f n
def Uq(Q:y[k]?=some ⟨t,l,p,0⟩)
  (N:∀W,aB (aK C.prog C.w) c (ly e) (λO n=>Ta C d y i j k e b a c h W t p n O) W g):
  fF (aK C.prog C.w) c (.compLoop (.ListComp d y i j) k e b a) h g:=by
 refine G0 ?_
 show aB _ _ ((compTurn (.ListComp d y i j) k e b a).onRaise (λm=>do G_ m a;P4 m)) _ _ g
 refine P8 ?_
 unfold compTurn
 dsimp only
 rw[Q]
 refine av<|dc<|av<|ff (N _) (λO n H=>?_) λB B m=>m
 induction O using b7 with
 |none=>exact aY H
 |some af=>
  refine av<|ff H (λB U J=>av<|ff J (λB eI K=>av<|ff K (λT L q=>?_) λB B m=>m) λB B m=>m) λB B m=>m;induction T using cq with
  |false=>exact aY ⟨rfl,q⟩
  |true=>
   replace q:I5 C d y i j k e b a c h _ L y[k+1]?:=q;generalize y[k+1]?=ab at q ⊢;induction ab using b7 with
   |none=>exact av<|av<|ff q (λm n0 D=>av<|ff D (λB M F=>aY<|aY ⟨rfl,F⟩) λB B m=>m) λB B m=>m
   |some P=>
    obtain⟨ac,aa,Y,ad⟩:=P;obtain⟨I,S,q⟩:=q;replace I:ad=0:=I;subst I;refine av<|ff q (λm n0 D=>av<|dc<|av ?_) λB B m=>m;refine BH (S m)<|av<|c6<|ff D (λX M F=>av ?_) λB B m=>m;refine wpAny_onRaise<|wpAny_run<|codeAny_mono F λO V G=>?_;obtain⟨ae,rfl,G⟩:=G;exact aY ⟨rfl,G⟩
noncomputable def bX.grow(c:bX)(W:List aE):bX:={c with X:=λi=>c.X i\/i∈W}
structure dF(C:bC)(W:List Addr)(s J:Shared):Prop where
 same:∃h ey,J={s with heap:=h,toks:=ey}
 keep:∀b aQ,s.heap.get? b=some aQ->¬C.T b->b∉W->J.heap.get? b=some aQ
 tabs:∀b,C.T b->∀bP,s.heap.get? b=some (tableObj bP)->∃more,J.heap.get? b=some (tableObj<|bP++more)
 ok:C.ew s.heap->C.ew J.heap
 toks:s.toks<=J.toks
def dF.of{c:List aE}{l:ax}{B:cc}{m:Nat}(g:∀i∈c,¬C.T i)(ao:∀i∈c,¬C.P i)(w:∀i∈c,∀d,l.heap.get? i=I d->¬fz d)(k:∀p d,p∉c->l.heap.get? p=I d->B.get? p=I d)(D:l.toks<=m:=by first|exact bM _|exact lp _|assumption|exact b_ _ 2|exact b_ _ 3):dF C c l {l with heap:=B,toks:=m}:=by refine⟨⟨_,_,rfl⟩,λp d f G F=>k p d F f,λp r E f=>⟨#[],?_⟩,λj=>C.lb _ _ j λp d A f=>k p d (λq=>A.elim (g p q) λx=>x.elim (ao p q)<|w p q d f) f,D⟩;simpa using k p _ (λq=>g p q r) f
structure cu(C:bC)(c:bX)(W:List Addr)(s J:Shared):Prop where
 same:∃h ey,J={s with heap:=h,toks:=ey}
 keep:∀b aQ,s.heap.get? b=some aQ->¬C.T b->¬c.Y b->b∉W->J.heap.get? b=some aQ
 tabs:∀b,C.T b->∀bP,s.heap.get? b=some (tableObj bP)->∃more,J.heap.get? b=some (tableObj<|bP++more)
 ok:C.ew s.heap->C.ew J.heap
 all:∀b aQ,s.heap.get? b=some aQ->¬C.T b->b∉W->∃D9,J.heap.get? b=some D9
 toks:s.toks<=J.toks
def dF.bx(j:dF C d l J)(k:∀i∈d,i∈gV):cu C c gV l J:=⟨j.same,λp g f r m n=>j.keep p g f r λq=>n<|k p q,j.tabs,j.ok,λp g f r n=>⟨g,j.keep p g f r λq=>n<|k p q⟩,j.toks⟩
def dn.bx(j:dn C c l J):cu C c a l J:=⟨j.same,λp d f r g k=>j.keep p d f r g,j.tabs,j.ok,λp d f r k=>j.all p d f r,j.toks⟩
theorem ak.bx(j:ak C l J):cu C c a l J:=(dn.jR j).bx
def cu.trans(i:cu C g d l J)(p:cu C g d J cX):cu C g d l cX:=by refine⟨?_,λA B f r H n=>p.keep A B (i.keep A B f r H n) r H n,λA r G f=>?_,λj=>p.ok<|i.ok j,λA B f r n=>?_,aC i.toks p.toks⟩;obtain⟨j,k,rfl⟩:=i.same;obtain⟨I,q,rfl⟩:=p.same;exact⟨_,_,rfl⟩;obtain⟨K,f⟩:=i.tabs A r G f;obtain⟨E,f⟩:=p.tabs A r _ f;exact⟨K++E,by rw[f,AS]⟩;obtain⟨F,D⟩:=i.all A B f r n;exact p.all A F D r n
def cu.cut(i:cu C g d l J)(h:∀p,g.Y p->k.Y p)(j:∀p∈d,p∈gV\/l.heap.get? p=ag):cu C k gV l J:=by refine⟨i.same,λp m f r A n=>i.keep p m f r (λq=>A<|h p q) λq=>?_,i.tabs,i.ok,λp m f r n=>i.all p m f r λq=>?_,i.toks⟩;rcases j p q with x|x;exact n x;rw[x]at f;cases f;rcases j p q with x|x;exact n x;rw[x]at f;cases f
def bh.bx(y:bh C d c.A c.fuel l)(D:cu C c b l J)(E:∀i∈b,d i->¬C.T i/\∃F,J.heap.get? i=I F):bh C d c.A c.fuel J:=⟨y.handled,y.depth,y.units,y.guards,λi p=>by
  obtain⟨F,f,r⟩:=y.cA i p;by_cases j:C.T i;obtain⟨n,rfl⟩:=r j;obtain⟨G,f⟩:=D.tabs i j n f;exact⟨_,f,λk=>⟨_,rfl⟩⟩;by_cases h:i∈b;obtain⟨k,w,B⟩:=E i h p;exact⟨w,B,λq=>absurd q j⟩;obtain⟨w,B⟩:=D.all i F f j h;exact⟨w,B,λq=>absurd q j⟩,y.aT,D.ok y.ok,λf=>y.tok<|Gq.mp<|f▸D.toks⟩
structure ig(C:bC)(c:bX)(W:List Addr):Prop where
 loc:c.env.locals∉W
 cell:∀n a,c.env.cells.lookup n=some a->a∉W
 cA:∀a∈W,c.X a
def hS.jm(p:hS C c d)(B:ig C c b)(D:dF C b d J):hS C c J:=by refine⟨p.kind,?_,λA i f=>?_,p.apart,p.e1,p.bJ,p.hI,p.jt,p.dx,λM K f=>?_⟩;obtain⟨I,A⟩:=p.ns;exact⟨I,nP A λg f=>D.keep _ g f (p.hI _ p.e1) B.loc⟩;obtain⟨L,j⟩:=p.cell A i f;exact⟨L,pW j λg q=>D.keep _ g q (p.dx A i f).1<|B.cell A i f⟩;obtain⟨i,E,F,H⟩:=p.pin M K f;refine⟨i,E,F,?_⟩;rcases H with⟨k,r,I,G,f⟩|⟨k,ad,p,r,w⟩;exact .inl ⟨k,r,I,nP G λg f=>D.keep _ g f r B.loc,f⟩;exact .inr ⟨k,ad,p,r,pW w λg q=>D.keep _ g q r<|B.cell _ _ p⟩
def mw.jm(M:mw C c g i d)(K:∀D,C.T D->c.X D)(I:ig C c f)(st:dF C f g J):mw C c J i d:=by obtain⟨P,⟨D,n,E,H⟩,O⟩:=M;refine⟨P,⟨D,n,E,?_⟩,O.mono λp y j B=>st.keep p y B (λA=>j<|K p A) λq=>j<|I.cA p q⟩;rcases H with⟨k,A,N,G,B⟩|⟨k,ad,L,A,w⟩;exact .inl ⟨k,A,N,nP G λy B=>st.keep _ y B A I.loc,B⟩;exact .inr ⟨k,ad,L,A,pW w λy F=>st.keep _ y F A<|I.cell _ _ L⟩
theorem bj.jm(k:bj C c a w l)(g:ig C c b)(st:dF C b l J):bj C c a w J:=⟨k.sc,k.glob,k.blt,k.aT,k.own,k.cells,λh d f=>(k.names h d f).jm k.aT g st,k.loc.jm g st⟩
def bh.only{f:bX}(e:bh C f.X f.A f.fuel l)(m:dF C b l J)(t:∀i∈b,¬C.T i/\∃d,J.heap.get? i=I d):bh C f.X f.A f.fuel J:=e.bx (c:=f) (m.bx λk q=>q) λi q k=>t i q
def bj.sub(k:bj C g a l b)(j:∀i d,w.lookup i=I d->l.lookup i=I d):bj C g a w b:=⟨k.sc,k.glob,k.blt,k.aT,k.own,k.cells,λi d f=>k.names i d<|j i d f,k.loc⟩
theorem bj.grow(k:bj C c g w f)(h:∀p∈W,f.heap.get? p=ag)(m:ak C f J)(L:∀i,C.T i->∃E,f.heap.get? i=I E):bj C (c.grow W) g w J:=by
 have A:=k.loc.ext m;refine⟨k.sc,k.glob,k.blt,λi H=>.inl<|k.aT i H,k.own,k.cells,λD d B=>?_,?_⟩;obtain⟨K,i,M⟩:=k.names D d B;refine⟨K,i.ext m,?_⟩;have G:Rz (λi=>c.X i\/i∈W) f.heap K d:=M.more λp E B D=>D.resolve_right λq=>by rw[h p q]at B;cases B
 exact G.mono λp E j B=>m.keep p E B λH=>j<|.inl<|k.aT p H;exact⟨A.kind,A.ns,A.cell,A.apart,A.e1,λi D=>.inl<|A.bJ i D,A.hI,A.jt,λF i B=>⟨(A.dx F i B).1,(A.dx F i B).2.1,.inl (A.dx F i B).2.2⟩,A.pin⟩
def bj.shrink(k:bj C (g.grow i) f w h)(E:∀j,C.T j->g.X j)(x:∀j,g.Y j->g.X j)(D:∀B j,g.env.cells.lookup B=I j->g.X j):bj C g f w h:=by refine⟨k.sc,k.glob,k.blt,E,k.own,k.cells,λG d A=>?_,?_⟩;obtain⟨t,j,F⟩:=k.names G d A;exact⟨t,j,F.less λp q=>.inl q⟩;have m:=k.loc;exact⟨m.kind,m.ns,m.cell,m.apart,m.e1,x,m.hI,m.jt,λB j A=>⟨(m.dx B j A).1,(m.dx B j A).2.1,D B j A⟩,m.pin⟩
structure eV(C:bC)(c:bX)(uV:Addr)(rY:List aa)(s:Shared):Prop where
 bW:¬C.T uV
 mO:¬C.P uV
 off:ig C c [uV]
 wz:¬c.Y uV
 at':∃bl n,s.heap.get? uV=some ⟨.type "list",none,.seq ⟨bl⟩ n,#[]⟩/\RzL c.X s.heap bl rY
def eV.of_keep(i:eV C g m d s)(k:∀p h,s.heap.get? p=I h->(p=m\/¬g.X p)->J.heap.get? p=I h):eV C g m d J:=by obtain⟨x,y,f,w⟩:=i.at';exact⟨i.bW,i.mO,i.off,i.wz,x,y,k _ _ f<|.inl rfl,w.mono λp h j f=>k p h f<|.inr j⟩
def eV.step(i:eV C g m n l)(k:∀i,C.T i->g.X i)(x:∀i,g.Y i->g.X i)(st:dn C g l J):eV C g m n J:=i.of_keep λp d f j=>st.keep p d f (λr=>j.elim (λq=>i.bW<|q▸r) λq=>q<|k p r) λw=>j.elim (λq=>i.wz<|q▸w) λq=>q<|x p w
def eV.ext(i:eV C g m n l)(k:∀i,C.T i->g.X i)(st:ak C l J):eV C g m n J:=i.of_keep λp d f j=>st.keep p d f λr=>j.elim (λq=>i.bW<|q▸r) λq=>q<|k p r
def eV.jm(i:eV C c m n l)(k:∀i,C.T i->c.X i)(y:m∉d)(w:ig C c d)(st:dF C d l J):eV C c m n J:=i.of_keep λp g f j=>st.keep p g f (λr=>j.elim (λq=>i.bW<|q▸r) λq=>q<|k p r) λq=>j.elim (λx=>y<|x▸q) λx=>x<|w.cA p q
theorem eV.grow(i:eV C c m d l)(g:∀i,C.T i->c.X i)(h:∀p∈W,l.heap.get? p=ag)(q:ak C l J):eV C (c.grow W) m d J:=by obtain⟨k,y,f,w⟩:=i.at';refine⟨i.bW,i.mO,⟨i.off.loc,i.off.cell,λp j=>.inl<|i.off.cA p j⟩,i.wz,k,y,q.keep _ _ f i.bW,?_⟩;exact(w.wide h).mono λp A j f=>q.keep p A f λB=>j<|.inl<|g p B
def eV.shrink(i:eV C (g.grow f) m d l)(t:g.X m):eV C g m d l:=by obtain⟨x,y,k,w⟩:=i.at';exact⟨i.bW,i.mO,⟨i.off.loc,i.off.cell,λp j=>by replace j:=cm.mp j;exact j▸t⟩,i.wz,x,y,k,w.less λp q=>.inl q⟩
def vt(i:eV C c m g l)(S:Rz c.X l.heap t d)(R:g.length<=1000000)(q:∀J,dF C [m] l J->eV C c m (g++[d]) J->h .none J):aB (aK C.prog C.w) c.A (e8 (.builtin "list.append") [.ref m,t]) h f l:=by
 obtain⟨x,y,M,L⟩:=i.at';have K:(⟨x⟩:Array aq).size<=pC:=by have:=L.length;show x.length<=_;rw[gw];exact aC (cL o)<|aC o z
 refine sh Bf ⟨_,M,rfl⟩ PySem.F.entry_list_append (PySem.F.args_list_append_2 _ _) (AutoListH.list_append_list_val_0 m ⟨x⟩ y t K) ⟨M,?_⟩;have N:=uG (jA λk=>k.push t) M rfl;have P:xG m l.heap (l.heap.update m<|jA λk=>k.push t):=agZ ..;have kp:∀p D,p∉[m]->l.heap.get? p=I D->(l.heap.update m<|jA λk=>k.push t).get? p=I D:=λp D j B=>(P.2 p<|by simpa using j).trans B;have G:∀p D,¬c.X p->l.heap.get? p=I D->(l.heap.update m<|jA λk=>k.push t).get? p=I D:=λp D j B=>kp p D (λT=>j<|i.off.cA p T) B;show h .none _;obtain⟨H,O⟩:∃H,(l.heap.update m<|jA λk=>k.push t).get? m=I ⟨.type "list",ag,.seq ⟨x++[t]⟩ H,#[]⟩:=by rw[N];simp only[jA,afZ];exact⟨_,rfl⟩
 refine q _ (dF.of (c7 i.bW) (c7 i.mO) (c7<|wy M L3) kp) ⟨i.bW,i.mO,i.off,i.wz,x++[t],H,O,?_⟩;exact(L.mono λp D j B=>G p D j B).append<|.cons (S.mono λp D j B=>G p D j B) .nil
def b4(C:bC)(m:ar)(t:aq):Prop:=∀j,C.ew j->∃y,j.Ns C.G y/\(y m=I t\/(y m=ag/\∃r,j.Ns C.B r/\r m=I t))
noncomputable def wL:aa->Bool
 |.list _|.tuple _|.str _|.dict _|.eb _ _=>ab
 |_=>au
def vh(C:bC)(i:aa):Prop:=∀(c:aE->Prop)(l:ax)(d:aq),C.ew l.heap->Rz c l.heap d i->∃b id,l.TypeIs d b/\pD (.type b) "__getitem__"=bg (I<|.builtin id)
def yx(C:bC)(m x q B d:aa):Prop:=∀(c:aE->Prop)(r:dI)(y:Nat)(b:ax)(j g e i:aq)(p:aE),bh C c r y b->Rz c b.heap j m->b.heap.get? p=I {cls:=.type "slice",data:=.fields #[g,e,i]}->Rz c b.heap g x->Rz c b.heap e q->Rz c b.heap i B->∀(k:aq->ax->Prop)(f:aq->ax->Prop),(∀j J,ak C b J->Rz c J.heap j d->k j J)->aB (aK C.prog C.w) r (pB j<|.ref p) k f b
def lA(C:bC)(i:aa)(k:ar)(q:List aa)(j:Nat)(d:aa):Prop:=∃e:List aa,∀(c:aE->Prop)(r:dI)(y:Nat)(l:ax)(t:aq)(cE:ct Bool),bh C c r y l->Rz c l.heap t i->∀(h:aq×List aq->ax->Prop)(b:aq->ax->Prop),(∀g first J,ak C l J->ei C g->RzL c J.heap first e->cM C g (e++q) j d->h (g,first) J)->aB (aK C.prog C.w) r (getMethod t k cE) h b l
def vb(C:bC)(n:aq)(i q:List aa)(j:Nat)(d:aa):Prop:=∀(c:aE->Prop)(r:dI)(a:ax)(k:aE)(x g:List aq)(e:Nat),bh C c r j a->a.heap.get? k=I ⟨.type "list",ag,.seq ⟨x⟩ e,#[]⟩->¬c k->¬C.P k->RzL c a.heap x i->RzL c a.heap g q->∀(h:aq->ax->Prop)(b:aq->ax->Prop),(∀t J,dF C [k] a J->Rz c J.heap t d->h t J)->aB (aK C.prog C.w) r (e8 n (.ref k::g) []) h b a
def QV(C:bC)(g:b0):Prop:=∀i p q,g.bin .Add i p=I (.list q)->∀(c:aE->Prop)(r:dI)(y:Nat)(e:ax)(t d:aq),bh C c r y e->Rz c e.heap t i->Rz c e.heap d p->∀(h:aq->ax->Prop)(f:aq->ax->Prop),(∀k J x j,ak C e J->e.heap.get? k=ag->J.heap.get? k=I ⟨.type "list",ag,.seq ⟨x⟩ j,#[]⟩->RzL c J.heap x q->h (.ref k) J)->aB (aK C.prog C.w) r (eK .Add t d) h f e
def QW(C:bC)(g:b0):Prop:=∀b m d,g.hk b m=I d->∃t,b4 C b t/\∀(c:aE->Prop)(r:dI)(y:Nat)(l:ax),bh C c r y l->∀(h:aq->ax->Prop)(a:aq->ax->Prop),(∀e J,ak C l J->Rz c J.heap e d->h e J)->aB (aK C.prog C.w) r (xQ t m ab) h a l
structure cf(C:bC)(O:b0)(N:Nat):Prop where
 bin:∀op a b d,O.bin op a b=some d->dk C (binaryOp op) a b d
 un:∀op a d,O.un op a=some d->pO C (unaryOp op) a d
 cmp:∀op a b k,O.cmp op a b=some k->hQ C op a b k
 truth:∀a k,O.truth a=some k->vm C a k
 item:∀a b d,O.item a b=some d->vh C a/\dk C getItem a b d
 slice:∀a l h t d,O.slice a l h t=some d->vh C a/\yx C a l h t d
 attr:∀a x d,O.attr a x=some d->pO C (λv=>getAttr v x true) a d
 en:∀a m ds d,O.en a m ds=some d->lA C a m ds N d
 call:∀f ds d,O.call f ds=some d->∃v,b4 C f v/\ei C v/\cM C v ds N d
 const:∀x d,O.const x=some d->∃v,b4 C x v/\∀X h,Rz X h v d
 aug:∀op a b d,O.aug op a b=some d->dk C (inplaceOp op) a b d
 cat:QV C O
 move:∀f cx ds d,O.move f cx ds=some d->∃v,b4 C f v/\ei C v/\vb C v cx ds N d
 hk:QW C O
 range:b4 C "range" (.type "range")
 enum:b4 C "enumerate" (.type "enumerate")
 zip:b4 C "zip" (.type "zip")
 rev:b4 C "reversed" (.type "reversed")
 list:b4 C "list" (.type "list")
def Xl(k:bj C e d w l)(j:d.global m=ab)(B:b4 C m t):Hp C e.env m t:=by unfold aZ.global at j;simp only[c0,beq_iff_eq,ez]at j;refine⟨by rw[k.sc];exact j.1.1,by unfold Pj;rw[k.sc];exact j.1.2,j.2,λao A=>?_⟩;obtain⟨y,f,n⟩:=B ao A;exact⟨y,k.glob▸f,n.imp id λq=>⟨q.1,by obtain⟨r,i,p⟩:=q.2;exact⟨r,k.blt▸i,p⟩⟩⟩
def HU(C:bC)(V:b0)(U K:Nat):Prop:=∀(M:aZ)(E:bQ)(d t:ai)(p:List ai)(f:List m')(G r:List aa)(g:bX)(F:ax)(e:aE->Prop)(m:aE)(D:List aa)(k:Nat)(y:List m')(l:ai)(x:gQ)(L:a7)(H:aq)(B:List aE)(j:List aa)(St:Nat->cc->Prop)(Q:Nat),oh V K M E d t p f G=I r->U<=g.fuel->y.drop k=⟨t,l,p,0⟩::f->j.drop Q=G->Q<=j.length->oo C g.A e t H B j St->St Q F.heap->g.X=(λq=>e q\/q∈B)->(∀q,C.T q->e q)->(∀q,g.Y q->e q)->(∀K q,g.env.cells.lookup K=I q->e q)->e m->(∀W∈B,¬C.P W)->bh C g.X g.A g.fuel F->bj C g M E F->eV C g m D F->D.length+r.length<=1000000->∀(h:nc->ax->Prop),(∀J,cu C g (m::B) F J->bj C g M E J->eV C g m (D++r) J->h (.ok .next) J)->fF (aK C.prog C.w) g.A (.compLoop (.ListComp d y x L) k H (.ref m) g.env) h F
def Q5(C:bC)(h:b0)(t:Nat)(y:Nat):Prop:=∀a w f d g r,bj C g a w r->t<=g.fuel->sZ h y a w f=I d->mz C g (BC<|Bu f g.env) r d
def Q6(C:bC)(h:b0)(t:Nat)(y:Nat):Prop:=∀a w b q g r,bj C g a w r->t<=g.fuel->fv h y a w b=I q->e9 C g b r q
def Q4(C:bC)(h:b0)(t:Nat)(y:Nat):Prop:=∀a w d b k g r,bj C g a w r->t<=g.fuel->ow h y a w d b=I k->hP C g d b r k
def Q9(C:bC)(h:b0)(t:Nat)(y:Nat):Prop:=∀a w b k g r,bj C g a w r->t<=g.fuel->ow h y a w .And b=I k->nq C g b r k
def Q8(C:bC)(h:b0)(b:Nat)(y:Nat):Prop:=∀a w t f q g r,bj C g a w r->b<=g.fuel->fI h y a w t f=I q->dN C g t f r q
def Q7(h:b0)(y:Nat):Prop:=∀a w t f b,fI h y a w t f=I b->∀q m,G8 f q m=bg m
structure hz(C:bC)(O:b0)(N n:Nat):Prop where
 cW:∀S aO e d c bb,bj C c S aO bb->N<=c.fuel->bc O n S aO e=some d->bq C c e bb d
 CW:Q5 C O N n
 jN:Q6 C O N n
 jM:∀S aO e k c bb,bj C c S aO bb->N<=c.fuel->fW O n S aO e=some k->gb C c e bb k
 CV:Q4 C O N n
 Kj:Q9 C O N n
 s9:Q8 C O N n
 zc:Q7 O n
 C2:HU C O N n
def adn(I:b0)(H:Nat):hz C I H 0:=by refine⟨?_,?_,?_,?_,?_,?_,?_,?_,?_⟩;intro a w f d g r k y j;cases j;intro a w f d g r k y j;cases j;intro a w f d g r k y j;cases j;intro a w f d g r k y j;cases j;intro a w L f d g r k y j;cases j;intro a w f d g r k y j;cases j;intro a w M f d g r k y j;cases j;intro a w M f d j;cases j;intro a w E b p J q F g R A m n k B l x G K P D St Q j;cases j
variable{O:b0}{N n:Nat}
def qp(j:fX f=au):ha (f::b) a=(au,cn f a)::ha b a:=by cases f<;>first|rfl|exact tF j
def adi(A:cf C O N)(j:hz C O N n):∀a w b q g p,bj C g a w p->N<=g.fuel->fv O (n+1) a w b=I q->e9 C g b p q:=by
 intro a w b q g p k y f;induction b using a8 with
 |nil=>exact aS f▸e9.nil
 |cons m xs=>
  replace f:(if fX m=ab then ag else(bc O n a w m).bind λd=>(fv O n a w xs).bind λt=>I<|d::t)=I q:=f;split at f;exact nS f;rename_i l;exact bK f λd s f=>bK f λt i f=>aS f▸e9.cons (j.cW _ _ _ _ _ _ k y s) (j.jN _ _ _ _ _ _ k y i) (qp<|(jX _).mp l)
def adh(j:hz C O N n):∀i w f d b r,bj C b i w r->N<=b.fuel->sZ O (n+1) i w f=some d->mz C b (BC<|Bu f b.env) r d:=by
 intro i w f d b r k y a;induction f using b7 with
 |none=>
  exact aS a▸λl m A t p q=>aY<|q _ _ (ak.refl l) .none
 |some f=>exact j.cW _ _ _ _ _ _ k y a
def adf(j:hz C O N n):∀a w l s k t r,bj C t a w r->N<=t.fuel->ow O (n+1) a w l s=I k->hP C t l s r k:=by
 intro a w l s k t r m y f;induction s using a8 with
 |nil=>cases l<;>first|exact aS f▸hP.and_nil|exact aS f▸hP.or_nil
 |cons B xs=>
  cases l;refine bK f λd g i=>?_;have p:=j.jM _ _ _ _ _ _ m y g;induction d using cq with|false=>exact aS i▸hP.and_cons (lS:=true) p (λq=>nomatch q)|true=>exact hP.and_cons p λA=>j.CV _ _ _ _ _ _ _ m y i
  refine bK f λd g i=>?_;have p:=j.jM _ _ _ _ _ _ m y g;induction d using cq with|true=>exact aS i▸hP.or_cons (lS:=true) p (λq=>nomatch q)|false=>exact hP.or_cons p λA=>j.CV _ _ _ _ _ _ _ m y i
def adl(j:hz C O N n):∀a w i k g r,bj C g a w r->N<=g.fuel->ow O (n+1) a w .And i=I k->nq C g i r k:=by
 intro a w i k g r m y f;induction i using a8 with
 |nil=>exact aS f▸nq.nil
 |cons A xs=>
  refine bK f λd s l=>?_;have p:=j.jM _ _ _ _ _ _ m y s;induction d using cq with|false=>exact aS l▸nq.cons (lS:=true) p (λq=>nomatch q)|true=>exact nq.cons p λt=>j.Kj _ _ _ _ _ _ m y l
def S'(L:cf C O N)(T:hz C O N n)(K:bj C g B w A)(H:N<=g.fuel)(j:fW O (n+1) B w (.Compare F x D ac)=I k):gb C g (.Compare F x D ac) A k:=by
 match x,D,j with
 |[i],[E],j=>
  replace j:(if nd i E=ab then ag else(bc O n B w F).bind λR=>(bc O n B w E).bind λQ=>O.cmp i R Q)=I k:=j
  split at j
  exact nS j
  rename_i P
  exact bK j λR M j=>bK j λQ J V=>gb.cmp (T.cW _ _ _ _ _ _ K H M) (T.cW _ _ _ _ _ _ K H J) (L.cmp _ _ _ _ V)<|(jX _).mp P
 |[i,f],[E,d],j=>
  replace j:(if nd f d=ab then ag else(bc O n B w F).bind λR=>(bc O n B w E).bind λQ=>(bc O n B w d).bind λY=>(O.cmp i R Q).bind λk=>(O.cmp f Q Y).bind λX=>I<|k&&X)=I k:=j
  split at j
  exact nS j
  rename_i P
  exact bK j λR M j=>bK j λQ J j=>bK j λY W j=>bK j λaa U j=>bK j λdR q j=>aS j▸gb.Ue (T.cW _ _ _ _ _ _ K H M) (T.cW _ _ _ _ _ _ K H J) (T.cW _ _ _ _ _ _ K H W) (L.cmp _ _ _ _ U) (L.cmp _ _ _ _ q) ((jX _).mp P)
 |[],Z,j=>exact nS j
 |[Z],[],j=>exact nS j
 |[Z],t::s::y,j=>exact nS j
 |[Z,t],[],j=>exact nS j
 |[Z,t],[s],j=>exact nS j
 |[Z,t],s::y::m::G,j=>exact nS j
 |Z::t::s::y,m,j=>exact nS j
def IY(x:cf C O N)(l:hz C O N n)(m:bj C g a w r)(y:N<=g.fuel)(j:(bc O n a w f).bind O.truth=I k)(b:isTrue f g.env (cn f g.env)=(do let t<-cn f g.env;fG f.pos;fV [t] (xY t))):gb C g f r k:=
 bK j λd i q=>gb.val (l.cW _ _ _ _ _ _ m y i) (x.truth _ _ q) b
set_option tactic.hygienic true in
def ade(a:cf C O N)(b:hz C O N n):∀t w f k q r,bj C q t w r->N<=q.fuel->fW O (n+1) t w f=I k->gb C q f r k:=by
 intro t w f k q r m y j;cases f<;>first|exact nS j|exact IY a b m y j rfl|exact S' a b m y j|skip
 case UnaryOp i l s=>
  cases i<;>first|exact IY a b m y j rfl|exact eH j λd g f=>f▸gb.not (b.jM _ _ _ _ _ _ m y g)
 case BoolOp i A s=>exact gb.op<|b.CV _ _ _ _ _ _ _ m y j
end
section
variable{C:bC}{O:b0}{N n:Nat}
def pR(j:bq C g i r d)(l:fX i=au):e9 C g [i] r [d]:=e9.cons j e9.nil<|qp l
def RZ(j:bq C g i r d)(l:fX i=au)(y:bq C g p r f)(s:fX p=au):e9 C g [i,p] r [d,f]:=e9.cons j (pR y s)<|qp l
def kZ(k:bj C d a w l)(j:a.global b=ab)(e:b4 C b t):ng C d (.Name b p) t:=ng.name<|Xl k j e
def acW(j:tO d=I a):d=.list a\/d=.tuple a:=by
 cases d<;>try exact nS j
 exact .inr<|congrArg _<|aS j;exact .inl<|congrArg _<|aS j
def zM(j:lC d=I a):d=.list a:=by cases d<;>first|exact nS j|exact congrArg _<|aS j
def HA(j:yi r=ab):∃b k s,r=.Tuple b k s:=(mK j).elim λx n=>⟨_,_,_,ua n⟩
def yF:∀{c:List ai}{i},Ce c=I i->c=[i]/\fX i=au
 |[],Z,j=>nS j
 |Z::t::s,y,j=>nS j
 |[p],i,j=>by
  replace j:(if fX p=ab then ag else I p)=I i:=j
  split at j
  exact nS j
  rename_i l
  exact aS j▸⟨rfl,(jX _).mp l⟩
def RR:∀{d:List ai}{i},Cf d=I i->d=[i.1,i.2]/\fX i.1=au/\fX i.2=au
 |[],Z,j=>nS j
 |[Z],t,j=>nS j
 |Z::t::s::y,m,j=>nS j
 |[p,g],i,j=>by
  replace j:(if(fX p||fX g)=ab then ag else I (p,g))=I i:=j
  split at j
  exact nS j
  rename_i l
  exact aS j▸⟨rfl,(jX _).mp λq=>l (by rw[q];rfl),(jX _).mp λq=>l<|by rw[q,afs]⟩
set_option tactic.hygienic true in
def Dv(s:hz C O N n)(m:bj C g a w r)(y:N<=g.fuel)(j:(bc O n a w f).bind (yj t)=I b):dN C g t f r b:=by
 refine bK j λd q p=>?_;have i:=s.cW _ _ _ _ _ _ m y q;clear j q;cases d<;>try exact nS p
 case str B=>exact(cj p).2▸dN.str i
 case tuple k=>exact aS p▸dN.tuple i
 case list k=>exact aS p▸dN.list i
 case eb A k=>exact aS p▸dN.eb i
def YU(p:hz C O N n)(m:bj C g a w r)(y:N<=g.fuel)(j:(bc O n a w f).bind tO=I b):dN C g t f r b:=by refine bK j λd k l=>?_;have i:=p.cW _ _ _ _ _ _ m y k;rcases acW l with rfl|rfl;exact dN.list i;exact dN.tuple i
set_option tactic.hygienic true in
def adk(x:cf C O N)(j:hz C O N n):∀T w t E q Q r,bj C Q T w r->N<=Q.fuel->fI O (n+1) T w t E=I q->dN C Q t E r q:=by
 intro T w t E q Q r m y g;cases E<;>try exact Dv j m y g
 rename_i i U X ag;cases i<;>try exact Dv j m y g
 rename_i R ae;cases X<;>try exact Dv j m y g
 have K:=gq g;clear g;have F:=(aM K.1).1;have g:=K.2;clear K;by_cases G:(R==("range":ar))=ab;rw[if_pos G]at g;have s:=bL G;subst s;exact bK g λac A W=>dN.range (kZ m F x.range) (j.jN _ _ _ _ _ _ m y A) W rfl;rw[if_neg G]at g;by_cases H:(R==("enumerate":ar))=ab;rw[if_pos H]at g;have s:=bL H;subst s;refine iK g λb g=>bK g λZ A g=>bK g λd B g=>eH g λaa D E=>?_;obtain⟨V,kk,Y,rfl⟩:=HA b;rw[(yF A).1,<-E];exact dN.enum (kZ m F x.enum) (pR (zM D▸j.cW _ _ _ _ _ _ m y B) (yF A).2) rfl;rw[if_neg H]at g;by_cases J:(R==("zip":ar))=ab;rw[if_pos J]at g;have s:=bL J;subst s;refine iK g λb g=>bK g λZ A g=>bK g λd B g=>bK g λad M g=>bK g λaa D g=>eH g λaf P E=>?_;obtain⟨V,kk,Y,rfl⟩:=HA b;have L:=RR A;rw[L.1,<-E];exact dN.zip (kZ m F x.zip) (RZ (zM D▸j.cW _ _ _ _ _ _ m y B) L.2.1 (zM P▸j.cW _ _ _ _ _ _ m y M) L.2.2) rfl;rw[if_neg J]at g;by_cases k:(R==("reversed":ar))=ab;rw[if_pos k]at g;have s:=bL k;subst s;refine bK g λZ A g=>bK g λd B g=>eH g λaa D E=>?_;rw[(yF A).1,<-E];exact dN.rev (kZ m F x.rev) (pR (zM D▸j.cW _ _ _ _ _ _ m y B) (yF A).2) rfl;rw[if_neg k]at g;exact YU j m y g
def adj:∀c w t f b,fI O (n+1) c w t f=I b->∀q m,G8 f q m=bg m:=by
 intro c w t f b g q m;cases f<;>first|rfl|skip
 exact bK g λd a k=>by cases n<;>exact nS a
def DG{w:bQ}(j:b≠m):List.lookup b ((m,d)::w)=w.lookup b:=by rw[ep];rw[show(b==m)=au by simpa using j]
def SF:∀{b:List ai}{c:List aa}{w l:bQ},er a b c w=I l->∀e,e∉(b.filterMap tB)->l.lookup e=w.lookup e:=by intro b c w l f e;have j:=q2 f;clear f;induction j with|nil=>exactλk=>rfl|@cons m s b d c w l ae j g=>exactλi=>(g<|D7 i).trans<|DG<|z1<|D6 i
def SH(j:kU a t d w=I l):dq a t d w=I l/\∀b f,w.lookup b=I f->l.lookup b=I f:=by
 refine iK j λc j=>⟨j,λb f i=>?_⟩;have g:b∉xb t:=λq=>by have:=(bZ.mp c) b q;rw[i]at this;exact fT this
 rw[<-i];have k:=yO j;clear j c;cases k with|name ae=>exact DG (z1 g)|tuple j=>exact SF j b g
def vn.here(r:vn C g a e m b l):∃St,oo C g.A g.X a e m b St/\St 0 l.heap:=by obtain⟨St,d,st⟩:=r;have:=d.to (λk=>False) λk j=>j.elim;exact⟨St,by simpa using this,st⟩
def oo.use{M:dI}{e:aE->Prop}{B:ai}{F:aq}{m:List aE}{H:List aa}{St:Nat->cc->Prop}(V:oo C M e B F m H St){I:Nat}{d:aa}{l:ax}{f:aq->ax->Prop}{K:ax->Prop}{N:aq->ax->Prop} (R:H[I]?=some d) (st:St I l.heap) (P:∀D,e D->∃J,l.heap.get? D=some J) (q:∀t y k,l.toks<=k->(∀p J,p∉m->l.heap.get? p=some J->y.get? p=some J)->St (I+1) y->Rz (λD=>e D\/D∈m) y t d->N t {l with heap:=y,toks:=k}):aB (aK C.prog C.w) M (ly F) (λU n=>match U with|none=>K n|some t=>aB (aK C.prog C.w) M (uQ B F t) (λG g=>N t g) f n) f l:=by refine ff (wpAny_toks<|V.turn I d l (λt g=>l.toks<=g.toks->N t g) f R st P λt y k D p W S=>q t y k S D p W) (λU n j=>?_) λG G X=>X.2;obtain⟨O,j⟩:=j;induction U using b7 with|none=>exact j.elim|some t=>exact ff (wpAny_toks_of O j) (λG G L=>L.2 L.1) λG G L=>L.2
def oo.end_{I:dI}{e:aE->Prop}{B:ai}{F:aq}{m:List aE}{D:List aa}{St:Nat->cc->Prop}(J:oo C I e B F m D St){l:ax}{f:aq->ax->Prop}{K:ax->Prop}{L:aq->ax->Prop} (st:St D.length l.heap) (q:∀y k,l.toks<=k->(∀p d,p∉m->l.heap.get? p=some d->y.get? p=some d)->K {l with heap:=y,toks:=k}):aB (aK C.prog C.w) I (ly F) (λH n=>match H with|none=>K n|some t=>L t n) f l:=by refine ff (wpAny_toks<|J.stop l (λg=>l.toks<=g.toks->K g) f st λy k i G=>q y k G i) (λH n j=>?_) λ_ _ M=>M.2;obtain⟨c,j⟩:=j;induction H using b7 with|none=>exact j c|some t=>exact j.elim
theorem bh.grow{c:bX}(k:bh C c.X c.A c.fuel l)(j:∀m∈W,∃d,l.heap.get? m=I d)(bW:∀m∈W,¬C.T m):bh C (c.grow W).X (c.grow W).A (c.grow W).fuel l:=⟨k.handled,k.depth,k.units,k.guards,λi p=>by
  rcases p with p|p;exact k.cA i p;obtain⟨d,f⟩:=j i p;exact⟨d,f,λr=>absurd r<|bW i p⟩,λi r=>.inl<|k.aT i r,k.ok,k.tok⟩
def bh.gm(a:bh C c r n l)(j:l.heap.get? b=ag):¬C.T b/\¬C.P b/\¬c b:=by refine⟨λq=>?_,λi=>?_,λm=>?_⟩;obtain⟨d,f,k⟩:=a.cA b<|a.aT b q;rw[j]at f;cases f;obtain⟨d,f⟩:=C.Ag _ _ a.ok i;rw[j]at f;cases f;obtain⟨d,f,k⟩:=a.cA b m;rw[j]at f;cases f
def ye{n:Type}{k w:List n}{d:n}(j:k.drop y=d::w):k[y]?=I d/\k.drop (y+1)=w:=by
 have f:k[y]?=I d:=by
  have:(k.drop y)[0]?=I d:=by rw[j];rfl
  simpa using this
 refine⟨f,?_⟩;rw[<-OC,j];rfl
def JG{n:Type}{k:List n}(j:k.drop y=[]):k.length<=y:=by simpa using j
set_option maxHeartbeats 1000000 in
def adm(b4:cf C O N)(bc:hz C O N n):HU C O N (n+1):=by
 intro bb bP M aH bC bo bQ b2 L bi aA H ba k D a7 F am bn an aQ St ca W aE bu br bz ah st aM aL aN bp a4 a5 b1 kk ab ap cd q;have aa:ig C L an:=⟨λB=>ah.off _ B<|aN _ kk.loc.e1,λbf Q U B=>ah.off _ B<|bp bf Q U,λQ B=>by rw[aM];exact .inr B⟩;have aD:H∉an:=λB=>ah.off _ B a4;have a':∀Q∈an,¬C.T Q:=λQ B bg=>ah.off _ B<|aL Q bg;have V:∀p,(p∈an\/¬aA p)->¬C.T p/\¬L.Y p/\p≠H:=λp j=>
  ⟨λbg=>j.elim (λB=>ah.off _ B<|aL p bg) λbO=>bO<|aL p bg,λbk=>j.elim (λB=>ah.off _ B<|aN p bk) λbO=>bO<|aN p bk,λU=>j.elim (λB=>aD<|U▸B) λbO=>bO<|U▸a4⟩
 obtain⟨bw,aF⟩:=ye bu;refine Uq bw λb3=>?_;induction bQ using a8 with
 |nil=>
  obtain rfl:=aS W;have bT:=JG br;have bB:ca=aQ.length:=ur bz bT;refine ah.end_ (bB▸st) λce ci j6 aO=>?_;have K:dF C an bi {bi with heap:=ce,toks:=ci}:=dF.of a' a5 (λQ B=>ah.jP _ _ st Q B) aO;refine q _ (K.bx λQ B=>eA _ B) (kk.jm aa K) ?_;rw[pl];exact ab.jm kk.aT aD aa K
 |cons d a9=>
  obtain⟨aU,bt⟩:=ye br;refine bK W λaz j W=>bK W λbX bV W=>bK W λxs P W=>bK W λch bU U=>?_;obtain rfl:=aS U;clear W;obtain⟨bq,aq⟩:=SH j;rw[hx]at ap;refine ah.use aU st (λQ bS=>by obtain⟨aP,U,aY⟩:=b1.cA Q (by rw[aM];exact .inl bS);exact⟨aP,U⟩) λb5 ac G j6 aO la a_=>?_;rw[<-aM]at a_;have K:dF C an bi {bi with heap:=ac,toks:=G}:=dF.of a' a5 (λQ B=>ah.jP _ _ st Q B) aO;have aX:Rz L.X ({bi with heap:=ac,toks:=G}:ax).heap b5 d:=a_;have ar:St (ca+1) ({bi with heap:=ac,toks:=G}:ax).heap:=la;clear a_ la aO j6;generalize({bi with heap:=ac,toks:=G}:ax)=bZ at K aX ar ⊢;have dd:=b1.only K λQ B=>⟨a' Q B,ah.here _ _ ar Q B⟩;have bE:=kk.jm aa K;have a0:=ab.jm kk.aT aD aa K;refine Co bE dd bq aX λau w5 aW aY=>?_;have cp:=dd.step w5;have a3:=a0.step kk.aT kk.loc.bJ w5;have mU:St (ca+1) au.heap:=ah.frame _ _ _ ar λp aP U j=>w5.keep p aP U (V p j).1 (V p j).2.1;refine bc.Kj _ _ _ _ _ _ aW aE bV au (ak.refl au) cp _ _ λeI aI=>?_;have ad:=aW.ext aI;have gg:=cp.ext aI;have ai:=a3.ext kk.aT aI;have tS:St (ca+1) eI.heap:=ah.frame _ _ _ mU λp aP U j=>aI.keep p aP U (V p j).1;have bM:cu C L (H::an) bi eI:=((K.bx λQ B=>eA _ B).trans w5.bx).trans aI.bx;have next:∀l(a1:cu C L [H] eI l),bj C L bb bP l->eV C L H (ba++xs) l->fF (aK C.prog C.w) L.A (.compLoop (.ListComp M D F am) k bn (.ref H) L.env) cd l:=by
   intro l a1 bF aj;have gK:bh C L.X L.A L.fuel l:=gg.bx a1 λQ B aY=>by replace B:=cm.mp B;subst B;obtain⟨b7,bf,U,aY⟩:=aj.at';exact⟨aj.bW,_,U⟩
   have bH:St (ca+1) l.heap:=ah.frame _ _ _ tS λp aP U j=>a1.keep p aP U (V p j).1 (V p j).2.1 (by simpa using(V p j).2.2);refine bc.C2 bb bP M aH bC bo a9 ch L l aA H (ba++xs) k D a7 F am bn an aQ St (ca+1) bU aE bu bt (by have:=(m4.mp aU).1;exact GA o) ah bH aM aL aN bp a4 a5 gK bF aj (by rw[hx];exact aC (cL<|hy _ _ _) ap) cd λJ bI bD aZ=>?_;refine q J ((bM.trans<|a1.cut (λaY bk=>bk) λp B=>.inl (by simp at B;simp[B])).trans bI) bD ?_;rw[<-i9];exact aZ
  induction bX using cq with
  |false=>
   obtain rfl:=aS (P:I []=I xs);exact next eI (ak.refl eI).bx (ad.sub aq) (by rw[pl];exact ai)
  |true=>
   induction bo using a8 with
   |nil=>
    have av:D[k+1]?=ag:=by have:D.drop (k+1)=[]:=aF;simpa using this
    rw[av];refine eH P λb8 ae U=>?_;subst U;refine bc.cW _ _ _ _ _ _ ad aE ae eI (ak.refl eI) gg _ _ λb6 l af bY=>?_;refine vt (ai.ext kk.aT af) bY (aC (b_ _ _) o) λn0 ay ao=>?_;exact next n0 (af.bx.trans<|ay.bx λaY q=>q) (((ad.ext af).jm ab.off ay).sub aq) ao
   |cons bR aR=>
    obtain⟨a2,bd,bm,bs⟩:=bR;have av:D[k+1]?=I ⟨a2,bd,bm,bs⟩:=(ye aF).1;rw[av];replace P:(if(bs==0)=true then(fI O n bb az a2 bd).bind λaB=>oh O n bb az M a2 bm aR aB else ag)=I xs:=P;have a6:=gq P;clear P;have bA:bs=0:=bL a6.1;subst bA;refine bK a6.2 λaB aV P=>?_;clear a6;refine⟨rfl,bc.zc _ _ _ _ _ aV _,?_⟩;refine bc.s9 bb az a2 bd aB L eI ad aE aV eI (ak.refl eI) gg _ _ λbe l al af aw b0=>?_;obtain⟨aJ,vj,as⟩:=b0.here;have bl:=λp(j:p∈al)=>gg.gm<|aw p j;have aG:fF (aK C.prog C.w) L.A (.compLoop (.ListComp M D F am) (k+1) be (.ref H) L.env) (λch bv=>∃cl,ch=.ok cl/\fF (aK C.prog C.w) L.A (.compLoop (.ListComp M D F am) k bn (.ref H) L.env) cd bv) l:=by
     refine bc.C2 bb az M a2 bm aR aB xs (L.grow al) l L.X H ba (k+1) D bd F am be al aB aJ 0 P aE aF AX (dV _) vj as rfl kk.aT kk.loc.bJ (λbf Q U=>(kk.loc.dx bf Q U).2.2) (ab.off.cA _<|by simp) (λp j=>(bl p j).2.1) ((gg.ext af).grow (vj.here _ _ as) λp j=>(bl p j).1) (ad.grow aw af λQ bg=>by obtain⟨aP,U,aY⟩:=gg.cA Q<|gg.aT Q bg;exact⟨aP,U⟩) (ai.grow kk.aT aw af) (by exact aC (gy (b_ _ _) _) ap) _ λn0 bN bG ao=>⟨.next,rfl,?_⟩;have a1:cu C L [H] eI n0:=(af.bx.trans bN).cut (λaY bk=>bk) λp B=>by rcases cJ.mp B with rfl|B;exact .inl (by simp);exact .inr<|aw p B
     exact next n0 a1 ((bG.shrink kk.aT kk.loc.bJ λbf Q U=>(kk.loc.dx bf Q U).2.2).sub aq) (ao.shrink<|ab.off.cA _<|by simp)
    exact Jn av aG λb3=>vj.self 0 _ _ _ as aG
noncomputable def j5(q:kK)(l:List (ar×px)):List (ar×aE):=(l.filter λs=>s.2==.free).map λs=>(s.1,(q.cells.lookup s.1).getD 0)
def Ub(j:∀s∈i.names,s.2=.free->∃e,b.cells.lookup s.1=I e):xM i b=bg (j5 b i.names).reverse:=by
 have t:∀(l:List (ar×px))(c:List (ar×aE)),(∀s∈l,s.2=.free->∃e,b.cells.lookup s.1=I e)->
   (iF l c (λm y=>if(m.2==.free)=ab then do let e<-cellOf b m.1;bg (hJ<|(m.1,e)::y)else bg (hJ y)):ct (List<|ar×aE))=bg ((j5 b l).reverse++c):=by
  intro l
  induction l with
  |nil=>intro c _;rfl
  |cons s y g=>
   intro c ao;rw[m3];by_cases d:(s.2==.free)=ab;obtain⟨e,f⟩:=ao s eB<|bL d;have w:cellOf b s.1=bg e:=by unfold cellOf;rw[f]
   rw[if_pos d,w];simp only[uk];rw[g _ λq n=>ao q<|eA _ n];congr 1;simp[j5,d,f];rw[if_neg d];simp only[uk];rw[g _ λq n=>ao q<|eA _ n];congr 1;have k:(s.2==kN)=au:=by simpa using d
   simp[j5,k]
 unfold xM;have:=t i.names [] j;rw[pl]at this;rw[<-this];simp only[bind_pure]
def Jg{q:kK}{n:ar}{i:aE}:∀{l:List (ar×px)},(∀s∈l,s.2=.free->∃i,q.cells.lookup s.1=I i)->(j5 q l).reverse.lookup n=I i->q.cells.lookup n=I i/\(n,kN)∈l:=by intro l ao j;have r:=mem_of_lookup j;rw[OR]at r;unfold j5 at r;rw[hM]at r;obtain⟨s,b,f⟩:=r;rw[lk]at b;have d:=bL b.2;obtain⟨g,c⟩:=ao s b.1 d;rw[c]at f;simp only[agm,Prod.mk.injEq]at f;obtain⟨rfl,rfl⟩:=f;exact⟨c,by have:=b.1;rw[<-d];exact this⟩
def lW{c:Type}{l:List (ar×c)}{n:ar}{a:c}(d:(n,a)∈l):∃i,l.lookup n=I i:=by
 induction l with
 |nil=>cases d
 |cons s w g=>
  rw[ep];induction j:n==s.1 using cq with
  |true=>exact⟨_,rfl⟩
  |false=>
   rcases cJ.mp d with f|d;rw[<-f]at j;simp at j;exact g d
def Ji{n:ar}(ao:∀s∈l,s.2=.free->∃i,c.cells.lookup s.1=I i)(r:(n,kN)∈l)(d:c.cells.lookup n=I i):(j5 c l).reverse.lookup n=I i:=by
 have:(n,i)∈(j5 c l).reverse:=by rw[OR];unfold j5;rw[hM];exact⟨(n,.free),lk.mpr ⟨r,rfl⟩,by simp[d]⟩
 obtain⟨e,j⟩:=lW this;rw[j];have:=(Jg ao j).1;rw[d]at this;exact this.symm▸rfl
def yV:∀(l:List (ar×px))(c:Nat)(a:List (ar×aE)),nf c l a=nf c l []++a:=by
 intro l;induction l with
 |nil=>
  exact @λf t=>rfl
 |cons d w b=>
  obtain⟨e,k⟩:=d;exact @λc a=>by unfold nf;split;rw[b (c+1)<|(e,c)::a,b (c+1) [(e,c)],i9];rfl;exact b c a
def pX:∀{l:List (ar×px)}{c:Nat}{b:ar}{i:aE},(b,i)∈nf c l []->(b,ib)∈l/\c<=i:=by
 intro l;induction l with
 |nil=>
  exactλj=>by cases j
 |cons e w d=>
  obtain⟨n,k⟩:=e;exactλj=>by unfold nf at j;split at j;rename_i f;rw[yV]at j;rcases ml.mp j with j|j;obtain⟨g,q⟩:=d j;exact⟨eA _ g,A8 q⟩;simp at j;obtain⟨rfl,rfl⟩:=j;rw[bL f];exact⟨eB,bM _⟩;obtain⟨g,q⟩:=d j;exact⟨eA _ g,q⟩
theorem lJ:∀{l:List (ar×px)}{m:Nat}{c:ar},(c,ib)∈l->∃i,(c,i)∈nf m l []
 |(b,k)::w,m,c,j=>by
  unfold nf
  rcases cJ.mp j with f|j
  cases f
  rw[if_pos<|show(ib==ib)=ab from rfl,yV]
  exact⟨m,n8 _<|by simp⟩
  split
  rw[yV]
  obtain⟨i,p⟩:=lJ (m:=m+1) j
  exact⟨i,n7 _ p⟩
  exact lJ j
def aaD(j:d {scope:=i,locals:=l.heap.objs.size,globals:=b,cells:=nf (l.heap.objs.size+1) i.names m,qual:=g,func:=ag,code:=a.code,frame:=a.frame,builtins:=a.builtins} {l with heap:=pushCells (l.heap.push {cls:=.type "dict",data:=.dict #[]}) i.names}):aB c r (ahE i b m [] g ag .none<|I a) d f l:=by simp only[ahE,Option.isSome_some,if_true];refine av<|wpAny_alloc ?_;refine av (wpAny_layCells _ (λp kind k=>by cases n:kind==ib<;>simp[n]) _ _ _ _ ?_);rw[show({l with heap:=l.heap.push {cls:=.type "dict",data:=.dict #[]}}:ax).heap.objs.size=l.heap.objs.size+1 from i' ..];rw[OI];exact av<|aY<|aY j
def acu{a:kK}{m:ar}:∀{l:List (ar×px)},(l.map λ(n,k)=>if(k==kN&&a.scope.kind==.function&&a.kindOf n==I .cell)then(n,ib)else(n,k)).lookup m=(l.lookup m).map λk=>if(k==kN&&a.scope.kind==.function&&a.kindOf m==I .cell)then .cell else k:=by
 intro l;induction l with
 |nil=>rfl
 |cons q w c=>
  obtain⟨n,k⟩:=q;rw[e4];have g:=c;have s:(match(n,k)with|(n,k)=>if(k==kN&&a.scope.kind==.function&&a.kindOf n==I .cell)then(n,ib)else(n,k))=(n,if(k==kN&&a.scope.kind==.function&&a.kindOf n==I .cell)then ib else k):=by dsimp only;split<;>rfl
  rw[s,ep,ep];induction j:m==n using cq with
  |true=>
   have:m=n:=bL j;subst this;rfl
  |false=>exact g
structure P'(S:aZ)(scope:Scope)(sD:aZ):Prop where
 kind:scope.kind=.function
 ah1:S.sc.kind=.function
 good:∀p∈scope.names,jj p.1=true
 look:∀p∈scope.names,scope.names.lookup p.1=some p.2
 free:∀p∈scope.names,p.2=.free->S.sc.names.lookup p.1=some .cell\/S.sc.names.lookup p.1=some .free
 apart:dG (scope.names.map (·.1))=true
 sc:sD.sc=An scope S.sc
 own:sD.own=(scope.names.filter λp=>p.2==.local||p.2==.cell).map (·.1)
def Ux(j:a.comp i=I k):P' a i k:=by unfold aZ.comp at j;split at j;rename_i w;simp only[c0,beq_iff_eq,bZ,mj,bne_iff_ne]at w;cases j;refine⟨w.1.1.2,w.1.1.1,λs ao=>(w.2 s ao).1.1,λs ao=>(w.2 s ao).1.2,λs ao d=>?_,w.1.2,rfl,rfl⟩;rcases(w.2 s ao).2 with(j|j)|j;exact absurd d j;exact .inl j;exact .inr j;cases j
def p5(j:jj m=ab):(m==("__debug__":ar))=au/\(m==("__classdict__":ar))=au:=by unfold jj at j;simpa using j
def WM:∀{w:bQ},(h2 i w).lookup m=I d->w.lookup m=I d/\i.names.lookup m=I .free:=by
 intro w;induction w with
 |nil=>
  exact @λj=>by cases j
 |cons a n c=>
  obtain⟨b,f⟩:=a;exact @λj=>by
   unfold h2 at j;rw[kG]at j;split at j;rename_i l;rw[ep]at j ⊢;induction k:m==b using cq with
   |true=>
    rw[k]at j;exact⟨j,by rw[bL k];exact bL l⟩
   |false=>rw[k]at j;exact c j
   rename_i l;have g:=c j;rw[ep];induction k:m==b using cq with
   |true=>
    rw[bL k]at g;exact absurd (by rw[g.2];rfl) l
   |false=>exact g
def RK:∀{k:List ar},dG k=ab->k.Pairwise λd p=>d≠p:=by
 intro k;induction k with
 |nil=>
  exact @λg=>.nil
 |cons m w c=>
  exact @λj=>by unfold dG at j;simp only[c0,ez,hL,decide_eq_false_iff_not]at j;exact OS.mpr ⟨λn i f=>j.1<|f▸i,c j.2⟩
def Jh(ao:∀s∈names,s.2=.free->∃i,b.cells.lookup s.1=I i)(j:w∈j5 b names):b.cells.lookup w.1=I w.2:=by unfold j5 at j;rw[hM]at j;obtain⟨s,d,f⟩:=j;rw[lk]at d;obtain⟨g,c⟩:=ao s d.1<|bL d.2;rw[c]at f;rw[<-f];exact c
def Ua(t:c.cells.Pairwise λm E=>m.2≠E.2):∀{l:List (ar×px)},(∀s∈l,s.2=.free->∃D,c.cells.lookup s.1=I D)->(l.map (·.1)).Pairwise (λD G=>D≠G)->(j5 c l).Pairwise λm E=>m.2≠E.2:=by
 intro l;induction l with
 |nil=>
  exact @λJ F=>.nil
 |cons s w C=>
  exact @λao j=>by rw[e4,OS]at j;have g:=C (λq n=>ao q<|eA _ n) j.2;unfold j5 at g ⊢;rw[kG];split;rename_i d;rw[e4,OS];refine⟨λE i f=>?_,g⟩;obtain⟨D,A⟩:=ao s eB<|bL d;have B:=Jh (names:=w) (λq n=>ao q<|eA _ n) i;rw[hM]at i;obtain⟨H,k,rfl⟩:=i;rw[lk]at k;rw[A]at f;simp only[agm]at f;have:=name_of_addr t (mem_of_lookup A)<|mem_of_lookup<|f▸B;exact j.1 H.1 (mm k.1) this;exact g
def cu.ext(m:cu C g a l J)(h:∀p,g.Y p->l.heap.get? p=ag)(i:∀p∈a,l.heap.get? p=ag):ak C l J:=⟨m.same,λp d f r=>m.keep p d f r (λj=>by rw[h p j]at f;cases f) (λn=>by rw[i p n]at f;cases f),m.tabs,m.ok,m.toks⟩
set_option maxHeartbeats 1000000 in
def Uw(b9:cf C O N)(aF:hz C O N n)(a4:bj C M dL bs cr)(bQ:N<=M.fuel)(bS:dL.comp j=some bn)(bz:fI O n dL bs ac ap=some db)(b5:ak C cr be)(aS:bh C M.X M.A M.fuel be)(bI:bX->ax->List aq->Prop)(bg:∀(G:bX)(D:ax)(bd:aE->Prop)(bv:aE)(cd:aq)(a1:List aE)(St:Nat->cc->Prop),G.A=M.A->G.fuel=M.fuel->ak C be D->(∀i,bd i->be.heap.get? i=none)->(∀W∈a1,be.heap.get? W=none)->oo C G.A (λi=>M.X i\/bd i) ac cd a1 db St->St 0 D.heap->G.X=(λi=>(M.X i\/bd i)\/i∈a1)->(∀i,C.T i->M.X i\/bd i)->(∀i,G.Y i->M.X i\/bd i)->(∀n i,G.env.cells.lookup n=some i->M.X i\/bd i)->bd bv->(∀W∈a1,¬C.P W)->bh C G.X G.A G.fuel D->bj C G bn (h2 j bs) D->eV C G bv [] D->∀(fd:nc->ax->Prop),(∀J a2 am,cu C G (bv::a1) D J->bj C G bn (h2 j bs) J->J.heap.get? bv=some ⟨.type "list",none,.seq ⟨a2⟩ am,#[]⟩->bI G J a2->fd (.ok .next) J)->fF (aK C.prog C.w) G.A (.compLoop (.ListComp ch (⟨ac,ap,ci,0⟩::dK) j co) 0 cd (.ref bv) G.env) fd D)(K:∀(G:bX)(J:ax)(i cK:aE)(am:ar->Option aq)(a2:List aq)(ce:Nat),ak C be J->be.heap.get? cK=none->be.heap.get? i=none->i≠cK->J.heap.Ns cK am->(∀W,M.X W\/W=cK->G.X W)->J.heap.get? i=some ⟨.type "list",none,.seq ⟨a2⟩ ce,#[]⟩->bI G J a2->G1 (aK C.prog C.w) M.A em bm eq (.ref i) cK (.ok .next) J):aB (aK C.prog C.w) M.A (PM (.ListComp ch (⟨ac,ap,ci,0⟩::dK) j co) j M.env ev (newList []) au (cn ap M.env) bm) eq em be:=by
 have kk:=a4.ext b5;have ag:=Ux bS;have aa:∀bi∈j.names,bi.2=.free->∃i,M.env.cells.lookup bi.1=some i:=λbi ao bU=>kk.cells _<|ag.free bi ao bU;refine wpAny_comprehension_free (use:=bm) rfl (aF.zc _ _ _ _ _ bz _) (Ub aa) ag.kind (λbi ao aH=>by rw[ag.look bi ao,aH]) ?_;refine aF.s9 dL bs ac ap db M be kk bQ bz be (ak.refl be) aS _ _ λcd B a1 ah aX b4=>?_;refine x3 ?_ (by rw[gw];simp);refine aaD ?_;have cp:=aS.ext ah;have ab:=kk.ext ah;generalize aU:B.heap.push {cls:=.type "list",data:=.seq ([]:List aq).toArray}=H;have bP:H.get? B.heap.objs.size=some ⟨.type "list",none,.seq ⟨[]⟩ 0,#[]⟩:=by rw[<-aU];exact dE _ rfl
 have a3:H.objs.size=B.heap.objs.size+1:=by rw[<-aU,i']
 have bD:∀W al,B.heap.get? W=some al->H.get? W=some al:=λW al f=>by rw[<-aU];exact dS _ f
 rw[yV];generalize aG:(j5 M.env j.names).reverse=aJ;generalize an:nf (H.objs.size+1) j.names []=V;generalize aV:pushCells (H.push {cls:=.type "dict",data:=.dict #[]}) j.names=aI;have a5:=cellsFrom_ok j.names (H.push {cls:=.type "dict",data:=.dict #[]}) (H.objs.size+1) [] ⟨λcV cV U=>(nomatch U),afF⟩ (by rw[i'];exact bM _);rw[i',an,aV]at a5;have a_:∀W al,H.get? W=some al->aI.get? W=some al:=λW al f=>by rw[<-aV];exact ahH _ _ _ _<|dS _ f
 have aO:∀W al,B.heap.get? W=some al->aI.get? W=some al:=λW al f=>a_ W al<|bD W al f;have a7:aI.Ns H.objs.size (λcV=>none):=by rw[<-aV];exact(Heap.Ns.new H<|.type "dict").keeps<|ahH _ _
 have aj:∀n i,(n,i)∈V->B.heap.objs.size+2<=i:=λn i U=>by have:=(pX<|an▸U).2;rw[a3]at this;exact this
 have bk:∀n i,(n,i)∈V->(n,ib)∈j.names:=λn i U=>(pX<|an▸U).1;have bp:∀n i,aJ.lookup n=some i->M.env.cells.lookup n=some i/\(n,kN)∈j.names:=λn i f=>Jg aa<|aG▸f;let bd:aE->Prop:=λi=>i=B.heap.objs.size\/i=H.objs.size\/∃n,(n,i)∈V;have av:∀i,bd i->B.heap.get? i=none:=by exactλi I=>iB<|I.elim (λq=>cL q.symm) λaF=>aF.elim (λq=>(q.trans a3)▸lp _) λaF=>aF.elim λam U=>aC (b_ _ 2)<|aj am i U
 have bu:∀i,bd i->¬∃al,B.heap.get? i=some al:=λi I ⟨al,f⟩=>by rw[av i I]at f;cases f
 obtain⟨St,bJ,a'⟩:=b4;have bG:=bJ.to bd bu;have bF:∀W∈a1,∃al,B.heap.get? W=some al:=bG.here _ _ a';let ca:kK:={scope:=By j M.env,locals:=H.objs.size,globals:=M.env.globals,cells:=V++aJ,qual:=M.env.qual,func:=none,code:=M.env.code,frame:=M.env.frame,builtins:=M.env.builtins};let G:bX:={env:=ca,X:=λi=>(M.X i\/bd i)\/i∈a1,Y:=λi=>i=H.objs.size\/∃n,(n,i)∈V,A:=M.A,fuel:=M.fuel};let D:ax:={B with heap:=aI};have aZ:ak C B D:=by have:=ak.of_keep (C:=C) (s:=B) (h:=aI) (ey:=B.toks) aO;exact this
 have gK:bh C M.X M.A M.fuel D:=cp.ext aZ;have aL:∀i,B.heap.get? i=none->¬C.T i/\¬C.P i/\¬M.X i:=λi I=>cp.gm I;have a6:aI.get? B.heap.objs.size=some ⟨.type "list",none,.seq ⟨[]⟩ 0,#[]⟩:=a_ _ _ bP;have bH:∀i,bd i->∃al,aI.get? i=some al:=by exactλi I=>I.elim (λq=>⟨_,q▸a6⟩) λaF=>aF.elim (λq=>q▸a7.imp λal aF=>aF.elim λcV aF=>aF.elim λcV aF=>aF.1) λaF=>aF.elim λam U=>(a5.empty am i U).1.imp λal=>i8
 have bO:bh C G.X G.A G.fuel D:=⟨gK.handled,gK.depth,gK.units,gK.guards,λi I=>by
  rcases I with(I|I)|I;exact gK.cA i I;obtain⟨al,f⟩:=bH i I;exact⟨al,f,λaQ=>absurd aQ (aL i<|av i I).1⟩;obtain⟨al,f⟩:=bF i I;have bW:be.heap.get? i=none:=aX i I;exact⟨al,aO i al f,λaQ=>absurd aQ (aS.gm bW).1⟩,λi aQ=>.inl<|.inl<|gK.aT i aQ,gK.ok,gK.tok⟩
 have ai:∀n i,(V++aJ).lookup n=some i->(∃am,(am,i)∈V)\/M.env.cells.lookup n=some i:=by intro n i f;rw[uo]at f;induction az:V.lookup n using b7 with|some W=>rw[az]at f;simp at f;subst f;exact .inl ⟨n,mem_of_lookup az⟩|none=>rw[az]at f;simp at f;exact .inr (bp n i f).1
 have as:∀n,G.env.kindOf n=(j.names.lookup n).map λk=>if(k==kN&&M.env.scope.kind==.function&&M.env.kindOf n==some .cell)then .cell else k:=λn=>acu;have bf:hS C G D:=by refine⟨ag.kind,⟨_,a7⟩,λam i f=>?_,?_,.inl rfl,λi I=>.inl<|.inr<|.inr I,λi I=>(aL i<|av i<|.inr I).1,λi I=>(aL i<|av i<|.inr I).2.1,λam i f=>?_,λae cb f=>(by cases f)⟩;rcases ai am i f with⟨aD,U⟩|f;exact⟨_,(a5.empty aD i U).1⟩;obtain⟨bo,aA⟩:=ab.loc.cell am i f;exact⟨bo,aA.keeps aO⟩;show(V++aJ).Pairwise λb5 ae=>b5.2≠ae.2;rw[List.pairwise_append];refine⟨a5.apart,?_,λbi ao b6 bC=>?_⟩;rw[<-aG,List.pairwise_reverse];exact(Ua ab.loc.apart aa<|RK ag.apart).imp λaF=>aF.symm;intro f;rw[<-aG,OR]at bC;have az:=Jh aa bC;obtain⟨bo,aA⟩:=ab.loc.cell _ _ az;have aP:=aj bi.1 bi.2 ao;rw[f]at aP;exact absurd aA.lt<|fD.mpr<|aC (b_ _ 2) aP;rcases ai am i f with⟨aD,U⟩|f;refine⟨(aL i<|av i<|.inr<|.inr ⟨aD,U⟩).1,λq=>?_,.inl<|.inr<|.inr<|.inr ⟨aD,U⟩⟩;have aP:=aj aD i U;have bl:i=H.objs.size:=q;rw[bl,a3]at aP;exact absurd aP<|m_.mpr<|e5 _;obtain⟨az,aP,bt⟩:=ab.loc.dx am i f;refine⟨az,λq=>?_,.inl<|.inl bt⟩;have bl:i=H.objs.size:=q;exact(aL i (by rw[bl];exact av _<|.inr<|.inl rfl)).2.2 bt
 have ay:∀ae,j.names.lookup ae=some .free->V.lookup ae=none:=by
  intro ae af;induction az:V.lookup ae using b7 with
  |none=>rfl
  |some W=>
   have:=ag.look _<|bk ae W<|mem_of_lookup az;rw[af]at this;cases this
 have bE:bj C G bn (h2 j bs) D:=by
  refine⟨?_,ab.glob,ab.blt,λi aQ=>.inl<|.inl<|cp.aT i aQ,λae af bV=>?_,λae af=>?_,λae d f=>?_,bf⟩;show By j M.env=bn.sc;rw[ag.sc];unfold By An Pj;rw[ab.sc];rw[ag.own,hL]at af;have af:=of_decide_eq_true af;rw[hM]at af;obtain⟨bi,ao,rfl⟩:=af;rw[lk]at ao;obtain⟨ao,aM⟩:=ao;have br:=p5 bV;refine⟨rfl,br.1,br.2,?_⟩;rw[as,ag.look bi ao];simp only[mj,beq_iff_eq]at aM;rcases aM with aM|aM;left;rw[aM];rfl;right;rw[aM];refine⟨rfl,?_⟩;have bB:(bi.1,ib)∈j.names:=by rw[<-aM];exact ao
  obtain⟨i,I⟩:=lJ (m:=H.objs.size+1) bB;rw[an]at I;obtain⟨W,aw⟩:=lW I;refine⟨W,?_,.inr ⟨bi.1,mem_of_lookup aw⟩⟩;show(V++aJ).lookup bi.1=some W;rw[uo,aw];rfl;have bc:bn.sc.names.lookup ae=G.env.kindOf ae:=by rw[ag.sc];show _=(By j M.env).names.lookup ae;unfold By An Pj;rw[ab.sc]
  rw[bc,as]at af;induction aH:j.names.lookup ae using b7 with
  |none=>rw[aH]at af;simp at af
  |some k=>
   rw[aH]at af;show∃i,(V++aJ).lookup ae=some i;by_cases a8:k=.cell;subst a8;obtain⟨i,I⟩:=lJ (m:=H.objs.size+1)<|mem_of_lookup aH;rw[an]at I;obtain⟨W,aw⟩:=lW I;exact⟨W,by rw[uo,aw];rfl⟩;by_cases a9:k=.free;subst a9;obtain⟨i,I⟩:=aa _ (mem_of_lookup aH) rfl;refine⟨i,?_⟩;rw[uo,ay ae aH,<-aG,Ji aa (mem_of_lookup aH) I];rfl;exfalso;cases k<;>simp at af a8 a9
  obtain⟨bc,a0⟩:=WM f;obtain⟨bo,aA,b6⟩:=kk.names ae d bc;refine⟨bo,?_,?_⟩;obtain⟨i,bK,bL,aA⟩:=aA.ext<|ah.trans aZ;refine⟨ag.kind,bK,bL,.inr ?_⟩;have aW:=ag.free _ (mem_of_lookup a0) rfl;rcases aA with⟨k,_⟩|⟨k,ad,b',aQ,bT⟩;have bY:dL.sc.names.lookup ae=some .local:=by rw[<-ab.sc];exact k
  rw[bY]at aW;simp at aW;refine⟨?_,ad,?_,aQ,bT⟩;rw[as,a0];rcases k with k|k;left;have bA:M.env.scope.kind=.function:=ab.loc.kind;simp[k,bA];right;simp[k];show(V++aJ).lookup ae=some ad;rw[uo,ay ae a0,<-aG,Ji aa (mem_of_lookup a0) b'];rfl;have bw:∀i,bd i->be.heap.get? i=none:=λi I=>ah.old aS<|av i I;have b0:Rz (λi=>(M.X i\/bd i)\/i∈a1) be.heap bo d:=b6.more λW al f ae=>by rcases ae with(ae|ae)|ae;exact ae;rw[bw W ae]at f;cases f;rw[aX W ae]at f;cases f
  exact b0.mono λW al aw f=>(ah.trans aZ).keep W al f λaQ=>aw<|.inl<|.inl<|aS.aT W aQ
 have aR:B.heap.objs.size≠H.objs.size:=by rw[a3];exact fs<|e5 _
 have aN:∀am,(am,B.heap.objs.size)∉V:=λam U=>absurd (aj am _ U)<|m_.mpr<|qD z;have bb:eV C G B.heap.objs.size [] D:=by refine⟨(aL _<|gJ _).1,(aL _<|gJ _).2.1,⟨?_,λam i f=>?_,λi I=>?_⟩,?_,[],0,a6,.nil⟩;show H.objs.size∉[B.heap.objs.size];simp[aR.symm];intro I;simp at I;subst I;rcases ai am _ f with⟨aD,U⟩|f;exact aN aD U;obtain⟨bo,aA⟩:=ab.loc.cell am _ f;exact absurd aA.lt<|jZ _;simp at I;subst I;exact .inl<|.inr<|.inl rfl;rintro(q|⟨am,U⟩);exact aR q;exact aN am U
 have bq:∀J a2 ce,cu C G (B.heap.objs.size::a1) D J->bj C G bn (h2 j bs) J->J.heap.get? B.heap.objs.size=some ⟨.type "list",none,.seq ⟨a2⟩ ce,#[]⟩->bI G J a2->G1 (aK C.prog C.w) M.A em bm eq (.ref B.heap.objs.size) H.objs.size (.ok .next) J:=by intro J a2 ce b3 bZ f bR;obtain⟨am,U⟩:=bZ.loc.ns;have bN:ak C be J:=((ah.bx.trans aZ.bx).trans b3).ext (λW ae=>ah.old aS<|av W<|.inr ae) λW fn=>(cJ.mp fn).elim (λq=>q▸ah.old aS (gJ _))<|aX W;exact K G J _ _ am a2 ce bN (ah.old aS<|av _<|.inr<|.inl rfl) (ah.old aS<|gJ _) aR U (λW aw=>aw.elim (λq=>.inl<|.inl q) λq=>.inl<|.inr<|.inr<|.inl q) f bR
 have ba:St 0 D.heap:=bG.frame _ _ _ a' λW al f cV=>aO W al f;have aY:fF (aK C.prog C.w) M.A (.compLoop (.ListComp ch (⟨ac,ap,ci,0⟩::dK) j co) 0 cd (.ref B.heap.objs.size) ca) (G1 (aK C.prog C.w) M.A em bm eq (.ref B.heap.objs.size) H.objs.size) D:=
  bg G D bd B.heap.objs.size cd a1 St rfl rfl (ah.trans aZ) (λi I=>ah.old aS<|av i I) aX bG ba rfl (λi aQ=>.inl<|cp.aT i aQ) (λi I=>.inr<|.inr I) (λam i f=>by
    rcases ai am i f with⟨aD,U⟩|f;exact .inr<|.inr<|.inr ⟨aD,U⟩;exact .inl (ab.loc.dx am i f).2.2) (.inl rfl) (λW aw=>(aS.gm<|aX W aw).2.1) bO bE bb _ bq
 exact Jn rfl aY λb8=>bG.self 0 _ _ _ ba aY
def Jp(af:cf C O N)(aS:hz C O N n)(M:bj C c bd G D)(ab:N<=c.fuel)(ay:bd.comp i=I k)(aC:fI O n bd G t l=I B)(aF:oh O n k (h2 i G) d t p ac B=I f)(W:f.length<=1000000)(aX:ak C D an)(aR:bh C c.X c.A c.fuel an)(K:∀(J:ax)(j y:aE)(a1:ar->Option aq),ak C an J->an.heap.get? y=ag->j≠y->J.heap.Ns y a1->Rz (λaQ=>c.X aQ\/aQ=y) J.heap (.ref j) (.list f)->G1 (aK C.prog C.w) c.A be am bi (.ref j) y (.ok .next) J):aB (aK C.prog C.w) c.A (PM (.ListComp d (⟨t,l,p,0⟩::ac) i al) i c.env a2 (newList []) au (cn l c.env) am) bi be an:=by refine Uw af aS M ab ay aC aX aR (λH J P=>RzL H.X J.heap P f) (λH Y aT ae aG aN St aV aA aP aP aP aU st V aL aO ai as aw ap aI aa aZ q=>?_) λH J j y a1 P ad ao av az U aD V aj aW=>?_;refine aS.C2 k (h2 i G) d t p ac B f H Y (λj=>c.X j\/aT j) ae [] 0 _ l i al aG aN B St 0 aF (by rw[aA];exact ab) AX AX (dV _) aU st V aL aO ai (.inr as) aw ap aI aa (by simpa using W) _ λJ aM aH ah=>?_;obtain⟨P,ad,aj,aJ⟩:=ah.at';exact q J P ad aM aH aj (by simpa using aJ);exact K J j y a1 ao av U aD<|.list (λq=>q.elim (λaY=>(aR.gm az).2.2 aY) U) aj<|aW.less V
def ak.only(m:ak C l J)(N:bh C c r k l)(D:l.heap.get? i=ag)(G:∀B,J.heap.get? i=I B->¬fz B)(K:xG i J.heap y):ak C l {J with heap:=y}:=by have a:=N.gm D;have d:dF C [i] J {J with heap:=y}:=dF.of (c7 a.1) (c7 a.2.1) (c7 G) λp B j f=>(K.2 p<|by simpa using j).trans f;refine⟨?_,λp B f F=>d.keep p B (m.keep p B f F) F λM=>?_,λp F n f=>?_,λH=>d.ok<|m.ok H,aC m.toks d.toks⟩;obtain⟨P,O,rfl⟩:=m.same;exact⟨_,_,rfl⟩;replace M:=cm.mp M;subst M;rw[D]at f;cases f;obtain⟨q,f⟩:=m.tabs p F n f;obtain⟨E,f⟩:=d.tabs p F _ f;exact⟨q++E,by rw[f,AS]⟩
def VA(P:cf C O N)(ab:hz C O N n)(F:bj C D B w y)(U:N<=D.fuel)(V:B.comp i=I k)(W:fI O n B w t l=I A)(X:oh O n k (h2 i w) d t p f A=I j)(H:j.length<=1000000):bq C D (.ListComp d (⟨t,l,p,0⟩::f) i ac) y (.list j):=by intro ao ah Z al aj q;rw[eval_ListComp];refine Jp P ab F U V W X H ah Z λJ am ak af R T ae K ag=>⟨af,K,λad M=>?_⟩;refine q _ _ (R.only Z T (D1 K) M) ?_;exact(ag.mono λY an G aa=>(M.2 Y λai=>G<|.inr ai).trans aa).less λY G=>.inl G
section
variable{c:bX}{bb:ax}
def Td(O:ei C f)(ca:mz C c ac bb d)(W:tO d=I L)(ai:L.length<=1000000)
   (bm:ak C bb as) (bd:bh C c.X c.A c.fuel as) 
  (q:∀B J,ak C as J->RzL c.X J.heap B L->aB (aK C.prog C.w) c.A (e8 f B []) a2 al J):aB (aK C.prog C.w) c.A (ic ap f [] [(ab,ac)] []) a2 al as:=by
 have R:∀{ac:ct aq}{D:ax},aB (aK C.prog C.w) c.A ac a2 al D->aB (aK C.prog C.w) c.A (ac>>=λP=>fV [P] xT>>=λam=>bg P) a2 al D:=
  λaf=>av<|ff af (λP ah ae=>av<|c6<|uT<|aY ae) λam am bm=>bm
 have n:∀B J,ak C as J->RzL c.X J.heap B L->aB (aK C.prog C.w) c.A (do
   fG ap
   let P<-match<-qO f,ab with|.frame,ab=>Bq starredCall f ([]++B) []|.frame,au=>if[(ab,ac)].length+2*([]:List (Option ar×ct aq)).length>30 then e8 f ([]++B) []else Bq plainCall f ([]++B) []|.boundFrame,au=>if[(ab,ac)].length+2*([]:List (Option ar×ct aq)).length>30 then e8 f ([]++B) []else Bq callOfAMethodObject f ([]++B) []|.machine,au=>e8 f ([]++B) []|am,bs=>xS (f::(if ab then([]++B).reverse else[]++B)++([]:List (ar×aq)).map (·.2))<|e8 f ([]++B) []
   fV [P] xT
   bg P) a2 al J:=by
  intro B J a1 P
  have j:=q B J a1 P
  refine av<|dc ?_
  obtain⟨k,aa,N⟩:=O J.heap (bd.ext a1).ok
  refine av<|N.here ?_
  rcases aa with rfl|rfl
  exact R (by unfold Bq;exact wpAny_keep j)
  exact R<|qv j
 refine av<|c6 ?_
 refine av<|ca as bm bd _ _ λv D a1 P=>av<|aY<|c6 ?_
 refine av<|aY ?_
 have Y:∀{H:String}{i:aE}{B:List aq}{S:Nat},(H="list"\/H="tuple")->v=.ref i->D.heap.get? i=I ⟨.type H,ag,.seq ⟨B⟩ S,#[]⟩->RzL c.X D.heap B L->
   ∀(id:String),pD (.type H) "__iter__"=bg (I<|.builtin id)->aB (aK C.prog C.w) c.A (do
    let bv<-notIterableAtAll v
    if bv=ab then do
     Ha "call.star.not-iterable"
     raiseError "TypeError"s!"{← functionStr f} argument after * must be an iterable, not {← typeNameOf v}"
    fV [] (collect v)) (λbn J=>bn=B/\ak C D J) al D:=by
  rintro H i B S V rfl U p id M
  have an:D.TypeIs (.ref i) H:=⟨_,U,rfl⟩
  refine av<|av<|P_ an M<|aY ?_
  refine x2 ?_
  rw[if_neg<|by simp]
  refine c6<|wpAny_collect_seq i V U rfl rfl (λcd k=>⟨rfl,?_⟩) ?_
  exact ak.of_keep k
  have:=p.length
  show B.length<=_
  rw[gw];exact aC (cL o)<|aC o z
 obtain⟨H,i,B,S,id,V,bi,G,p,M⟩:∃(H:String)(i:aE)(B:List aq)(S:Nat)(id:String),(H="list"\/H="tuple")/\v=.ref i/\D.heap.get? i=I ⟨.type H,ag,.seq ⟨B⟩ S,#[]⟩/\RzL c.X D.heap B L/\pD (.type H) "__iter__"=bg (I<|.builtin id):=by
  cases d<;>try exact nS W
  exact P.tK λi B S be G p U=>⟨_,i,B,S,_,.inr rfl,U,G,aS W▸p,PySem.F.slot_tuple_iter.lookup⟩;exact P.lK λi B S be G p U=>⟨_,i,B,S,_,.inl rfl,U,G,aS W▸p,slot_list_iter.lookup⟩
 refine av<|ff (Y V bi G p id M) (λbn J ad=>aY ?_) λam am U=>U
 obtain⟨rfl,K⟩:=ad
 exact n _ J (a1.trans K)<|(bd.ext a1).fR K p
set_option tactic.hygienic true in
def MN(O:ng C c i (.type "range"))(p:e9 C c e bb d)(U:gZ d=I f)(F:cn (.Call i e [] j) c.env=(cn i c.env>>=λR=>ic j R [] (j1 j<|ha e c.env)<|oa j<|ob [] c.env))(Z:ak C bb l)(T:bh C c.X c.A c.fuel l)(q:∀K L M k V W R J,ak C l J->IsRange J.heap K L M k V W R->kz L M k=ab->f=jr L k (jz L M k).toNat->m (.ref K) J):aB (aK C.prog C.w) c.A (cn (.Call i e [] j) c.env) m ac l:=by
 rw[F];refine av<|O l T _ _<|vD (.typ _) (p j).2 (p j).1 Z T λY n S K=>?_;cases MK U with
 |one B=>
  cases K;rename_i G D;cases D;cases G;exact call_range_1<|q _ _ _ _ _ _ _ _ (S.trans ak.push) (xH ..) B rfl
 |two B=>
  cases K;rename_i G D;cases D;rename_i D H;cases H;cases G;cases D;exact call_range_2<|q _ _ _ _ _ _ _ _ (S.trans ak.push) (xH ..) B rfl
 |three B N=>
  cases K;rename_i G D;cases D;rename_i D H;cases H;rename_i H P;cases P;cases G;cases D;cases H;exact call_range_3 (Ap B).2.1 (q _ _ _ _ _ _ _ _ (S.trans ak.push) (xH ..) B rfl)<|.inl N
def YT{F:aE->Prop}{G:cc}{d k:Int}:∀{c:List aq}{n:Nat},c.length=n->(∀y q,c[y]?=I q->∃s,q=bE (d+(y:Nat)*k) s)->RzL F G c (jr d k n):=by
 intro c n C D;have A:∀(f:List aq)(b:Nat),(∀y q,f[y]?=I q->∃s,q=bE (d+(y+b:Nat)*k) s)->RzL F G f ((bO f.length).map λy=>aa.int<|d+(y+b:Nat)*k):=by
  intro f;induction f with
  |nil=>intro b _;exact .nil
  |cons m w E=>
   intro b p;rw[gx,af1,e4,m7];obtain⟨s,rfl⟩:=p 0 m rfl;refine .cons (.int _ _) ?_;have:=E (b+1) λy q g=>by obtain⟨s,B⟩:=p (y+1) q (by simpa using g);exact⟨s,by rw[B,show y+1+b=y+(b+1)by exact ef _ _ _]⟩
   have B:(λy=>aa.int<|d+(y+b:Nat)*k)∘Nat.succ=λy=>aa.int (d+(y+(b+1):Nat)*k):=by funext y;show aa.int _=aa.int _;rw[show y.succ+b=y+(b+1)by exact Nat.succ_add _ _]
   rw[B];exact this
 have:=A c 0 D;rw[C]at this;exact this
end
set_option tactic.hygienic true in
def yI(j:o1 d=ab):attributeBase d c b a=a:=by
 cases d<;>first|rfl|skip
 rename_i i y x s;cases i<;>first|rfl|skip
 induction y using a8 with
 |cons=>rfl
 |nil=>
  induction x using a8 with|cons=>rfl|nil=>exact fT j
set_option tactic.hygienic true in
def NC:∃x,subscripted slice au aQ i=xS x (pB aQ i):=by
 cases slice;case Slice d e g s=>cases g<;>exact⟨_,rfl⟩
 all_goals exact⟨_,rfl⟩
def Rj(D:a≠0)(F:c≠0)(B:a≠c)(j:m.length+(m.length+1)*e.length<=16777216)(q:uJ l.heap)(n:∀p k,l.toks<=k->h (.str (ahh m b e) p) {l with toks:=k}):aB (aK d i) r (e8 (.builtin "str.replace") [.str m g,.str b a,.str e c]) h f l:=hO (bM l.toks)<|SC.replaceA D F B j (λp k C=>n p k C) q
def acX(j:wL i=ab){l:ax}(w:Rz c l.heap d i):∃y id,l.TypeIs d y/\pD (.type y) "__getitem__"=bg (I<|.builtin id):=by
 cases i<;>try exact fT j
 exact w.sK λB f=>f▸⟨"str",_,rfl,PySem.F.slot_str_getitem.lookup⟩;exact w.tK λi x n m k p f=>f▸⟨"tuple",_,⟨_,k,rfl⟩,PySem.F.slot_tuple_getitem.lookup⟩;exact w.lK λi x n m k p f=>f▸⟨"list",_,⟨_,k,rfl⟩,PySem.F.slot_list_getitem.lookup⟩;exact w.dK λi b n m q k p f=>f▸⟨"dict",_,⟨_,k,rfl⟩,Hb.lookup⟩;exact w.eH λi b n x m q k g A p f=>f▸⟨"dict",_,⟨_,k,rfl⟩,Hb.lookup⟩
def tP(j:wL i=ab):vh C i:=λc l d k w=>acX j w
section
variable{c:bX}{bb:ax}
def bq.item(S:bq C c t bb e)(N:bq C c f bb p)(R:vh C e)(P:dk C pB e p d):bq C c (.Subscript t f j) bb d:=by intro W m M ab aa q;refine Subscript_<|S W m M _ _ λH n h I=>N n (m.trans h) (M.ext h) _ _ λG L B K=>?_;have F:=(M.ext h).ext B;have D:=(M.ext h).mono B I;obtain⟨ac,id,k,O⟩:=R _ _ _ F.ok D;obtain⟨U,l⟩:=NC (slice:=f) (aQ:=H) (i:=G);exact tail_any k O (P c.X c.A c.fuel L H G F D K _ _ λY J Z V=>q Y J ((h.trans B).trans Z) V) l
theorem bq.slice{lo M st:Option ai}(ab:bq C c a2 bb am)(U:mz C c (BC<|Bu lo c.env) bb ap)(aa:mz C c (BC<|Bu M c.env) bb a1)(Z:mz C c (BC<|Bu st c.env) bb as) (W:vh C am) (V:yx C am ap a1 as d):bq C c (.Subscript a2 (.Slice lo M st al) an) bb d:=by
 intro aj R af au ar q;refine Subscript_<|ab aj R af _ _ λL n F N=>?_;have k:=af.ext F;rw[arm_eval_Slice];refine av (U n (R.trans F) k _ _ λe O B ac=>av (c6 (aa O ((R.trans F).trans B) (k.ext B) _ _ λh eI p ae=>
  av (c6<|Z eI (((R.trans F).trans B).trans p) ((k.ext B).ext p) _ _ λf b j ad=>?_))))
 have H:=k.ext B;have G:=H.ext p;have D:=G.ext j;unfold newFields;refine BG ?_ (by size_fits);have m:ak C b {b with heap:=b.heap.push {cls:=.type "slice",data:=.fields [e,h,f].toArray}}:=ak.push;have K:=D.ext m;have I:=D.mono m<|G.mono j<|H.mono p<|k.mono B N;obtain⟨aw,id,S,P⟩:=W _ _ _ K.ok I;obtain⟨ag,Y⟩:=NC (slice:=.Slice lo M st al) (aQ:=L) (i:=.ref b.heap.objs.size);refine tail_any S P (V c.X c.A c.fuel _ L e h f _ K I (dE _ rfl) (D.mono m<|G.mono j<|H.mono p ac) (D.mono m<|G.mono j ae) (D.mono m ad) _ _ λao J aq ah=>q ao J (((((F.trans B).trans p).trans j).trans m).trans aq) ah) Y
def bq.attr(D:o1 t=ab)(e:bq C c t bb i)(F:pO C (λt=>xQ t m ab) i d):bq C c (.Attribute t m j) bb d:=by
 intro l b H L f q;refine agr (e l b H _ _ λk n h p=>?_) ?_;exact F c.X c.A c.fuel n k (H.ext h) p _ _ λI J K B=>q I J (h.trans K) B;show(do
  let G<-attributeBase t m c.env (cn t c.env)
  fG j.atName
  let B<-fV [G] (xQ G m ab)
  letTemporaryGo t G B
  bg B)=_
 rw[yI D]
def RH{pos:a7}{k:List (Bool×ct aq)}(j:k.any (·.1)=au):k.all (!·.1)=ab:=by rw[List.any_eq_false]at j;rw[bZ];intro m ae;have:=j m ae;simpa using this
def bq.en(H:o1 e=ab)(U:b.length<=20)(ao:(t.endLine==j.line)=ab)(M:bq C c e bb a)(p:e9 C c b bb ds)(L:lA C a h ds N d)(G:N<=c.fuel):bq C c (.Call (.Attribute e h t) b [] j) bb d:=by
 intro W S R aa Z q;rw[arm_eval_Call,yI H];refine av<|M W S R _ _ λl n B F=>av<|dc ?_;have i:PV (b.length+([]:List GO).length) (j1 j<|ha b c.env) (oa j<|ob [] c.env)=ab:=by unfold PV;rw[RH (pos:=j) (p j).2];show(ab&&ab&&decide (b.length+0+0<30))=ab;simp;exact cH o z
 unfold methodCall;rw[i];obtain⟨T,K⟩:=L;have k:=R.ext B;refine av<|c6 ?_;unfold calleeOf;simp only[if_true];refine K c.X c.A c.fuel n l _ k F _ _ λac first P D I O w=>?_
 dsimp only;refine av ?_;unfold methodCallPos;rw[if_pos<|by simp[ao]];refine aY ?_;exact I' I (p j).2 (p j).1 w G ((S.trans B).trans D) (k.ext D) O λY J x V=>q Y J ((B.trans D).trans x) V
set_option tactic.hygienic true in
def bq.replace{h dR:Nat}(O:o1 ac=ab)(ao:(B.endLine==j.line)=ab)(S:bq C c ac bb i)(J:acv i b p=I d):bq C c (.Call (.Attribute ac ("replace":ar) B) [.Constant (.str b) h l,.Constant (.str p) dR m] [] j) bb d:=by
 intro af N Y W V q;cases i<;>try exact nS J
 rename_i aa;obtain⟨ae,rfl⟩:=cj J;rw[arm_eval_Call,yI O];refine av<|S af N Y _ _ λad f G K=>av<|dc ?_;cases K;rename_i D;have H:PV ([PySem.Expr.Constant (.str b) h l,.Constant (.str p) dR m].length+([]:List GO).length) (j1 j<|ha [.Constant (.str b) h l,.Constant (.str p) dR m] c.env) (oa j<|ob [] c.env)=ab:=rfl;unfold methodCall;rw[H];refine av<|c6 ?_;unfold calleeOf;simp only[if_true];refine ahz (sm _ _ _) Be PySem.F.slot_str_replace PySem.F.type_str_replace (λi N=>by cases N) ?_;dsimp only;refine av ?_;unfold methodCallPos;rw[if_pos<|by simp[ao]];refine aY ?_;have L:∀{D:ct aq}{f:ax},aB (aK C.prog C.w) c.A D W V f->aB (aK C.prog C.w) c.A (D>>=λT=>fV [T] xT>>=λX=>bg T) W V f:=
  λR=>av<|ff R (λT U J=>av<|c6<|uT<|aY J) λX X aa=>aa
 have n:=Y.ext G;unfold ic;refine av<|c6<|Ph (x:=cn (.Constant (.str b) h l) c.env) (rest:=[(au,cn (.Constant (.str p) dR m) c.env)])<|r7 ?_;show aB _ _ (sk b) _ _ _;refine uS<|r7 ?_;show aB _ _ (sk p) _ _ _;refine uS<|aY ?_;refine av<|dc<|av<|aY<|L ?_;have M:ak C f {f with toks:=f.toks+1+1}:=ak.tok;exact Rj n.tok (Nat.succ_ne_zero _) (fs<|e5 _) (of_decide_eq_true ae) (C.booked _ n.ok) λag k P=>q _ _ (G.trans<|M.trans<|ak.tok P)<|.str _ _
end
def d0{i p:Nat}(j:bG i p=ab):i<=p:=m8 j
def aci(j:rF s y=I m):s=("list":ar)/\m.1=("range":ar)/\∃a w,y=[.Call (.Name m.1 a) m.2 [] w]:=bK j λb i j=>bK j λc k j=>by have q:=cj j;rw[<-q.2];exact⟨bL (aM q.1).1,bL (aM q.1).2,_,_,(oX i).trans<|congrArg (λm=>[m])<|Oa k⟩
def ach(j:rF s y=I (e,b)):s=("list":ar)/\e=("range":ar)/\∃a w,y=[.Call (.Name e a) b [] w]:=aci j
def Xk(j:C_ a w t=I s):∃b,t=.Name s b/\a.global s=ab:=bK j λx k j=>⟨x.2,(cj j).2▸jW k,(cj j).2▸(aM (cj j).1).1⟩
def adI(j:qo y=I m):∃s,y=[.Starred m s]:=bK j λf i j=>eH j λa k q=>⟨a.2,by rw[oX i,afd k,q]⟩
def ac'{q}(j:qm y=I q):∃s,y=.Slice q.1 q.2.1 q.2.2 s:=eH j λx k f=>⟨x.2.2.2,f▸afc k⟩
set_option maxHeartbeats 1000000 in
def Zy(T:cf C O N)(aA:hz C O N n)(R:bj C g ac a2 D)(af:N<=g.fuel)(aj:ac.global "list"=ab)(an:ac.global "range"=ab)(ai:fv O n ac a2 y=I d)(ap:gZ d=I al)(aF:ak C D F)(H:bh C g.X g.A g.fuel F)(q:∀Y J K aE,ak C F J->F.heap.get? Y=ag->J.heap.get? Y=I ⟨.type "list",ag,.seq ⟨K⟩ aE,#[]⟩->¬g.X Y->RzL g.X J.heap K al->be (.ref Y) J):aB (aK C.prog C.w) g.A (cn (.Call (.Name ("list":ar) e) [.Call (.Name ("range":ar) bd) y [] B] [] j) g.env) be bi F:=by rw[show cn (.Call (.Name ("list":ar) e) [.Call (.Name ("range":ar) bd) y [] B] [] j) g.env=(cn (.Name "list" e) g.env>>=λaa=>ic j aa [] (j1 j [(au,cn (.Call (.Name ("range":ar) bd) y [] B) g.env)]) [])from rfl];refine av<|kZ (p:=e) R aj T.list F H _ _ ?_;unfold ic;refine av<|c6 ?_;refine Ph<|r7<|MN (kZ R an T.range) (aA.jN _ _ _ _ _ _ R af ai) ap rfl aF H λB aw ax k aH aI aa f G ah W U=>?_;refine aY ?_;refine av<|dc<|av<|aY ?_;obtain⟨ad,aC,ae⟩:=Ap W;have V:=MM aw ax k;show aB _ _ (e8 (.type "list") [.ref B] []>>=λB=>fV [B] xT>>=λaG=>bg B) _ _ _;refine av<|hO (bM f.toks)<|call_list_range H.handled ah ad (n:=(jz aw ax k).toNat) (qA V).symm (OA.mpr<|jY ae z) λam a1 M az kp P L ay=>?_;refine av<|c6<|uT<|aY ?_;have aq:ak C f {f with heap:=am,toks:=a1}:=ak.of_keep kp;obtain⟨K⟩:=M;refine q _ _ K _ (G.trans aq) (G.old H<|gJ _) P (H.ext G).fresh ?_;rw[U];exact YT (by simpa using L.1) λaD aa ao=>L.2 aD aa (by simpa using ao)
def VF(A:cf C O N)(R:hz C O N n)(L:bj C g a w f)(D:N<=g.fuel)(H:a.global "list"=ab)(K:a.global "range"=ab)(G:fv O n a w b=I d)(M:gZ d=I i):bq C g (.Call (.Name "list" e) [.Call (.Name "range" ac) b [] al] [] j) f (.list i):=by intro ad U B X W q;exact Zy A R L D H K G M U B λY J T aa V k t F P=>q _ _ V<|.list F t P
noncomputable def va:List (aq×aq)->List (ar×aa)->Prop|[],[]=>True|(k,a)::n,(m,d)::s=>(∃r,k=.str m r)/\(∀c j,Rz c j a d)/\va n s|_,_=>False
inductive sr:List (Option ai)->List ai->List (Str×aa)->Prop
 |nil:sr [] [] []
 |int {x wc E5 i dR E6 iY bl r}:sr iY bl r->sr (some (.Constant (.str x) wc E5)::iY) (.Constant (.int i) dR E6::bl) ((x,.int i)::r)
 |str {x wc E5 y dR E6 iY bl r}:sr iY bl r->sr (some (.Constant (.str x) wc E5)::iY) (.Constant (.str y) dR E6::bl) ((x,.str y)::r)
def JC:∀{a:List ai}{s:List (ar×aa)},vI c a=some s->sr c a s:=by
 induction c with
 |nil=>
  intro a s j;induction a using a8 with|nil=>exact aS j▸.nil|cons=>exact nS j
 |cons k c g=>
  intro a s j;induction a using a8 with
  |nil=>exact nS j
  |cons t a=>
   refine bK j λm ae j=>bK j λd A j=>eH j λw C f=>bK ae λn F ae=>?_;obtain⟨G,H,D⟩:=Nz ae;rw[F,D,<-f];induction B:rM t using b7 with
   |some b=>
    obtain⟨dR,q,l⟩:=Nz B;replace A:(rM t).elim ((v' t).map aa.int) (λm=>some<|.str m)=some d:=A;rw[B]at A;rw[l,<-aS A];exact .str<|g C
   |none=>
    replace A:(rM t).elim ((v' t).map aa.int) (λm=>some<|.str m)=some d:=A;rw[B]at A;refine eH A λI E p=>?_;obtain⟨dR,q,l⟩:=Yg E;rw[l,<-p];exact .int<|g C
def LJ(g:∃r,k=.str m r)(q:∀c j,Rz c j b d)(e:va a s):va ((k,b)::a) ((m,d)::s):=⟨g,q,e⟩
def ZA:∀{c:List (Option ai)}{x:List ai}{a:List (ar×aa)}{l:ax}{b:List (aq×aq)->ax->Prop},vI c x=I a->(∀n k,l.toks<=k->va n a->b n {l with toks:=k})->aB (aK C.prog C.w) r (evalPairs<|pairTrees c x d j) b f l:=by
 intro c x a l b i;replace i:=JC i;induction i generalizing l b with
 |nil=>exactλq=>pairTrees_nil_walk<|q [] l.toks (bM _) trivial
 |int p g=>
  refineλq=>ahF ?_;show aB _ _ (sk _) _ _ _;refine uS ?_;show aB _ _ (G9 _) _ _ _;refine wpAny_mkInt ?_;exact g λn k e y=>q _ _ (aC (b_ _ 2) e)<|LJ ⟨_,rfl⟩ (λm i=>.int _ _) y
 |str p g=>
  refineλq=>ahF ?_;show aB _ _ (sk _) _ _ _;refine uS ?_;show aB _ _ (sk _) _ _ _;refine uS ?_;exact g λn k e y=>q _ _ (aC (b_ _ 2) e)<|LJ ⟨_,rfl⟩ (λm i=>.str _ _) y
def Zz:∀{n:List (aq×aq)}{s:List (ar×aa)},va n s->∃i:List (ar×aq),Carries (strKind C.prog C.w) n i/\i.map (·.1)=s.map (·.1)/\∀B j A,Pairs (strKind C.prog C.w) A i->c4 B j A s:=by
 intro n;induction n with
 |nil=>
  intro s j;induction s using a8 with|nil=>exact⟨[],trivial,rfl,λB j A G=>by cases G;exact .nil⟩|cons _ _=>exact j.elim
 |cons q n E=>
  intro s j;induction s using a8 with
  |nil=>exact j.elim
  |cons O s=>
   obtain⟨k,R⟩:=q;obtain⟨K,d⟩:=O;obtain⟨⟨P,rfl⟩,F,y⟩:=j;obtain⟨i,N,m,ao⟩:=E y;refine⟨(K,R)::i,⟨strKind_is _ _ K P,rfl,N⟩,by simp[m],λB j A G=>?_⟩;cases G with
   |@cons f S D L M H r=>
    obtain⟨l,I,J⟩:=f;obtain⟨Q,rfl⟩:=Value.isStrOf_shape M;dsimp only at H;subst H;exact .cons (F B j)<|ao B j D r
def Y5:∀{k:List ar},nI k=ab->k.Nodup:=by
 intro k;induction k with
 |nil=>
  exact @λa=>Gk
 |cons m k c=>
  exact @λj=>by unfold nI at j;simp only[c0,ez,hL,decide_eq_false_iff_not]at j;exact List.nodup_cons.mpr ⟨j.1,c j.2⟩
def U0(j:vI c x=I s):c.all (·.isSome)=ab/\c.length=x.length/\c.length=s.length:=by replace j:=JC j;induction j with|nil=>exact⟨rfl,rfl,rfl⟩|int k g=>exact⟨g.1,congrArg (·+1) g.2.1,congrArg (·+1) g.2.2⟩|str k g=>exact⟨g.1,congrArg (·+1) g.2.1,congrArg (·+1) g.2.2⟩
def VC(O:JA ac am=I d):bq C a1 (.Dict ac am an) al d:=by intro af au N ar aq q;refine bK O λM J O=>?_;obtain⟨A,rfl⟩:=cj O;simp only[c0,ez]at A;obtain⟨P,R,G⟩:=U0 J;have W:=d0 A.2;refine wpAny_Dict_walk (knd:=strKind C.prog C.w) P R (λf=>?_) (aC (cL o) o) ?_;rw[f]at G;have:M=[]:=OK.mp G.symm;rw[this]at A;simp at A;refine ZA J λaa ap Y V=>?_;obtain⟨i,B,U,ao⟩:=Zz (C:=C) V;have j:aa.length=i.length:=B.length.symm;refine⟨i,B,⟨_,_,_,dE _ rfl,⟨rfl,rfl,rfl⟩,rfl,λf S=>by simp at S,Pairs.nil,Gk⟩,λy r l=>?_⟩;rw[merged_nil_of_nodup _ (by rw[U];exact Y5 A.1.1)]at r;obtain⟨⟨ab,ae,ad,ai⟩,ah,ag,X,⟨D,F,n⟩,H,K,k,as⟩:=r;dsimp only at D F n H;subst D F n H;have a:=N.fresh;have bW:¬C.T af.heap.objs.size:=λaj=>a<|N.aT _ aj;have m:∀p L,af.heap.get? p=I L->y.get? p=I L:=λp L f=>(l.2 p<|fs<|fe f).trans<|dS _ f;refine q _ _ (ak.of_keep m<|aC Y<|b_ _ _) (.dict a (by obtain⟨L,f⟩:=C.w8 _ N.ok;exact beq_eq_false_iff_ne.mpr λq=>absurd (fe f) (by rw[<-q];exact jZ _)) X<|ao _ _ _ k)
section
variable(eD:cf C O N)(h:hz C O N n){S:aZ}{aO:bQ}{d:aa}{c:bX}{bb:ax}(gp:bj C c S aO bb)(ho:N<=c.fuel)
include eD h gp ho
theorem VB(i:bc O (n+1) S aO (.Constant t a s)=I d):bq C c (.Constant t a s) bb d:=by
 cases t<;>try exact nS i
 exact aS i▸bq.none;exact aS i▸bq.bool;exact aS i▸bq.int;exact aS i▸bq.float;exact aS i▸bq.str
theorem VH(i:bc O (n+1) S aO (.Name m a)=some d):bq C c (.Name m a) bb d:=by
 replace i:(match aO.lookup m with
   |some d=>some d
   |none=>if S.global m=ab then O.const m else none)=some d:=i
 induction k:aO.lookup m using b7 with
 |some w=>
  rw[k]at i;exact aS i▸bq.name (gp.names m _ k) gp.aT
 |none=>
  rw[k]at i;have f:=gq i;obtain⟨t,r,j⟩:=eD.const m d f.2;exactλl b A h B q=>kZ gp f.1 r l A _ _<|q t l (ak.refl l)<|j _ _
theorem Vz(i:bc O (n+1) S aO (.Compare j x g m)=I d):bq C c (.Compare j x g m) bb d:=by
 match x,g,i with
 |[f],[w],i=>
  replace i:(if nd f w=ab then ag else(bc O n S aO j).bind λE=>(bc O n S aO w).bind λF=>(O.cmp f E F).map aa.bool)=I d:=i
  split at i
  exact nS i
  rename_i D
  exact bK i λE q i=>bK i λF A i=>eH i λk B G=>G▸bq.cmp (h.cW _ _ _ _ _ _ gp ho q) (h.cW _ _ _ _ _ _ gp ho A) (eD.cmp _ _ _ _ B) ((jX _).mp D)
 |[],Z,i=>exact nS i
 |[Z],[],i=>exact nS i
 |[Z],t::s::y,i=>exact nS i
 |Z::t::s,y,i=>exact nS i
theorem VJ(f:bc O (n+1) S aO (.Subscript e y s)=some d):bq C c (.Subscript e y s) bb d:=by
 induction A:qm y using b7 with
 |none=>
  have f:=(congrArg (Ba · _ _) A).symm.trans f;exact bK f λE x f=>bK f λG j f=>(eD.item _ _ _ f).elim λg w=>bq.item (h.cW _ _ _ _ _ _ gp ho x) (h.cW _ _ _ _ _ _ gp ho j) g w
 |some q=>
  have f:=(congrArg (Ba · _ _) A).symm.trans f;obtain⟨F,rfl⟩:=ac' A;exact bK f λE x f=>bK f λk B f=>bK f λH m f=>bK f λr D f=>(eD.slice _ _ _ _ _ f).elim λg w=>bq.slice (h.cW _ _ _ _ _ _ gp ho x) (h.CW _ _ _ _ _ _ gp ho B) (h.CW _ _ _ _ _ _ gp ho m) (h.CW _ _ _ _ _ _ gp ho D) g w
theorem Vx(i:bc O (n+1) S aO (.Attribute t m b)=some d):bq C c (.Attribute t m b) bb d:=by
 induction k:C_ S aO t using b7 with
 |some J=>
  have i:=(congrArg (Ba · _ _) k).symm.trans i;obtain⟨F,rfl,B⟩:=Xk k;obtain⟨K,r,D⟩:=eD.hk _ _ _ i;exactλl L e H G q=>agr (kZ gp B r l e _ _<|D c.X c.A c.fuel l e _ _ q) rfl
 |none=>
  have i:=(congrArg (Ba · _ _) k).symm.trans i;exact iK i λj i=>bK i λI w i=>bq.attr j (h.cW _ _ _ _ _ _ gp ho w)<|eD.attr _ _ _ i
def VG(i:bc O (n+1) S aO (.Call (.Attribute e b t) y [] s)=I d):bq C c (.Call (.Attribute e b t) y [] s) bb d:=by refine iK i λw i=>bK i λj g i=>?_;exact bK i λq f i=>bq.en (aM (aM w).1).1 (d0 (aM (aM w).1).2) (aM w).2 (h.cW _ _ _ _ _ _ gp ho g) (h.jN _ _ _ _ _ _ gp ho f) (eD.en _ _ _ _ i) ho
def VD(B:bc O (n+1) S aO (.Call (.Name i b) a [] j)=some d):bq C c (.Call (.Name i b) a [] j) bb d:=by
 have L:=gq B;clear B;have K:=(aM L.1).1;have B:=L.2;clear L;induction G:qo a using b7 with
 |some am=>
  rw[G]at B;obtain⟨aj,rfl⟩:=adI G;refine bK B λac ae B=>bK B λD t B=>iK B λaf B=>?_;obtain⟨H,I,M,l⟩:=eD.call _ _ _ B;intro aw ax W az ay q;rw[show cn (.Call (.Name i b) [.Starred am aj] [] j) c.env=(cn (.Name i b) c.env>>=λH=>ic j H [] [(ab,cn am c.env>>=λH=>fG j>>=λaA=>bg H)] [])from rfl];refine av<|kZ (p:=b) gp K I aw W _ _ ?_;refine Td M (d:=ac) ?_ t (d0 af) ax W λai J an ar=>l c.X c.A J ai ((W.ext an).fuel ho) ar _ _ λH cX ak ah=>q H cX (an.trans ak) ah;intro R U k aa Y N;exact av<|h.cW _ _ _ _ _ _ gp ho ae R U k _ _ λH T m P=>av<|dc<|aY<|N H T m P
 |none=>
 rw[G]at B;replace B:(rF i a).elim ((fv O n S aO a).bind λD=>O.call i D) (λF=>if(S.global F.1&&(aO.lookup F.1).isNone)=ab then(fv O n S aO F.2).bind λD=>(gZ D).map .list else none)=some d:=B;induction w:rF i a using b7 with
 |some F=>
  obtain⟨W,ao⟩:=F;rw[w]at B;obtain⟨rfl,rfl,aq,au,rfl⟩:=ach w;exact iK B λV B=>bK B λal ad B=>eH B λD ag ap=>ap▸VF eD h gp ho K (aM V).1 ad ag
 |none=>
 rw[w]at B;refine bK B λD t B=>?_;obtain⟨H,I,M,l⟩:=eD.call _ _ _ B;exact bq.call (kZ gp K I) (h.jN _ _ _ _ _ _ gp ho t) l ho M rfl
theorem Vy(a:bc O (n+1) S aO (.Call i y x s)=I d):bq C c (.Call i y x s) bb d:=by
 cases i<;>try exact nS a
 induction x using a8 with|cons k t=>exact nS a|nil=>exact VG eD h gp ho a
 induction x using a8 with|cons k t=>exact nS a|nil=>exact VD eD h gp ho a
theorem VE(j:bc O (n+1) S aO (.ListComp a y i s)=I d):bq C c (.ListComp a y i s) bb d:=by
 induction y using a8 with
 |nil=>exact nS j
 |cons D E=>
  obtain⟨t,l,w,k⟩:=D;refine iK j λm j=>bK j λA q j=>bK j λB r j=>bK j λx b j=>?_;have f:=cj j;have m:k=0:=bL m;subst m;exact f.2▸VA eD h gp ho q r b (d0 f.1)
end
set_option tactic.hygienic true in
set_option maxHeartbeats 1000000 in
theorem adg(f:cf C O N)(j:hz C O N n):∀J G D d H A,bj C H J G A->N<=H.fuel->bc O (n+1) J G D=I d->bq C H D A d:=by
 intro J G D d H A m y i;cases D<;>first|exact nS i|exact VB f j m y i|exact VH f j m y i|exact Vz f j m y i|exact VJ f j m y i|exact Vx f j m y i|exact Vy f j m y i|exact VE f j m y i|skip
 case Tuple g w s=>exact bK i λK B i=>(λD=>D.2▸bq.tuple (j.jN _ _ _ _ _ _ m y B) (d0 D.1))<|cj i
 case List g s=>exact bK i λK B i=>(λD=>D.2▸bq.list (j.jN _ _ _ _ _ _ m y B) (d0 D.1))<|cj i
 case BinOp V M W s=>exact bK i λP F i=>bK i λR L i=>bq.binop (j.cW _ _ _ _ _ _ m y F) (j.cW _ _ _ _ _ _ m y L)<|f.bin _ _ _ _ i
 case UnaryOp M Y s=>exact bK i λP F i=>bq.unop (j.cW _ _ _ _ _ _ m y F)<|f.un _ _ _ i
 case IfExp X P R s=>
  refine bK i λk E i=>?_;induction k using cq with|true=>exact bq.Dn (j.jM _ _ _ _ _ _ m y E) (λQ=>j.cW _ _ _ _ _ _ m y i) (λq=>nomatch q)|false=>exact bq.Dn (j.jM _ _ _ _ _ _ m y E) (λq=>nomatch q) λQ=>j.cW _ _ _ _ _ _ m y i
 case Dict T U s=>exact VC i
def de(x:cf C O N):∀n,hz C O N n:=by
 intro n;induction n with
 |zero=>
  exact adn O N
 |succ n c=>
  exact⟨adg x c,adh c,adi x c,ade x c,adf c,adl c,adk x c,λk k k k k g=>adj _ _ _ _ _ g,adm x c⟩
end
noncomputable def Fy:aa->Option ar|.str m=>I m|_=>ag
mutual
noncomputable def fu:aa->Bool|.tuple k=>gH k|.list _=>au|.obj _ _=>au|.dict _=>au|.eb _ _=>au|_=>ab
noncomputable def gH:List aa->Bool|[]=>ab|d::k=>fu d&&gH k
end
inductive kS where
 |val (d:aa)
 |own (l:List aa)
abbrev aG:=List<|ar×kS
noncomputable def kS.data:kS->aa|.val d=>d|.own k=>.list k
noncomputable def kS.isVal:kS->Bool|.val _=>ab|.own _=>au
def aG.plus(σ:aG):bQ:=σ.map λs=>(s.1,s.2.data)
def aG.strict(σ:aG):bQ:=(σ.filter λs=>s.2.isVal).map λs=>(s.1,s.2.data)
def aG.pure(σ:aG):Bool:=σ.all λs=>s.2.isVal
noncomputable def aG.set(σ:aG)(m:ar)(t:kS):aG:=(m,t)::σ.filter λs=>!(s.1==m)
def aG.vals(σ:aG)(w:bQ):aG:=w.foldr (λs σ=>aG.set σ s.1<|.val s.2) σ
inductive fH where
 |next (σ:aG)
 |brk (σ:aG)
 |cont (σ:aG)
 |ret (d:aa)
noncomputable def Fz(s:ar->Bool)(b:Nat):ai->Option ar|.Name id j=>if s id&&j.line==b then I id else ag|_=>ag
def FA(a:aZ)(b:Nat):ai->Option ar:=Fz (λid=>a.sc.names.lookup id==I .local) b
def rO(a:aZ)(m x:List ai):Option Bool:=if !(m.length==2||m.length==3)||x.length !=m.length then I au else if x.any fX then I au else
  let l:=m.filterMap (FA a ((m.head?.map (·.pos.line)).getD 0))
  if l.length !=m.length||l.eraseDups.length !=l.length then I au
  else if x.all (PR 8)then I au
  else if x.all (PO 8)then ag
  else I ab
def mY(f:ai):Option (List ai):=(js f).map (·.1)
def pS(a:aZ)(t f:ai)(d:aa):Option bQ:=(js t).elim ((fp t).bind λ_=>dq a t d []) λx=>(xc d).bind λq=>(mY f).elim (er a x.1 q []) λb=>
 (rO a x.1 b).bind λh=>if h then er a x.1.reverse q.reverse []else er a x.1 q []
noncomputable def sJ(a:aZ):List ai->aa->bQ->Option bQ|[],_,w=>I w|t::m,d,w=>(pU a t d w).bind λl=>sJ a m d l
def rd(f:ai):Bool:=(t' f).isSome||(qw f).elim au λx=>(fp x.1).isSome&&x.2.1==.Add
noncomputable def zx:aa->Nat->Option Nat|.int y,a=>if 0<=y/\y.toNat<a/\a<=1000000 then I y.toNat else ag|_,_=>ag
def i1(a:aZ)(m:ar):Bool:=a.own.contains m&&jj m
noncomputable def sx:Option kS->Option (List aa)|some (.own k)=>some k|_=>ag
def o7(a:aZ)(σ:aG)(f:ai):Option (List ai):=(AO f).bind λx=>if x.1==("range":ar)&&a.global x.1&&(σ.plus.lookup x.1).isNone then I x.2.2.1 else ag
def mH(h:b0)(a:aZ)(y:Nat)(σ:aG)(f:ai):Option aa:=(bc h y a σ.plus f).bind λd=>if σ.pure||fu d then I d else bc h y a σ.strict f
def H0(h:b0)(a:aZ)(y:Nat)(σ:aG)(m:List ai)(f:ai):Option fH:=(mH h a y σ f).bind λd=>(sJ a m d []).map λw=>.next<|σ.vals w
def H2(h:b0)(a:aZ)(y:Nat)(σ:aG)(r f:ai):Option fH:=(mH h a y σ f).bind λd=>(pS a r f d).map λw=>.next<|σ.vals w
def w7(h:b0)(a:aZ)(y:Nat)(σ:aG)(f:ai):Option (List aa):=(m2 f).bind λ_=>(bc h y a σ.plus f).bind λd=>(Fy d).map pK
mutual
noncomputable def xs(h:b0)(a:aZ)(c:List ar):Nat->aG->List aF->Option fH
 |0,_,_=>ag
 |n+1,σ,aP=>match aP with
  |[]=>I<|.next σ
  |st::e=>(eo h a c n σ st).bind λr=>match r with
   |.next aW=>xs h a c n aW e
   |r=>I r
noncomputable def eo(C:b0)(B:aZ)(F:List ar):Nat->aG->aF->Option fH
 |0,_,_=>none
 |n+1,σ,st=>match st with
  |.Assign m f _=>(ec m).elim (if m.isEmpty then none else H0 C B n σ m f) λr=>(kF r).elim ((fp r).elim ((js r).elim none λ_=>H2 C B n σ r f) λA=>
    if F.contains A.1 then(if rd f&&i1 B A.1 then(bc C n B σ.plus f).bind lC |>.bind λq=>if gH q then some (.next<|σ.set A.1<|.own q)else none else none)else H2 C B n σ r f)
   λA=>(fp A.1).bind λE=>(sx<|σ.lookup E.1).bind λs=>(bc C n B σ.plus f).bind λd=>(bc C n B σ.plus A.2.1).bind λk=>(zx k s.length).bind λG=>if fu d then some (.next<|σ.set E.1<|.own<|s.set G d)else none
  |.AugAssign r c f _=>(fp r).bind λA=>if !i1 B A.1 then none else(bc C n B σ.plus f).bind λp=>match σ.lookup A.1 with|some (.val i)=>(C.aug c i p).bind λd=>if σ.pure||fu d then some (.next<|σ.set A.1<|.val d)else none|some (.own s)=>if c==.Add then(lC p).bind λq=>if gH q&&bG (s.length+q.length) 1000000 then some (.next<|σ.set A.1<|.own<|s++q)else none else none|none=>none
  |.Expr x _=>(pg x).bind λA=>(fp A.1).bind λE=>(ec A.2.2.2.1).elim (if A.2.2.2.1.isEmpty&&(A.2.1==("reverse":ar)&&A.2.2.1.endLine==A.2.2.2.2.line)then(sx<|σ.lookup E.1).bind λs=>if bG s.length 1000000 then some (.next<|σ.set E.1<|.own s.reverse)else none else none)
   λf=>if A.2.1==("append":ar)&&A.2.2.1.endLine==A.2.2.2.2.line then
    (sx<|σ.lookup E.1).bind λs=>(bc C n B σ.plus f).bind λd=>if fu d&&bG s.length 1000000 then some (.next<|σ.set E.1<|.own<|s++[d])else none
   else none
  |.If r p w _=>(fW C n B σ.plus r).bind λk=>if k then xs C B F n σ p else xs C B F n σ w
  |.Return (some f) _=>(bc C n B σ.plus f).map .ret
  |.Return none _=>some<|.ret .none
  |.Break _=>some<|.brk σ
  |.Continue _=>some<|.cont σ
  |.Pass _=>some<|.next σ
  |.While r p [] _=>ud C B F n σ r p
  |.For g h p [] _=>((o7 B σ h).elim ((w7 C B n σ h).elim ((fI C n B σ.strict g h).bind λq=>if σ.pure||gH q then some q else none) some) λD=>(fv C n B σ.plus D).bind gZ).bind λq=>ub C B F n σ g p q
  |_=>none
noncomputable def ud(h:b0)(e:aZ)(c:List ar):Nat->aG->ai->List aF->Option fH
 |0,_,_,_=>ag
 |n+1,σ,a,p=>(fW h n e σ.plus a).bind λk=>if k then(xs h e c n σ p).bind λw=>match w with
   |.next aW=>ud h e c n aW a p
   |.cont aW=>ud h e c n aW a p
   |.brk aW=>I<|.next aW
   |.ret d=>I<|.ret d
  else I (.next σ)
noncomputable def ub(h:b0)(e:aZ)(c:List ar):Nat->aG->ai->List aF->List aa->Option fH
 |0,_,_,_,_=>ag
 |n+1,σ,t,p,a=>match a with
  |[]=>I<|.next σ
  |d::a=>(dq e t d []).bind λw=>(xs h e c n (σ.vals w) p).bind λf=>match f with
   |.next aW=>ub h e c n aW t p a
   |.cont aW=>ub h e c n aW t p a
   |.brk aW=>I<|.next aW
   |.ret d=>I<|.ret d
end
section
variable{C:bC}
def DF{α:Type}{x y:Str}:∀{σ:List (Str×α)},(y==x)=false->(σ.filter λp=>!(p.1==x)).lookup y=σ.lookup y:=by
 intro σ;induction σ with
 |nil=>
  exact @λZ=>rfl
 |cons ab8 r K6=>
  obtain⟨ba,v⟩:=ab8;exact @λh=>by rw[List.filter_cons];by_cases zp:(ba==x)=true;have X1:ba=x:=eq_of_beq zp;subst X1;simp only[zp,Bool.not_true,Bool.false_eq_true,if_false];rw[K6 h,List.lookup_cons,h];simp only[Bool.not_eq_true]at zp;simp only[zp,Bool.not_false,if_true];rw[List.lookup_cons,List.lookup_cons,K6 h]
def k_{σ:aG}:(σ.set m t).lookup b=if(b==m)=true then I t else σ.lookup b:=by unfold aG.set;rw[ep];induction j:b==m using cq with|true=>rfl|false=>simpa using DF j
def yD{n:Type}{s:ar×n->Bool}:∀{σ:List (ar×n)},dG (σ.map (·.1))=ab->dG ((σ.filter s).map (·.1))=ab:=by
 intro σ;induction σ with
 |nil=>
  exact @λj=>j
 |cons b w c=>
  exact @λj=>by rw[e4]at j;unfold dG at j;simp only[c0,ez,hL,decide_eq_false_iff_not]at j;rw[kG];split;rw[e4];unfold dG;simp only[c0,ez,hL,decide_eq_false_iff_not];refine⟨λq=>j.1 ?_,c j.2⟩;rw[hM]at q ⊢;obtain⟨x,k,a⟩:=q;exact⟨x,(lk.mp k).1,a⟩;exact c j.2
def rI{σ:aG}(j:dG (σ.map (·.1))=ab):dG ((σ.set m t).map (·.1))=ab:=by unfold aG.set;rw[e4];unfold dG;simp only[c0,ez,hL,decide_eq_false_iff_not];refine⟨λq=>?_,yD j⟩;rw[hM]at q;obtain⟨a,k,f⟩:=q;have:=(lk.mp k).2;rw[f]at this;simp at this
def NZ{σ:aG}:∀{w:bQ},dG (σ.map (·.1))=ab->dG ((σ.vals w).map (·.1))=ab:=by
 intro w;induction w with
 |nil=>
  exact @λj=>j
 |cons s a c=>
  exact @λj=>rI<|c j
def AD{σ:aG}{b:ar}:∀{w:bQ},(σ.vals w).lookup b=match w.lookup b with|some d=>some (.val d)|none=>σ.lookup b:=by
 intro w;induction w with
 |nil=>
  exact rfl
 |cons s a c=>
  exact by show(aG.set (σ.vals a) s.1<|.val s.2).lookup b=_;rw[k_,ep];induction j:b==s.1 using cq with|true=>rfl|false=>simpa using c
def ab5{σ:aG}{b:ar}{d:aa}:∀{σ:aG},σ.plus.lookup b=I d->∃t,σ.lookup b=I t/\t.data=d:=by
 intro σ;induction σ with
 |nil=>
  exact @λj=>by cases j
 |cons s w c=>
  exact @λj=>by unfold aG.plus at j;rw[e4,ep]at j;rw[ep];induction a:b==s.1 using cq with|true=>rw[a]at j;exact⟨_,rfl,by simpa using j⟩|false=>rw[a]at j;exact c j
def fB:∀{σ:aG},dG (σ.map (·.1))=true->(σ.strict.lookup a=some d↔σ.lookup a=some (.val d)):=by
 intro σ;induction σ with
 |nil=>
  exact @λk=>by simp[aG.strict]
 |cons n w c=>
  obtain⟨x,t⟩:=n;exact @λj=>by
   have C:=j;rw[e4]at j;unfold dG at j;simp only[c0,ez,hL,decide_eq_false_iff_not]at j;have g:=c j.2;have i:(a==x)=true->w.lookup a=none:=by intro s;have s:=bL s;subst s;induction A:w.lookup a using b7 with|none=>rfl|some p=>exact absurd (mm (f:=(·.1))<|mem_of_lookup A) j.1
   unfold aG.strict at g ⊢;rw[kG,ep];cases t with
   |val B=>
    simp only[kS.isVal,if_true,e4,ep];induction m:a==x using cq with|true=>simp[kS.data]|false=>exact g
   |own D=>
    simp only[kS.isVal,g7,if_false];induction m:a==x using cq with
    |true=>
     have:=i m;rw[this]at g;exact g.trans ⟨λq=>(by cases q),λq=>(by cases q)⟩
    |false=>exact g
def BZ(k:aE->Prop)(j:cc):Prop:=∀i,k i->∀d,j.get? i=I d->d.cls≠.type "tuple"/\d.cls≠.type "set"
def J9(x:BZ k j)(s:fu d=ab)(F:Rz g j e d):Rz (λm=>g m\/k m) j e d:=Rz.rec (motive_1:=λe d _=>fu d=ab->Rz (λm=>g m\/k m) j e d) (motive_2:=λe d _=>gH d=ab->RzL (λm=>g m\/k m) j e d) (motive_3:=λ_ _ _=>True) (λ_=>.none) (λp _=>.bool p) (λy A _=>.int y A) (λy A E _=>.float y A E) (λy A _=>.str y A) (λm _=>.ref m) (λm p _ D s=>.tuple (λq=>q.elim m λB=>(x _ B _ p).1 rfl) p<|D s) (λ_ _ _ _ s=>fT s) (λ_ _ _ _ _ _ s=>fT s) (λ_ _ _ _ _ s=>fT s) (λ_ _ _ _ _ _ _ s=>fT s) (λm p C y _=>.iX (λq=>q.elim m λB=>(x _ B _ p).2 C.1.1) p C y) (λ_=>.nil) (λ_ _ m p s=>.cons (m (aM s).1)<|p (aM s).2) trivial (λ_ _ _ _=>trivial) F s
def J_(k:BZ Z j)(s:gH d=ab)(E:RzL g j e d):RzL (λm=>g m\/Z m) j e d:=RzL.rec (motive_1:=λe d _=>fu d=ab->Rz (λm=>g m\/Z m) j e d) (motive_2:=λe d _=>gH d=ab->RzL (λm=>g m\/Z m) j e d) (motive_3:=λ_ _ _=>True) (λ_=>.none) (λp _=>.bool p) (λy x _=>.int y x) (λy x D _=>.float y x D) (λy x _=>.str y x) (λm _=>.ref m) (λm p _ C s=>.tuple (λq=>q.elim m λA=>(k _ A _ p).1 rfl) p<|C s) (λ_ _ _ _ s=>fT s) (λ_ _ _ _ _ _ s=>fT s) (λ_ _ _ _ _ s=>fT s) (λ_ _ _ _ _ _ _ s=>fT s) (λm p B y _=>.iX (λq=>q.elim m λA=>(k _ A _ p).2 B.1.1) p B y) (λ_=>.nil) (λ_ _ m p s=>.cons (m (aM s).1)<|p (aM s).2) trivial (λ_ _ _ _=>trivial) E s
def DC{q:List aE}(c:∀i∈q,∃x y,j.get? i=I ⟨.type "list",ag,.seq ⟨x⟩ y,#[]⟩):BZ (·∈q) j:=λi k d f=>by obtain⟨l,g,b⟩:=c i k;rw[b]at f;cases f;exact⟨by simp,by simp⟩
def s_{q:List aE}(b:∀i∈q,∃x y,j.get? i=I ⟨.type "list",ag,.seq ⟨x⟩ y,#[]⟩)(s:fu d=ab)(w:Rz c j t d):Rz (λi=>c i\/i∈q) j t d:=J9 (DC b) s w
def CX{W:List aE}(b:∀i∈W,∃x y,j.get? i=I ⟨.type "list",ag,.seq ⟨x⟩ y,#[]⟩)(s:gH d=ab)(w:RzL X j t d):RzL (λi=>X i\/i∈W) j t d:=J_ (DC b) s w
def bH.same(i:bH C j c g f)(p:bH C j c g d):f=d:=by obtain⟨D,D,D,i⟩:=i;obtain⟨D,D,D,p⟩:=p;rcases i with⟨k,N,O,r,J⟩|⟨k,ad,K,N,w⟩<;>rcases p with⟨n,I,L,F,E⟩|⟨n,y,G,I,s⟩;rw[Mb r F]at J;rw[J]at E;exact GB E;rcases n with n|n<;>(rw[k]at n;cases n);rcases k with k|k<;>(rw[n]at k;cases k);rw[K]at G;cases G;obtain⟨P,q,H⟩:=w;obtain⟨M,B,A⟩:=s;rw[q]at B;cases B;rw[H]at A;cases A;rfl
def Q3(C:bC)(g:bX)(σ:aG)(q:List aE)(d:ax):Prop:=∀m k,σ.lookup m=I (.own k)->∃i∈q,bH C d.heap g.env m (.ref i)/\∃b y,d.heap.get? i=I ⟨.type "list",ag,.seq ⟨b⟩ y,#[]⟩/\RzL (g.grow q).X d.heap b k
def Q2(C:bC)(g:bX)(σ:aG)(d:ax):Prop:=∀m b k j i,σ.lookup m=I (.own k)->σ.lookup b=I (.own j)->bH C d.heap g.env m (.ref i)->bH C d.heap g.env b (.ref i)->m=b
structure aX(C:bC)(c:bX)(S:aZ)(σ:aG)(W:List Addr)(s:Shared):Prop where
 good:bh C (c.grow W).X c.A c.fuel s
 ok:bj C (c.grow W) S σ.strict s
 keys:dG (σ.map (·.1))=true
 lists:∀a∈W,¬c.X a/\¬C.P a/\∃bl n,s.heap.get? a=some ⟨.type "list",none,.seq ⟨bl⟩ n,#[]⟩
 own:Q3 C c σ W s
 apart:Q2 C c σ s
 aT:∀a,C.T a->c.X a
 bJ:∀a,c.Y a->c.X a
 cI:∀n a,c.env.cells.lookup n=some a->c.X a
structure b2(C:bC)(c:bX)(W gV:List Addr)(s J:Shared):Prop where
 bx:cu C c gV s J
 new:∀a∈gV,a∈W\/s.heap.get? a=none
 old:∀a∈W,a∈gV
section
variable{c:bX}{S:aZ}{σ:aG}{W:List aE}{s:ax}
def aX.cB(j:aX C c S σ W s):bh C c.X c.A c.fuel s:=⟨j.good.handled,j.good.depth,j.good.units,j.good.guards,λi p=>j.good.cA i<|.inl p,j.aT,j.good.ok,j.good.tok⟩
def aX.borrow(j:aX C c S σ W s):bj C c S σ.plus s:=by
 have k:=j.ok.shrink j.aT j.bJ j.cI;refine⟨k.sc,k.glob,k.blt,k.aT,k.own,k.cells,λm d f=>?_,k.loc⟩;obtain⟨t,A,rfl⟩:=ab5 (σ:=σ) f;cases t with
 |val d=>exact k.names m d<|(fB j.keys).mpr A
 |own B=>
  obtain⟨i,p,g,D,y,f,w⟩:=j.own m B A;exact⟨.ref i,g,.list (j.lists i p).1 f<|w.less λE q=>.inl q⟩
theorem aX.ext(j:aX C c S σ W s)(m:ak C s J):aX C c S σ W J:=by have O:=j.good.ext m;have bW:∀i∈W,¬C.T i:=λi B Q=>(j.lists i B).1<|j.aT i Q;refine⟨O,j.ok.ext m,j.keys,λi B=>?_,λF k D=>?_,λF M k E i D b R L=>?_,j.aT,j.bJ,j.cI⟩;obtain⟨H,q,A,K,D⟩:=j.lists i B;exact⟨H,q,A,K,m.keep _ _ D<|bW i B⟩;obtain⟨i,B,I,A,K,d,P⟩:=j.own F k D;exact⟨i,B,I.ext m,A,K,m.keep _ _ d<|bW i B,j.good.fR m P⟩;obtain⟨c9,U,p,N⟩:=j.own F k D;obtain⟨dp,V,f,N⟩:=j.own M E b;have d:=(p.ext m).same R;have G:=(f.ext m).same L;rw[d]at p;rw[G]at f;exact j.apart F M k E i D b p f
theorem b2.refl:b2 C c W W s s:=⟨(ak.refl s).bx,λi j=>.inl j,λi j=>j⟩
def b2.ext(m:ak C s J):b2 C c W W s J:=⟨m.bx,λi j=>.inl j,λi j=>j⟩
theorem b2.trans(i:b2 C c W f s n)(j:aX C c S fC f n)(p:b2 C c f l n g):b2 C c W l s g:=by
 refine⟨(i.bx.cut (λk G=>G) λm B=>.inl<|p.old m B).trans p.bx,λm B=>?_,λm B=>p.old m<|i.old m B⟩;rcases p.new m B with q|q;exact i.new m q;by_cases D:m∈f;exact i.new m D;right;induction F:s.heap.get? m using b7 with
 |none=>rfl
 |some d=>
  by_cases r:C.T m;obtain⟨E,A,k⟩:=j.good.cA m<|.inl<|j.aT m r;rw[q]at A;cases A;obtain⟨E,A⟩:=i.bx.all m d F r D;rw[q]at A;cases A
end
def cu.f9(j:cu C (g.grow a) b l J):cu C g b l J:=⟨j.same,j.keep,j.tabs,j.ok,j.all,j.toks⟩
def Cm(j:er a b c f_=I n):er a b c (f_++aO)=I (n++aO):=by replace j:=q2 j;induction j with|nil=>rfl|cons ae k g=>exact bF (yN ae) g
def II(j:dq a b d []=I m):dq a b d w=I (m++w):=by replace j:=yO j;generalize i:([]:bQ)=c at j;cases j with|name ae=>subst i;exact if_pos ae|tuple j=>subst i;exact Cm (f_:=[]) j
def Cn(j:er a b f c=I n)(q:i∈(b.filterMap tB)\/∃d,c.lookup i=I d):∃d,n.lookup i=I d:=by
 replace j:=q2 j;induction j with
 |nil=>exact q.resolve_left mn
 |@cons r s b d f t l ae k g=>
  refine g ?_;by_cases A:i=r;subst A;exact .inr ⟨d,afV⟩;exact q.imp (λB=>(cJ.mp B).resolve_left A) λ⟨w,j⟩=>⟨w,(DG A).trans j⟩
def IJ(j:dq a c d []=I m)(i:b∈xb c):∃d,m.lookup b=I d:=by
 replace j:=yO j;generalize([]:bQ)=w at j;cases j with
 |name ae=>
  obtain rfl:=cm.mp i;exact⟨d,afV⟩
 |tuple j=>exact Cn j<|.inl i
def aeM{σ:aG}(a:dG (σ.map (·.1))=ab)(f:(σ.vals m).strict.lookup b=some d):(m++σ.strict).lookup b=some d:=by rw[fB<|NZ a,AD]at f;rw[uo];induction j:m.lookup b using b7 with|some w=>rw[j]at f;simp at f;subst f;rfl|none=>rw[j]at f;exact(fB a).mpr f
section
variable{c:bX}{S:aZ}{σ:aG}{W:List aE}{s:ax}
def aX.bW(j:aX C c S σ W s)(n:i∈W):¬C.T i:=λr=>(j.lists i n).1<|j.aT i r
def aX.wx(j:aX C c S σ W s)(n:i∈W):¬c.Y i:=λr=>(j.lists i n).1<|j.bJ i r
def aX.stored(j:aX C c S σ W s){names:List ar}(st:dn C (c.grow W) s J)(k:bj C (c.grow W) S (m++σ.strict) J)(I:∀b V,b∉names->bH C s.heap c.env b V->bH C J.heap c.env b V) (P:∀b,b∈names->∃d,m.lookup b=some d):aX C c S (σ.vals m) W J/\b2 C c W W s J:=by
 have kp:∀i∈W,∀L,s.heap.get? i=some L->J.heap.get? i=some L:=λi A L f=>st.keep i L f (j.bW A)<|j.wx A;have t:∀b D,(σ.vals m).lookup b=some (.own D)->σ.lookup b=some (.own D)/\b∉names:=by
  intro b D f;rw[AD]at f;induction g:m.lookup b using b7 with
  |some d=>rw[g]at f;simp at f
  |none=>
   rw[g]at f;refine⟨f,λq=>?_⟩;obtain⟨d,K⟩:=P b q;rw[g]at K;cases K
 refine⟨⟨j.good.step st,k.sub λb d f=>aeM j.keys f,NZ j.keys,λi A=>?_,λb D f=>?_,λb M D H i f N aa U=>?_,j.aT,j.bJ,j.cI⟩,⟨st.bx.f9,λi A=>.inl A,λi A=>A⟩⟩;obtain⟨g,O,x,T,f⟩:=j.lists i A;exact⟨g,O,x,T,kp i A _ f⟩;obtain⟨E,G⟩:=t b D f;obtain⟨i,A,Q,x,T,F,Y⟩:=j.own b D E;exact⟨i,A,I b _ G Q,x,T,kp i A _ F,dn.rH j.good j.ok.loc st Y⟩;obtain⟨E,G⟩:=t b D f;obtain⟨F,R⟩:=t M H N;obtain⟨c9,ab,p,X⟩:=j.own b D E;obtain⟨dp,ac,B,X⟩:=j.own M H F;have dZ:=(I b _ G p).same aa;have fa:=(I M _ R B).same U;rw[dZ]at p;rw[fa]at B;exact j.apart b M D H i E F p B
theorem aX.dq(e:aX C c S σ W s){target:ai}{d:aa}{t:aq}{m:bQ}(l:Rz (c.grow W).X s.heap t d)(j:dq S target d []=I m){Q:Unit->ax->Prop}{E:aq->ax->Prop} (q:∀J,aX C c S (σ.vals m) W J->b2 C c W W s J->Q () J):aB (aK C.prog C.w) c.A (gR target c.env t) Q E s:=Co (c:=c.grow W) e.ok e.good (II j) l λJ st k g=>
  let⟨i,p⟩:=e.stored st k g λn f=>IJ j f
  q J i p
def bH.jm(j:bH C s.heap c.env d b)(D:ig C c W)(st:dF C W s J):bH C J.heap c.env d b:=by obtain⟨i,n,p,A⟩:=j;refine⟨i,n,p,?_⟩;rcases A with⟨k,r,E,y,f⟩|⟨k,ad,B,r,w⟩;exact .inl ⟨k,r,E,nP y λg f=>st.keep _ g f r D.loc,f⟩;exact .inr ⟨k,ad,B,r,pW w λg q=>st.keep _ g q r<|D.cell _ _ B⟩
def aX.off(d:aX C c S σ W s)(k:i∈W):ig C (c.grow W) [i]:=by obtain⟨g,l,x,y,f⟩:=d.lists i k;refine⟨λq=>?_,λr p j q=>?_,λp j=>by replace j:=cm.mp j;subst j;exact .inr k⟩;simp at q;exact g<|q▸d.bJ _ d.ok.loc.e1;simp at q;subst q;exact g<|d.cI r _ j
def aX.update(G:aX C c S σ W s)(ae:σ.lookup x=I (.own l))(ad:bH C s.heap c.env x (.ref i))(ak:i∈W)(st:dF C [i] s J) (N:J.heap.get? i=I ⟨.type "list",ag,.seq ⟨f⟩ al,#[]⟩) (av:RzL (c.grow W).X J.heap f j):aX C c S (σ.set x<|.own j) W J/\b2 C c W W s J:=by
 have L:=G.off ak;have kp:∀p∈W,p≠i->∀V,s.heap.get? p=I V->J.heap.get? p=I V:=λp F B V N=>st.keep p V N (G.bW F) (by simpa using B);have M:∀E aq,bH C s.heap c.env E aq->bH C J.heap c.env E aq:=λE aq an=>bH.jm (c:=c.grow W) an L st;have aj:∀E A,(E==x)=false->(σ.set x<|.own j).lookup E=I (.own A)->σ.lookup E=I (.own A):=by intro E A D N;rw[k_,if_neg<|by simpa using D]at N;exact N
 refine⟨⟨G.good.only st λp B=>by replace B:=cm.mp B;subst B;exact⟨G.bW ak,_,N⟩,(G.ok.jm L st).sub λE d D=>?_,rI G.keys,λp F=>?_,λE A D=>?_,λE U A R p D k ar as=>?_,G.aT,G.bJ,G.cI⟩,⟨st.bx λp B=>by replace B:=cm.mp B;exact B▸ak,λp F=>.inl F,λp F=>F⟩⟩;rw[fB<|rI G.keys,k_]at D;split at D;cases D;exact(fB G.keys).mpr D;obtain⟨g,ab,T,ao,P⟩:=G.lists p F;by_cases B:p=i;subst B;exact⟨g,ab,f,al,N⟩;exact⟨g,ab,T,ao,kp p F B _ P⟩;induction B:E==x using cq with
 |true=>
  have af:=bL B;subst af;rw[k_,if_pos B]at D;cases D;exact⟨i,ak,M _ _ ad,f,al,N,av⟩
 |false=>
  have g:=aj E A B D;obtain⟨p,F,O,T,ao,P,ap⟩:=G.own E A g;have ac:p≠i:=λq=>by subst q;have:=G.apart E x A l p g ae O ad;simp[this]at B
  exact⟨p,F,M _ _ O,T,ao,kp p F ac _ P,ap.mono λU V k am=>st.keep U V am (λaw=>k<|.inl<|G.aT U aw) λq=>k<|L.cA U q⟩
 have m:∀E A,(σ.set x<|.own j).lookup E=I (.own A)->∃Q,σ.lookup E=I (.own Q):=by intro E A D;induction B:E==x using cq with|true=>rw[bL B];exact⟨l,ae⟩|false=>exact⟨A,aj E A B D⟩
 obtain⟨ah,Y⟩:=m E A D;obtain⟨ai,aa⟩:=m U R k;obtain⟨c9,ax,H,au⟩:=G.own E ah Y;obtain⟨dp,ay,K,au⟩:=G.own U ai aa;have dZ:=(M _ _ H).same ar;have fa:=(M _ _ K).same as;rw[dZ]at H;rw[fa]at K;exact G.apart E U ah ai p Y aa H K
def Ky:(c.grow W).grow m=c.grow (W++m):=by unfold bX.grow;congr 1;funext i;simp[or_assoc]
def aX.anew(U:aX C c S σ W s)(M:ak C s f)(ao:s.heap.get? i=ag)(aa:f.heap.get? i=I ⟨.type "list",ag,.seq ⟨l⟩ be,#[]⟩) (a6:RzL (c.grow W).X f.heap l am) (aY:gH am=true) (ae:i1 S B=true) (q:∀J,aX C c S (σ.set B<|.own am) (W++[i]) J->b2 C c W (W++[i]) s J->bi () J):aB (aK C.prog C.w) c.A (lu c.env B<|.ref i) bi bm f:=by
 have L:=U.ext M;have ab:=U.good.gm ao;have aL:∀F∈[i],s.heap.get? F=ag:=c7 ao;have k:bj C (c.grow<|W++[i]) S σ.strict f:=Ky▸U.ok.grow aL M λaP aZ=>by obtain⟨al,aa,aD⟩:=U.good.cA aP<|.inl<|U.aT aP aZ;exact⟨al,aa⟩
 have aH:bh C (c.grow<|W++[i]).X c.A c.fuel f:=by have:=L.good.grow (c:=c.grow W) (W:=[i]) (c7 (P:=λF=>∃al,f.heap.get? F=I al) ⟨_,aa⟩)<|c7 ab.1;rw[Ky]at this;exact this
 simp only[i1,c0]at ae;refine Cp (c:=c.grow<|W++[i]) aH k.loc (k.own B ae.1 ae.2) λJ st ay ax aj=>?_;have aQ:i∉W:=λau=>by obtain⟨aD,aD,l,a4,aa⟩:=U.lists i au;rw[ao]at aa;cases aa
 have aO:¬c.Y i:=λj=>ab.2.2<|.inl<|U.bJ i j;have kp:∀F∈W++[i],∀al,f.heap.get? F=I al->J.heap.get? F=I al:=λF K al aU=>st.keep F al aU (ts (P:=λF=>¬C.T F) (λF=>U.bW) ab.1 F K)<|ts (P:=λF=>¬c.Y F) (λF=>U.wx) aO F K;have O:∀F∈W++[i],∃l a4,f.heap.get? F=I ⟨.type "list",ag,.seq ⟨l⟩ a4,#[]⟩:=ts (λF au=>(L.lists F au).2.2) ⟨l,be,aa⟩;have aC:∀{a1 as},RzL (c.grow W).X s.heap a1 as->RzL (c.grow<|W++[i]).X J.heap a1 as:=λ{a1 as} az=>by have aA:=(az.wide aL).mono (hl:=f.heap) λF al G aS=>M.keep F al aS λaP=>G<|.inl<|.inl<|U.aT F aP;have:RzL (c.grow<|W++[i]).X f.heap a1 as:=aA.less λF G=>G.elim (λG=>.inl<|.inl G) λG=>(ml.mp G).elim (λau=>.inl<|.inr au) .inr;exact dn.rH aH k.loc st this
 have ai:∀j D,(j==B)=false->(σ.set B<|.own am).lookup j=I (.own D)->σ.lookup j=I (.own D):=by intro j D H aa;rw[k_,if_neg<|by simpa using H]at aa;exact aa
 have a2:bj C (c.grow<|W++[i]) S (aG.strict<|σ.filter λbd=>!(bd.1==B)) J:=by
  refine⟨k.sc,k.glob,k.blt,k.aT,k.own,k.cells,λj d H=>?_,ay⟩;have ah:(σ.filter λbd=>!(bd.1==B)).lookup j=I (.val d):=(fB<|yD U.keys).mp H;have V:(j==B)=false:=by
   induction G:j==B using cq with
   |false=>rfl
   |true=>
    exact absurd (G▸(lk.mp<|mem_of_lookup ah).2:(!true)=true) h8
  rw[DF V]at ah;obtain⟨a5,a0,a3⟩:=k.names j d<|(fB U.keys).mpr ah;exact⟨a5,aj j a5 (by simpa using V) a0,st.nW aH k.loc a3⟩
 have aE:∀j D,(j==B)=false->σ.lookup j=I (.own D)->¬bH C J.heap c.env j (.ref i):=by intro j D H an aJ;obtain⟨F,K,af,aD⟩:=L.own j D an;have:=(aj j _ (by simpa using H) af).same aJ;simp at this;exact aQ<|this▸K
 refine q J ⟨aH.step st,?_,rI U.keys,λF K=>?_,λj D H=>?_,λj aw D R F H aM aq ar=>?_,U.aT,U.bJ,U.cI⟩ ⟨M.bx.trans st.bx.f9,λF K=>?_,λF K=>n7 _ K⟩;exact a2.sub λj d H=>by rw[fB<|rI U.keys,k_]at H;split at H;cases H;rename_i aI;refine(fB<|yD U.keys).mpr ?_;rw[DF<|by simpa using aI];exact H
 exact⟨ts (P:=λF=>¬c.X F) (λF au=>(U.lists F au).1) (λq=>ab.2.2<|.inl q) F K,ts (P:=λF=>¬C.P F) (λF au=>(U.lists F au).2.1) ab.2.1 F K,(O F K).imp λav=>afw λaN=>kp F K _⟩;induction G:j==B using cq with
 |true=>
  have V:=bL G;subst V;rw[k_,if_pos G]at H;cases H;refine⟨i,n8 _ (by simp),ax,l,be,kp i (n8 _<|by simp) _ aa,?_⟩;have aA:RzL (c.grow<|W++[i]).X f.heap l am:=by have:=CX (X:=c.X) (W:=W++[i]) O aY<|a6.less λF q=>.inl q;exact this
  exact dn.rH aH k.loc st aA
 |false=>
  have aV:=ai j D G H;obtain⟨F,K,af,av,aN,aR,az⟩:=U.own j D aV;exact⟨F,n7 _ K,aj j _ (by simpa using G)<|af.ext M,av,aN,kp F (n7 _ K) _<|M.keep _ _ aR<|U.bW K,aC az⟩
 induction G:j==B using cq with
 |true=>
  induction N:aw==B using cq with
  |true=>rw[bL G,bL N]
  |false=>
   have dZ:=ax.same (by rw[bL G]at aq;exact aq);simp at dZ;subst dZ;exact absurd ar<|aE aw R N<|ai aw R N aM
 |false=>
  induction N:aw==B using cq with
  |true=>
   have dZ:=ax.same (by rw[bL N]at ar;exact ar);simp at dZ;subst dZ;exact absurd aq<|aE j D G<|ai j D G H
  |false=>
   have an:=ai j D G H;have aF:=ai aw R N aM;obtain⟨c9,a7,ac,aD⟩:=L.own j D an;obtain⟨dp,a8,ad,aD⟩:=L.own aw R aF;have dZ:=(aj j _ (by simpa using G) ac).same aq;have fa:=(aj aw _ (by simpa using N) ad).same ar;rw[dZ]at ac;rw[fa]at ad;exact L.apart j aw D R F an aF ac ad
 exact ts (P:=λF=>F∈W\/s.heap.get? F=ag) (λF=>.inl) (.inr ao) F K
end
end
section
variable{C:bC}{O:b0}{N n:Nat}
def qX(C:bC)(g:bX)(b:aZ)(q:List aE)(l:ax)(h:mq->ax->Prop):fH->Prop
 |.next aW=>∀m J,aX C g b aW m J->b2 C g q m l J->h .next J
 |.brk aW=>∀m J,aX C g b aW m J->b2 C g q m l J->h .brk J
 |.cont aW=>∀m J,aX C g b aW m J->b2 C g q m l J->h .cont J
 |.ret d=>∀t m J,b2 C g q m l J->(∀i∈m,¬g.X i/\∃e,J.heap.get? i=I e)->Rz g.X J.heap t d->h (.ret t) J
def bV(C:bC)(g:bX)(b:aZ)(e:ct mq)(σ:aG)(d:fH):Prop:=∀(a:List aE)(l:ax),aX C g b σ a l->∀(h:mq->ax->Prop)(f:aq->ax->Prop),qX C g b a l h d->aB (aK C.prog C.w) g.A e h f l
def qX.from(A:qX C e a j l i w)(x:aX C e a fC f b)(q:b2 C e j f l b):qX C e a f b i w:=by
 cases w with
 |next aW=>exactλm J y n=>A m J y<|q.trans x n
 |brk aW=>exactλm J y n=>A m J y<|q.trans x n
 |cont aW=>exactλm J y n=>A m J y<|q.trans x n
 |ret d=>exactλt m J n k w=>A t m J (q.trans x n) k w
def Ur{r:ai}{p:List aF}{q:kK}{e:dI}{d:nc->ax->Prop}{l:ax}
  (j:∀D,aB (aK C.prog C.w) e (isTrue r q<|cn r q) (λk n=>if k=true then aB (aK C.prog C.w) e (dm p q) (λB g=>match B with
    |.next=>fF (aK C.prog C.w) e (.whileLoop r p [] q) d g
    |.cont=>fF (aK C.prog C.w) e (.whileLoop r p [] q) d g
    |.brk=>d (.ok .next) g
    |.ret a=>d (.ok<|.ret a) g) D n else d (.ok .next) n) D l):
  fF (aK C.prog C.w) e (.whileLoop r p [] q) d l:=by
 refine G0 ?_
 show aB _ _ ((whileTurn r p [] q).onRaise (λm=>do G_ m q;P4 m)) _ _ l
 refine P8 ?_
 refine av<|ff (j _) (λk n i=>?_) λy y m=>m
 induction k using cq with
 |true=>
  simp only[if_true]at i ⊢;refine av<|ff i (λB g c=>?_) λy y m=>m;cases B with
  |next=>exact aY ⟨rfl,c⟩
  |cont=>exact aY ⟨rfl,c⟩
  |brk=>exact aY c
  |ret a=>exact aY c
 |false=>
  simp only[g7,if_false]at i ⊢;exact av<|hc<|aY i
def CD{j:ai}{e:aq}{p:List aF}{q:kK}{D:dI}{h:nc->ax->Prop}{l:ax}
  (F:∀G,aB (aK C.prog C.w) D (ly e) (λI n=>match I with
   |none=>h (.ok .next) n
   |some t=>aB (aK C.prog C.w) D (uQ j e t) (λk g=>aB (aK C.prog C.w) D (gR j q t) (λk eI=>aB (aK C.prog C.w) D (dm p q) (λH a=>match H with
    |.next=>fF (aK C.prog C.w) D (.forLoop j e p [] q) h a
    |.cont=>fF (aK C.prog C.w) D (.forLoop j e p [] q) h a
    |.brk=>h (.ok .next) a
    |.ret t=>h (.ok<|.ret t) a) G eI) G g) G n) G l):
  fF (aK C.prog C.w) D (.forLoop j e p [] q) h l:=by
 refine G0 ?_
 show aB _ _ ((forTurn j e p [] q).onRaise (λm=>do G_ m q;P4 m)) _ _ l
 refine P8 ?_
 refine av<|dc<|av<|wpAny_onRaise<|ff (F _) (λI n i=>?_) λk k y=>dc y
 induction I using b7 with
 |none=>exact aY ⟨rfl,codeAny_block<|hc i⟩
 |some t=>
  refine av<|ff i (λk g c=>av<|ff c (λk eI d=>av<|ff d (λH a B=>?_) λk k m=>m) λk k m=>m) λk k m=>m;cases H with
  |next=>exact aY ⟨rfl,B⟩
  |cont=>exact aY ⟨rfl,B⟩
  |brk=>exact aY B
  |ret t=>exact aY B
structure yy(C:bC)(O:b0)(N:Nat)(M:List Str)(n:Nat):Prop where
 rf:∀S σ aP r c,N<=c.fuel->xs O S M n σ aP=some r->bV C c S (execs aP c.env) σ r
 WO:∀S σ st r c,N<=c.fuel->eo O S M n σ st=some r->bV C c S (exec st c.env) σ r
 C3:∀S σ t b r c,N<=c.fuel->ud O S M n σ t b=some r->∀(W:List Addr)(s:Shared),aX C c S σ W s->∀(R:Result->Shared->Prop),qX C c S W s (λf J=>R (.ok f) J) r->codeAny (model C.prog C.w) c.A (.whileLoop t b [] c.env) R s
variable{M:List ar}
def ad7(j:yy C O N M n):∀a σ aP t g,N<=g.fuel->xs O a M (n+1) σ aP=I t->bV C g a (dm aP g.env) σ t:=by
 intro a σ aP t g i ae A l ah B f k;induction aP using a8 with
 |nil=>
  obtain rfl:=aS ae;exact hc<|k A l ah b2.refl
 |cons st e=>
  refine bK ae λw x q=>?_;refine d6<|j.WO a σ st w g i x A l ah _ _ ?_;cases w with
  |next aW=>exactλm J y b=>j.rf a aW e t g i q m J y B f<|k.from y b
  |brk aW=>obtain rfl:=aS q;exact k
  |cont aW=>obtain rfl:=aS q;exact k
  |ret d=>obtain rfl:=aS q;exact k
def ad8(x:cf C O N)(j:yy C O N M n):∀L σ Q P K g,N<=g.fuel->ud O L M (n+1) σ Q P=I K->∀(a:List aE)(l:ax),aX C g L σ a l->∀(e:nc->ax->Prop),qX C g L a l (λY J=>e (.ok Y) J) K->fF (aK C.prog C.w) g.A (.whileLoop Q P [] g.env) e l:=by
 intro L σ Q P K g H ae a l ah e T;refine bK ae λk X ae=>?_;refine Ur λaa=>?_;refine(de x n).jM L σ.plus Q k g l ah.borrow H X l (ak.refl l) ah.cB _ _ λF G=>?_;have i:=ah.ext G;have B:b2 C g a a l F:=b2.ext G;induction k using cq with
 |false=>
  obtain rfl:=aS (ae:I (fH.next σ)=I K);exact T a F i B
 |true=>
  refine bK (ae:(Option.bind _ _)=I K) λU V q=>?_;refine j.rf L σ P U g H V a F i _ _ ?_;cases U with
  |next aW=>exactλm J y D=>j.C3 L aW Q P K g H q m J y e<|T.from y<|B.trans i D
  |cont aW=>exactλm J y D=>j.C3 L aW Q P K g H q m J y e<|T.from y<|B.trans i D
  |brk aW=>obtain rfl:=aS q;exactλm J y D=>T m J y<|B.trans i D
  |ret d=>obtain rfl:=aS q;exactλZ m J D k K=>T Z m J (B.trans i D) k K
end
section
variable{C:bC}{O:b0}{N n:Nat}{M:List ar}
structure nk(C:bC)(c:bX)(S:aZ)(σ:aG)(W:List Addr)(s:Shared):Prop where
 ok:bj C (c.grow W) S σ.strict s
 keys:dG (σ.map (·.1))=true
 lists:∀a∈W,¬c.X a/\¬C.P a/\∃bl n,s.heap.get? a=some ⟨.type "list",none,.seq ⟨bl⟩ n,#[]⟩
 own:∀x l,σ.lookup x=some (.own l)->∃a∈W,bH C s.heap c.env x (.ref a)/\∃bl n,s.heap.get? a=some ⟨.type "list",none,.seq ⟨bl⟩ n,#[]⟩/\RzL (c.grow W).X s.heap bl l
 apart:∀x y l Y8 a,σ.lookup x=some (.own l)->σ.lookup y=some (.own Y8)->bH C s.heap c.env x (.ref a)->bH C s.heap c.env y (.ref a)->x=y
 aT:∀a,C.T a->c.X a
 bJ:∀a,c.Y a->c.X a
 cI:∀n a,c.env.cells.lookup n=some a->c.X a
section
variable{c:bX}{S:aZ}{σ:aG}{W:List aE}{s:ax}{wr:List aE}
def aX.ql(j:aX C c S σ W s):nk C c S σ W s:=⟨j.ok,j.keys,j.lists,j.own,j.apart,j.aT,j.bJ,j.cI⟩
def nk.sim(j:nk C c S σ W s)(e:bh C (c.grow W).X c.A c.fuel s):aX C c S σ W s:=⟨e,j.ok,j.keys,j.lists,j.own,j.apart,j.aT,j.bJ,j.cI⟩
def nk.only(j:nk C (c.grow wr) S σ W s)(d:ig C (c.grow wr) wr)(Q:∀i∈wr,i∉W)(st:dF C wr s J):nk C (c.grow wr) S σ W J:=by have bW:∀i∈W,¬C.T i:=λi n V=>(j.lists i n).1<|j.aT i V;have kp:∀A∈W,∀d,s.heap.get? A=I d->J.heap.get? A=I d:=λA n g B=>st.keep A g B (bW A n) λq=>Q A q n;have U:ig C ((c.grow wr).grow W) wr:=⟨d.loc,d.cell,λi n=>.inl<|d.cA i n⟩;have E:∀D X,bH C s.heap c.env D X->bH C J.heap c.env D X:=λD X O=>bH.jm (c:=c.grow wr) O d st;refine⟨j.ok.jm U st,j.keys,λi n=>?_,λD k B=>?_,λD aa k H i B F ad Y=>?_,j.aT,j.bJ,j.cI⟩;obtain⟨M,N,x,R,B⟩:=j.lists i n;exact⟨M,N,x,R,kp i n _ B⟩;obtain⟨i,n,P,x,R,K,ac⟩:=j.own D k B;exact⟨i,n,E _ _ P,x,R,kp i n _ K,ac.mono λA g G L=>st.keep A g L (λV=>G<|.inl<|j.aT A V) λq=>G<|.inl<|.inr q⟩;obtain⟨c9,ae,p,ab⟩:=j.own D k B;obtain⟨dp,af,f,ab⟩:=j.own aa H F;have dZ:=(E _ _ p).same ad;have fa:=(E _ _ f).same Y;rw[dZ]at p;rw[fa]at f;exact j.apart D aa k H i B F p f
def nk.drop(j:nk C (c.grow wr) S σ W s)(B:∀i,C.T i->c.X i)(x:∀i,c.Y i->c.X i)(g:∀n i,c.env.cells.lookup n=I i->c.X i):nk C c S σ W s:=by have gA:∀p,(c.grow W).X p->((c.grow wr).grow W).X p:=λp q=>q.elim (λM=>.inl<|.inl M) .inr;refine⟨?_,j.keys,λi E=>⟨λq=>(j.lists i E).1<|.inl q,(j.lists i E).2⟩,λD k f=>?_,j.apart,B,x,g⟩;refine⟨j.ok.sc,j.ok.glob,j.ok.blt,λi K=>.inl<|B i K,j.ok.own,j.ok.cells,λD d f=>?_,?_⟩;obtain⟨L,i,H⟩:=j.ok.names D d f;exact⟨L,i,H.less gA⟩;have k:=j.ok.loc;exact⟨k.kind,k.ns,k.cell,k.apart,k.e1,λi D=>.inl<|x i D,k.hI,k.jt,λA i f=>⟨(k.dx A i f).1,(k.dx A i f).2.1,.inl<|g A i f⟩,k.pin⟩;obtain⟨i,E,G,J,A,F,H⟩:=j.own D k f;exact⟨i,E,G,J,A,F,H.less gA⟩
def aX.vs(B:aX C c S σ W s)(O:ak C s J)(G:∀p∈wr,s.heap.get? p=ag)(V:∀p∈wr,∃K,J.heap.get? p=I K):aX C (c.grow wr) S σ W J:=by
 have A:=B.ext O;have ab:∀i∈W,i∉wr:=λi n q=>by obtain⟨ad,ad,N,H,f⟩:=B.lists i n;rw[G i q]at f;cases f
 have M:∀p,((c.grow wr).grow W).X p->((c.grow W).grow wr).X p:=λp q=>by rcases q with(q|q)|q;exact .inl<|.inl q;exact .inr q;exact .inl<|.inr q
 have k:bj C ((c.grow W).grow wr) S σ.strict J:=B.ok.grow G O λF Y=>by obtain⟨K,f,ad⟩:=B.good.cA F<|.inl<|B.aT F Y;exact⟨K,f⟩
 have Q:=λp(j:p∈wr)=>B.good.gm<|G p j;refine⟨⟨A.good.handled,A.good.depth,A.good.units,A.good.guards,λi D=>?_,λi F=>.inl<|.inl<|B.aT i F,A.good.ok,A.good.tok⟩,?_,B.keys,λi n=>?_,λL E f=>?_,A.apart,λi F=>.inl<|B.aT i F,λi L=>.inl<|B.bJ i L,λH i f=>.inl<|B.cI H i f⟩;rcases D with(D|D)|D;exact A.good.cA i<|.inl D;obtain⟨K,f⟩:=V i D;exact⟨K,f,λF=>absurd F (Q i D).1⟩;exact A.good.cA i<|.inr D;refine⟨k.sc,k.glob,k.blt,λi F=>.inl<|.inl<|B.aT i F,k.own,k.cells,λL d f=>?_,?_⟩;obtain⟨ae,i,ac⟩:=k.names L d f;exact⟨ae,i,ac.less M⟩;have E:=k.loc;exact⟨E.kind,E.ns,E.cell,E.apart,E.e1,λi L=>.inl<|.inl<|B.bJ i L,E.hI,E.jt,λH i f=>⟨(E.dx H i f).1,(E.dx H i f).2.1,.inl<|.inl<|B.cI H i f⟩,E.pin⟩;obtain⟨R,T,U⟩:=A.lists i n;exact⟨λq=>q.elim R λaf=>ab i n af,T,U⟩;obtain⟨i,n,aa,N,H,P,ac⟩:=B.own L E f;refine⟨i,n,aa.ext O,N,H,O.keep _ _ P<|B.bW n,?_⟩;exact((ac.wide G).mono λp K j g=>O.keep p K g λF=>j<|.inl<|.inl<|B.aT p F).less M
end
def uX(C:bC)(O:b0)(N:Nat)(M:List ar)(n:Nat):Prop:=∀F σ D E q G x,N<=x.fuel->ub O F M n σ D E q=I G->∀(c t:aE->Prop)(e:aq)(k:List aE)(j:List aa)(St:Nat->cc->Prop)(y:Nat)(g p:List aE)(d l:ax),j.drop y=q->y<=j.length->d9 C x.A c t D e k j St->St y l.heap->(∀B,c B->x.X B\/B∈p)->(∀B,x.X B->c B)->(∀B∈p,c B\/¬t B)->(∀B,t B->∃Q,l.heap.get? B=I Q)->(∀E∈k,¬C.P E/\d.heap.get? E=ag)->(∀E∈k,E∉p)->aX C (x.grow k) F σ p l->(∀B,C.T B->x.X B)->(∀B,x.Y B->x.X B)->(∀K B,x.env.cells.lookup K=I B->x.X B)->cu C x (p++k) d l->(∀B∈p,B∈g\/d.heap.get? B=ag)->(∀B∈g,B∈p)->bh C (x.grow g).X x.A x.fuel d->∀(h:nc->ax->Prop),qX C x F g d (λH J=>h (.ok H) J) G->fF (aK C.prog C.w) x.A (.forLoop D e E [] x.env) h l
def WH(lf:∀fr σ aP aI im,N<=im.fuel->xs O fr M n σ aP=some aI->bV C im fr (dm aP im.env) σ aI)(aF:uX C O N M n):uX C O N M (n+1):=by
 intro fr σ aa as aM aI x ga ae ac g1 aG H aj St gl I bi Q ex aA aB fK st g2 a1 co az a2 bn ah ap cd ai aJ cK ar ao aR aH;have aQ:∀j∈H,¬ac j:=fK.off;have eq:∀j∈H,¬x.X j:=λj B q=>aQ j B<|a1 j q;have fn:∀j∈H,¬C.T j:=λj B ca=>eq j B<|ap j ca;have db:ig C (x.grow H) H:=⟨λB=>eq _ B<|cd _ ah.ok.loc.e1,λii j al B=>eq j B<|ai ii j al,λj B=>.inr B⟩;refine CD λaU=>?_;induction aM using a8 with
 |nil=>
  obtain rfl:=aS ae;have ge:=JG aA;have aC:gl=aj.length:=ur aB ge;have u0:=fK.to (λbd=>False) λbd aL=>aL.elim;refine u0.end_ (aC▸st) λf8 gt j6 fd=>?_;have l:dF C H ex {ex with heap:=f8,toks:=gt}:=dF.of fn (λj B=>(a2 j B).1) (λj B=>u0.jP _ _ st j B) fd;have hm:=(ah.ql.only db bn l).drop ap cd ai;have aK:cu C x (bi++H) Q {ex with heap:=f8,toks:=gt}:=aJ.trans<|l.bx λj B=>n8 _ B;have aN:bh C (x.grow bi).X x.A x.fuel {ex with heap:=f8,toks:=gt}:=by have dd:bh C (x.grow bi).X x.A x.fuel ex:=⟨ah.good.handled,ah.good.depth,ah.good.units,ah.good.guards,λj V=>ah.good.cA j<|V.elim (λev=>.inl<|.inl ev) .inr,λj ca=>.inl<|ap j ca,ah.good.ok,ah.good.tok⟩;exact dd.bx (c:=x) (l.bx (gV:=H) λbd B=>B) λj B ae=>(ae.elim (eq j B)<|bn j B).elim
  refine aH bi _ (hm.sim aN) ⟨aK.cut (λbd au=>au) λj B=>?_,cK,ar⟩;rcases ml.mp B with B|B;exact .inl B;exact .inr (a2 j B).2
 |cons d dK=>
  obtain⟨aq,av⟩:=ye aA;refine bK ae λkw is ae=>bK ae λhe io ad=>?_;let aT:aE->Prop:=λj=>j∈bi/\¬ac j;have yz:=fK.to aT λj aL=>(co j aL.1).resolve_left aL.2;refine yz.use aq st (λj V=>?_) λkt be am j6 fd la hf=>?_;have:((x.grow H).grow bi).X j:=by rcases V with V|V;exact(g2 j V).elim (λev=>.inl<|.inl ev) .inr;exact .inr V.1
  obtain⟨U,al,bd⟩:=ah.good.cA j this;exact⟨U,al⟩;have l:dF C H ex {ex with heap:=be,toks:=am}:=dF.of fn (λj B=>(a2 j B).1) (λj B=>yz.jP _ _ st j B) fd;have f1:Rz ((x.grow H).grow bi).X ({ex with heap:=be,toks:=am}:ax).heap kt d:=Rz.less (λj V=>by
   rcases V with(V|V)|V;exact .inl<|.inl<|a1 j V;exact .inr V;by_cases q:ac j;exact .inl<|.inl q;exact .inl<|.inr ⟨V,q⟩) hf
  have bv:St (gl+1) ({ex with heap:=be,toks:=am}:ax).heap:=la;clear hf la fd j6;generalize({ex with heap:=be,toks:=am}:ax)=em at l f1 bv ⊢;have cs:=fK.here _ _ bv;have dL:aX C (x.grow H) fr σ bi em:=(ah.ql.only db bn l).sim<|ah.good.bx (c:=x) (l.bx (gV:=H) λbd B=>B) λj B bd=>⟨fn j B,cs j B⟩;refine dL.dq f1 is λY an cp=>?_;have K:∀(J cX:ax)(D:List aE),(∀j∈D,j∈bi\/J.heap.get? j=none)->cu C (x.grow H) D J cX->St (gl+1) J.heap->St (gl+1) cX.heap:=by intro J cX D jp ca aD;refine fK.frame _ _ _ aD λas U al cr=>ca.keep as U al (λq=>?_) (λq=>?_) λq=>?_;rcases cr with B|B;exact fn as B q;exact B.1<|a1 as<|ap as q;rcases cr with B|B;exact eq as B<|cd as q;exact B.1<|a1 as<|cd as q;rcases jp as q with q|q;rcases cr with B|B;exact bn as B q;exact(co as q).elim B.1 λev=>ev B.2;rw[al]at q;cases q
  have mU:=K _ _ bi (λj B=>.inl B) cp.bx bv;have f2:cu C x (bi++H) Q Y:=(aJ.trans<|l.bx λj B=>n8 _ B).trans<|cp.bx.f9.cut (λbd au=>au) λj B=>.inl<|n7 _ B;have f4:∀j∈H,∃U,Y.heap.get? j=some U:=fK.here _ _ mU;have ag:∀j U,Q.heap.get? j=some U->∃U,Y.heap.get? j=some U:=by intro j U al;by_cases ca:C.T j;obtain⟨ce,bm,bd⟩:=an.good.cA j<|.inl<|.inl<|ap j ca;exact⟨ce,bm⟩;by_cases B:j∈bi++H;rcases ml.mp B with B|B;obtain⟨bd,bd,h0,ii,al⟩:=an.lists j B;exact⟨_,al⟩;exact f4 j B;exact f2.all j U al ca B
  have cV:∀(J cX:ax)(D:List aE),cu C (x.grow H) D J cX->bh C ((x.grow H).grow D).X x.A x.fuel cX->(∀j∈D,∃U,cX.heap.get? j=some U)->∀j U,J.heap.get? j=some U->∃U,cX.heap.get? j=some U:=by intro J cX D ca le ge j U al;by_cases hw:C.T j;obtain⟨ce,bm,bd⟩:=le.cA j<|.inl<|.inl<|ap j hw;exact⟨ce,bm⟩;by_cases B:j∈D;exact ge j B;exact ca.all j U al hw B
  have g3:∀j,g1 j->∃U,em.heap.get? j=some U:=λj bs=>by obtain⟨U,al⟩:=az j bs;by_cases B:j∈H;exact cs j B;by_cases ca:C.T j;obtain⟨ce,bm,bd⟩:=dL.good.cA j<|.inl<|.inl<|ap j ca;exact⟨ce,bm⟩;exact⟨U,l.keep j U al ca B⟩
  have f0:∀j,g1 j->∃U,Y.heap.get? j=some U:=λj bs=>by obtain⟨U,al⟩:=g3 j bs;exact cV _ _ bi cp.bx an.good (λj B=>by obtain⟨bd,bd,h0,ii,al⟩:=an.lists j B;exact⟨_,al⟩) j U al
  have ak:∀D J,b2 C (x.grow H) bi D Y J->(cu C x (D++H) Q J/\(∀j∈D,j∈I\/Q.heap.get? j=none)/\∀j∈I,j∈D):=by
   intro D J P;refine⟨(f2.cut (λbd au=>au) λj B=>.inl ?_).trans<|P.bx.f9.cut (λbd au=>au) λj B=>.inl<|n7 _ B,λj B=>?_,λj B=>P.old j<|ar j B⟩;rcases ml.mp B with B|B;exact n7 _<|P.old j B;exact n8 _ B;rcases P.new j B with q|q;exact cK j q;right;induction al:Q.heap.get? j using b7 with
   |none=>rfl
   |some U=>
    obtain⟨ce,bm⟩:=ag j U al;rw[q]at bm;cases bm
  have ab:∀D J,b2 C (x.grow H) bi D Y J->b2 C x I D Q J:=λD J P=>
   let⟨ch,ci,cl⟩:=ak D J P
   ⟨ch.cut (λbd au=>au) λj B=>by
    rcases ml.mp B with B|B;exact .inl B;exact .inr (a2 j B).2,ci,cl⟩
  have ay:∀aW D J,aX C (x.grow H) fr aW D J->b2 C (x.grow H) bi D Y J->
    (St (gl+1) J.heap/\(∀j,ac j->x.X j\/j∈D)/\(∀j∈D,ac j\/¬g1 j)/\(∀j,g1 j->∃U,J.heap.get? j=some U)/\(∀as∈H,as∉D)):=by
   intro aW D J G P
   refine⟨K _ _ D P.new P.bx mU,λj q=>(g2 j q).imp id<|P.old j,λj B=>?_,λj bs=>?_,λas B q=>?_⟩
   rcases P.new j B with q|q
   exact co j q
   right
   intro bs
   obtain⟨U,al⟩:=f0 j bs
   rw[q]at al;cases al
   obtain⟨U,al⟩:=f0 j bs
   exact cV _ _ D P.bx G.good (λj B=>by obtain⟨bd,bd,h0,ii,al⟩:=G.lists j B;exact⟨_,al⟩) j U al
   rcases P.new as q with ev|ev
   exact bn as B ev
   obtain⟨U,al⟩:=f4 as B
   rw[ev]at al;cases al
  refine lf fr (σ.vals kw) as he (x.grow H) ga io bi Y an _ _ ?_;cases he with
  |next aW=>
   intro D J G P;obtain⟨c9,dp,gh,aw,af⟩:=ay aW D J G P;obtain⟨ch,ci,cl⟩:=ak D J P;exact aF fr aW aa as dK aI x ga ad ac g1 aG H aj St (gl+1) I D Q J av (by have:=(m4.mp aq).1;exact GA o) fK c9 dp a1 gh aw a2 af G ap cd ai ch ci cl ao aR aH
  |cont aW=>
   intro D J G P;obtain⟨c9,dp,gh,aw,af⟩:=ay aW D J G P;obtain⟨ch,ci,cl⟩:=ak D J P;exact aF fr aW aa as dK aI x ga ad ac g1 aG H aj St (gl+1) I D Q J av (by have:=(m4.mp aq).1;exact GA o) fK c9 dp a1 gh aw a2 af G ap cd ai ch ci cl ao aR aH
  |brk aW=>
   simp at ad;subst ad;intro D J G P;refine aH D J ((G.ql.drop ap cd ai).sim ?_)<|ab D J P;exact⟨G.good.handled,G.good.depth,G.good.units,G.good.guards,λj V=>G.good.cA j<|V.elim (λev=>.inl<|.inl ev) .inr,λj ca=>.inl<|ap j ca,G.good.ok,G.good.tok⟩
  |ret lc=>
   simp at ad;subst ad;intro kt D J P k aO;exact aH kt D J (ab D J P) (λj B=>⟨λq=>(k j B).1<|.inl q,(k j B).2⟩)<|aO.less λj q=>.inl q
def tV(x:cf C O N)(y:N<=g.fuel)(m:fW O n a σ.plus e=I k)(B:k=true->bV C g a (dm f g.env) σ w)(q:k=false->bV C g a (dm d g.env) σ w):bV C g a (c3 (.If e f d j) g.env) σ w:=by intro G l ah F D H;refine uR<|(de x n).jM a σ.plus e k g l ah.borrow y m l (ak.refl l) ah.cB _ _ λA h=>?_;have i:=ah.ext h;induction k using cq with|true=>exact B rfl G A i F D (H.from i<|b2.ext h)|false=>exact q rfl G A i F D<|H.from i<|b2.ext h
def Fw(x:cf C O N)(y:N<=g.fuel)(i:bc O n b σ.plus f=I d):bV C g b (c3 (.Return (I f) j) g.env) σ (.ret d):=by intro q l ah K J F;refine x1<|(de x n).cW b σ.plus f d g l ah.borrow y i l (ak.refl l) ah.cB _ _ λt A h G=>?_;exact F t q A (b2.ext h) (λB D=>⟨(ah.lists B D).1,by obtain⟨k,k,H,L,f⟩:=(ah.ext h).lists B D;exact⟨_,f⟩⟩) G
def adF:bV C g b (c3 (.Return ag j) g.env) σ (.ret .none):=by intro q l ah h r d;exact ahM (d .none q l b2.refl (λi n=>⟨(ah.lists i n).1,by obtain⟨k,k,x,t,f⟩:=ah.lists i n;exact⟨_,f⟩⟩) .none)
def acj(j:o7 a σ l=I y):∃s q,l=.Call (.Name "range" s) y [] q/\a.global "range"=ab:=bK j λx k j=>by have q:=cj j;have d:=aM (aM q.1).1;rw[bL d.1]at d;exact⟨x.2.1,x.2.2.2,by rw[Oa k,bL (aM (aM q.1).1).1,q.2],d.2⟩
def adP(j:Fy d=I m):d=.str m:=by cases d<;>first|exact nS j|exact congrArg _<|aS j
def adA(U:cf C O N)(ab:N<=B.fuel)(aA:uX C O N M n)(F:((o7 D σ l).elim ((w7 O D n σ l).elim ((fI O n D σ.strict h l).bind λi=>if σ.pure||gH i then some i else none) some) λj=>(fv O n D σ.plus j).bind gZ)=some i)(ae:ub O D M n σ h al i=some an):bV C B D (c3 (.For h l al [] a1) B.env) σ an:=by
 intro ac R ah aM aJ aO;have ad:∀L J H,ak C R J->(∀al∈H,R.heap.get? al=none)->vn C (B.grow ac) h L H i J->
   fF (aK C.prog C.w) B.A (.forLoop h L al [] B.env) (λan J=>match an with|.ok bd=>aM bd J|.error am=>cameBackBy (aK C.prog C.w) B.A B.env aJ am J) J:=by
  intro L J H av K aj
  obtain⟨St,aG,st⟩:=aj
  have aC:=aG.here _ _ st
  have aF:∀al∈H,al∉ac:=λP aa q=>by obtain⟨aw,aw,aR,aV,am⟩:=ah.lists P q;rw[K P aa]at am;cases am
  refine aA D σ h al i an B ab ae (B.grow ac).X _ L H i St 0 ac ac R J AX (dV _) aG st (λP q=>q) (λP q=>.inl q) (λP aa=>.inl<|.inr aa) (λP q=>q) (λP aa=>⟨(ah.good.gm<|K P aa).2.1,K P aa⟩) aF (ah.vs av K aC) ah.aT ah.bJ ah.cI av.bx (λP aa=>.inl aa) (λP aa=>aa) ah.good _ aO
 induction ag:o7 D σ l using b7 with
 |some j=>
  rw[ag]at F;dsimp only[Ba]at F;rw[uz]at F;obtain⟨ax,az,af⟩:=F;obtain⟨aP,dZ,rfl,aB⟩:=acj ag;refine Hh (MN (c:=B) (kZ ah.borrow aB U.range) ((de U n).jN D σ.plus j ax B R ah.borrow ab az) af rfl (ak.refl R) ah.cB λan P al k aQ aW aH Y ao ay aq I=>?_) λaw=>rfl;exact dN.ofRange (C:=C) (c:=B.grow ac) (target:=h) ah.good ao ay aq λL J H av K aj=>ad L J H av K<|I▸aj
 |none=>
  rw[ag]at F;replace F:(w7 O D n σ l).elim ((fI O n D σ.strict h l).bind λi=>if σ.pure||gH i then some i else none) some=some i:=F;induction G:w7 O D n σ l using b7 with
  |some ap=>
   rw[G]at F;obtain rfl:=aS F;refine bK G λaI aE G=>bK G λd af G=>eH G λa2 aD am=>?_;subst am;obtain rfl:=adP aD;have ar:bq C (B.grow ac) l R (.str a2):=λY au aU aN aL q=>
    (de U n).cW D σ.plus l (.str a2) B R ah.borrow ab af Y au (ah.cB.ext au) _ _ λaH ai aI an=>q aH ai aI<|Rz.sK an λaQ am=>am▸.str _ _
   rw[N_ aE]at ar ⊢;exact Hh (dN.str (target:=h) ar R (ak.refl R) ah.good _ _ ad) λaw=>rfl
  |none=>
  rw[G]at F;replace F:((fI O n D σ.strict h l).bind λi=>if σ.pure||gH i then some i else none)=some i:=F;rw[uz]at F;obtain⟨ap,I,V⟩:=F;split at V;cases V;refine Hh ?_<|(de U n).zc _ _ _ _ _ I _;exact(de U n).s9 D σ.strict h l i (B.grow ac) R ah.ok ab I R (ak.refl R) ah.good _ _ ad;cases V
def ME:∀{σ:aG},σ.pure=ab->σ.strict=σ.plus:=by
 intro σ;induction σ with
 |nil=>
  exact @λk=>rfl
 |cons s w c=>
  exact @λj=>by unfold aG.pure at j;rw[afH,c0]at j;have g:=c j.2;unfold aG.strict aG.plus at g ⊢;rw[kG,if_pos j.1,e4,e4,g]
def za(j:mH O a n σ f=I d):bc O n a σ.strict f=I d\/(fu d=ab/\bc O n a σ.plus f=I d):=by refine bK j λc b j=>?_;by_cases w:(σ.pure||fu c)=ab;rw[if_pos w]at j;obtain rfl:=aS j;by_cases ao:σ.pure=ab;rw[<-ME ao]at b;exact .inl b;rw[jX]at ao;rw[ao]at w;exact .inr ⟨w,b⟩;rw[if_neg w]at j;exact .inl j
def JU(i:bc O n a σ.plus f=I d)(b:(σ.pure||fu d)=ab):mH O a n σ f=I d:=bF i<|if_pos b
def aX.value(p:cf C O N)(ah:aX C g b σ i l)(y:N<=g.fuel)(k:mH O b n σ f=I d) (q:∀t J,aX C g b σ i J->ak C l J->Rz (g.grow i).X J.heap t d->h t J):aB (aK C.prog C.w) g.A (cn f g.env) h j l:=by
 rcases za k with k|⟨B,k⟩;exact(de p n).cW b σ.strict f d (g.grow i) l ah.ok y k l (ak.refl l) ah.good _ _ λt J m D=>q t J (ah.ext m) m D;exact(de p n).cW b σ.plus f d g l ah.borrow y k l (ak.refl l) ah.cB _ _ λt J m D=>
  q t J (ah.ext m) m (s_ (λF G=>((ah.ext m).lists F G).2.2) B D)
inductive HR(e t:ai)(line:Nat)(env:Env):Prop
 |no (h:swapsWith e (some t) line env=pure false)
 |yes (elt gens scope p x q) (he:e=.ListComp elt gens scope p) (ah0:t=.Name x q) (h:swapsWith e (some t) line env=pure true)
set_option tactic.hygienic true in
def ad3:HR (.ListComp d y i s) r b a:=by
 cases r<;>try exact .no rfl
 rename_i m q;cases j:(a.blockKind==.function&&a.kindOf m==I .local&&q.line==(PySem.Expr.ListComp d y i s).pos.line&&!(i.names.any λ(n,k)=>n==m&&(k==.local||k==.cell)));exact .no (by show bg _=_;rw[j]);exact .yes _ _ _ _ _ _ rfl rfl (by show bg _=_;rw[j])
def ad4(j:bc O n a w f=I d):HR f r b c:=by cases f<;>first|exact .no rfl|exact ad3|(cases n<;>exact nS j)
def tY(j:bc O n B w f=I d):ja f (I t) line env=bg au\/(∃E D C F G q,f=.ListComp E D C F/\t=.Name G q/\ja f (I t) line env=bg ab):=match ad4 j with|.no j=>.inl j|.yes k l s y m r i A g=>.inr ⟨_,_,_,_,_,_,i,A,g⟩
def Jq(c:bc O n a w (.ListComp d y i s)=I b):∃h,b=.list h:=by
 induction y using a8 with
 |nil=>cases n<;>exact nS c
 |cons e f=>
 obtain⟨t,l,m,k⟩:=e;induction n using cN with|zero=>exact nS c|succ n=>exact iK c λj c=>bK c λj j c=>bK c λj j c=>bK c λh j c=>⟨h,(cj c).2.symm⟩
def Ij(O:ja y (I<|.Name t i) j.line g.env=bg au)(N:dq a (.Name t i) d []=I m)
  (P:∀{k:aq->ax->Prop},(∀L J,aX C g a σ b J->ak C l J->Rz (g.grow b).X J.heap L d->k L J)->aB (aK C.prog C.w) g.A (cn y g.env) k f l) (G:∀J,aX C g a (σ.vals m) b J->b2 C g b b l J->h .next J):
  aB (aK C.prog C.w) g.A (c3 (.Assign [.Name t i] y j) g.env) h f l:=by
 rw[Bv _ _ _ _ _ O]
 refine av<|dc<|av<|P λL n B K R=>?_
 have:=B.dq R N (Q:=λM J=>h .next J) (E:=f) λH D F=>G H D<|(b2.ext K).trans B F
 rw[PL]at this
 rw[show(do fG i;lu g.env t L;bg f':ct mq)=((do fG i;lu g.env t L)>>=λM=>bg .next)by simp[r0]]
 exact av<|ff this (λM J q=>aY q) λM M T=>T
def Ii(an:cf C O N)(ay:N<=c.fuel)(ah:aX C c a2 σ j al)(aE:bj C (c.grow j) a2 bi al)(F:bc O n a2 bi f=I d)(B:dq a2 (.Name a1 bm) d []=I am)
    (Y:∀J,aX C c a2 (σ.vals am) j J->b2 C c j j al J->bs .next J):
  aB (aK C.prog C.w) c.A (c3 (.Assign [.Name a1 bm] f be) c.env) bs bv al:=by
 rcases tY (t:=.Name a1 bm) (line:=be.line) (env:=c.env) F with ar|⟨ax,ap,P,aR,a',a6,rfl,a5,ar⟩
 exact Ij ar B (λq=>(de an n).cW a2 bi f d (c.grow j) al aE ay F al (ak.refl al) ah.good _ _ λa9 J a1 aS=>q a9 J (ah.ext a1) a1 aS) Y
 rw[exec_Assign_Name_used _ _ _ _ ar]
 refine av<|dc<|av ?_
 induction ap using a8 with
 |nil=>cases n<;>exact nS F
 |cons a4 aJ=>
 obtain⟨ac,l,aC,k⟩:=a4
 induction n using cN with
 |zero=>exact nS F
 |succ n=>
 obtain⟨bd,rfl⟩:=Jq F
 have T:=gq F
 clear F
 have az:k=0:=bL T.1
 subst az
 refine bK T.2 λa0 aL F=>bK F λa3 aM F=>bK F λaQ aA F=>?_
 have aN:=(cj F).1
 have aH:=(aa.list.inj (cj F).2).symm;subst aH
 clear F T
 ··show aB _ _ (do let _<-PM (.ListComp ax (⟨ac,l,aC,0⟩::aJ) P aR) P c.env _ (newList []) au (cn l c.env) (I<|gR (.Name a1 bm) c.env)) _ _ al
   refine av<|Jp (c:=c.grow j) an (de an n) aE ay aL aM aA (d0 aN) (ak.refl al) ah.good λM bn i aZ ad ai aW aq aS=>?_
   show aB _ _ (gR (.Name a1 bm) c.env<|.ref bn) _ _ M
   have aO:∀G∈[i],al.heap.get? G=ag:=λG B=>by replace B:=cm.mp B;exact B▸ai
   have T:∀G∈[i],∃aj,M.heap.get? G=I aj:=λG B=>by replace B:=cm.mp B;subst B;obtain⟨aj,ao,ao,f,ao⟩:=aq;exact⟨aj,f⟩
   have ab:=ah.vs ad aO T
   have aU:Rz ((c.grow [i]).grow j).X M.heap (.ref bn) (.list bd):=aS.less λG B=>by rcases B with(B|B)|B;exact .inl<|.inl B;simp at B;exact .inr B;exact .inl<|.inr B
   have R:=ah.good.gm ai
   have af:i∉j:=λH=>by obtain⟨ao,ao,a_,aZ,f⟩:=ah.lists i H;rw[ai]at f;cases f
   have U:¬c.X i:=λq=>R.2.2<|.inl q
   refine ab.dq aU B λh D K=>?_
   refine⟨aZ,nP aq λaj f=>K.bx.keep _ aj f R.1 (λaw=>U<|ah.bJ _ aw) af,λas aV=>?_⟩
   have V:dF C [i] h {h with heap:=as}:=dF.of (c7 R.1) (c7 R.2.1) (c7<|D1<|nP aq λaj f=>K.bx.keep _ aj f R.1 (λaw=>U<|ah.bJ _ aw) af) λG aj B f=>(aV.2 G<|by simpa using B).trans f
   have aD:ig C (c.grow [i]) [i]:=⟨λq=>by simp at q;exact U<|q▸ah.bJ _ ah.ok.loc.e1,λaP G B q=>by simp at q;exact U<|q▸ah.cI aP G B,λG B=>.inr B⟩
   have aF:=(D.ql.only aD (λG B H=>by simp at B;exact af<|B▸H) V).drop ah.aT ah.bJ ah.cI
   have aG:cu C c (i::j) al {h with heap:=as}:=(ad.bx.trans<|K.bx.f9.cut (λao aw=>aw) λG H=>.inl<|eA _ H).trans (V.bx λG H=>by simp at H;simp[H])
   have cp:bh C (c.grow j).X c.A c.fuel h:=⟨D.good.handled,D.good.depth,D.good.units,D.good.guards,λG B=>D.good.cA G<|B.elim (λba=>.inl<|.inl ba) .inr,λG a7=>.inl<|ah.aT G a7,D.good.ok,D.good.tok⟩
   have aI:bh C (c.grow j).X c.A c.fuel {h with heap:=as}:=cp.bx (c:=c) (V.bx (gV:=[i]) λao H=>H) λG H ae=>by replace H:=cm.mp H;subst H;exact(ae.elim U af).elim
   exact aY (aY (Y _ (aF.sim aI) ⟨aG.cut (λao aw=>aw) λG H=>by
    rcases cJ.mp H with rfl|H;exact .inr ai;exact .inl H,λG H=>.inl H,λG H=>H⟩))
def Nq(r:cf C O N)(y:N<=g.fuel)(B:mH O a n σ f=I d)(A:dq a (.Name i b) d []=I m):bV C g a (c3 (.Assign [.Name i b] f j) g.env) σ (.next<|σ.vals m):=by intro q U ah T R k;rcases za B with D|⟨H,D⟩;exact Ii r y ah ah.ok D A<|k q;rcases tY (t:=.Name i b) (line:=j.line) (env:=g.env) D with l|⟨J,G,F,M,w,P,rfl,L,l⟩;exact Ij l A (ah.value r y B)<|k q;obtain⟨K,rfl⟩:=Jq D;exact fT H
def tT(h:cf C O N)(y:N<=g.fuel)(i:bc O n a σ.plus f=I d)(l:(σ.pure||fu d)=ab)(k:dq a (.Name b s) d []=I m):bV C g a (c3 (.Assign [.Name b s] f j) g.env) σ (.next<|σ.vals m):=Nq h y (JU i l) k
noncomputable def lH:List ai->Option (List ar)|[]=>I []|e::w=>(fp e).bind λx=>(lH w).map (x.1::·)
inductive x6:List ai->List Str->Prop
 |nil:x6 [] []
 |cons {x p bf xs}:x6 bf xs->x6 (.Name x p::bf) (x::xs)
def yC:∀{xs:List ar},lH b=I xs->x6 b xs:=by induction b with|nil=>exactλj=>aS j▸.nil|cons f b g=>exactλj=>bK j λx k j=>eH j λn j f=>f▸jW k▸.cons (g j)
def SG(j:er a b c w=I l):∃xs,lH b=I xs/\xs.length=b.length:=by replace j:=q2 j;induction j with|nil=>exact⟨[],rfl,rfl⟩|cons k t g=>exact g.elim λxs f=>⟨_::xs,nM f.1 rfl,congrArg (·+1) f.2⟩
set_option tactic.hygienic true in
def SJ:∀{b:List ai}{xs:List ar}{j:List aa}{t:List aq}{f l:bQ}{i:ax},lH b=I xs->bj C c a f i->bh C c.X c.A c.fuel i->er a b j f=I l->RzL c.X i.heap t j->(∀J,dn C c i J->bj C c a l J->(∀D K,D∉xs->bH C i.heap c.env D K->bH C J.heap c.env D K)->ap () J)->aB (aK C.prog C.w) c.A (uO (xs.map λm=>lu c.env m) t) ap a1 i:=by
 intro b xs j t f l i ae k R T al q;replace T:=q2 T;replace ae:=yC ae;induction T generalizing xs t i with
 |nil=>
  cases ae;cases al;exact aY<|q i (dn.refl i) k λab ab ab T=>T
 |@cons m aw b d j f l U au ah=>
  cases ae with
  |@cons ab ao as Y ag=>
  cases al;rename_i am V aj ak;show aB _ _ (uO (lu c.env m::Y.map λm=>lu c.env m)<|am::V) _ _ _;rw[H8];refine av<|c6<|Cp R k.loc (k.own m (aM U).1 (aM U).2) λn st N af W=>?_;have L:bj C c a ((m,d)::f) n:=⟨k.sc,k.glob,k.blt,k.aT,k.own,k.cells,λD ac P=>by
   rw[ep]at P;induction B:D==m using cq with
   |true=>
    rw[B]at P;exact bL B▸⟨am,af,aS P▸st.nW R k.loc aj⟩
   |false=>
    rw[B]at P;exact(k.names D ac P).elim λK an=>⟨K,W D K (by simpa using B) an.1,st.nW R k.loc an.2⟩,N⟩
  exact ah (xs:=Y) L (R.step st) (dn.rH R k.loc st ak) (λO F M G=>q O (st.trans F) M λD K H ad=>G D K (D7 H)<|W D K (z1<|D6 H) ad) ag
def Rx{xs n:List ar}(j:lH b=I xs)(y:lH s=I n):lH (b++s)=I (xs++n):=by replace j:=yC j;induction j with|nil=>exact y|cons k g=>exact nM g rfl
def RA{xs:List ar}(j:lH b=I xs):lH b.reverse=I xs.reverse:=by
 replace j:=yC j;induction j with
 |nil=>rfl
 |cons k g=>
  rw[A3,A3];exact Rx g rfl
theorem RzL.reverse:∀{d x},RzL c j x d->RzL c j x.reverse d.reverse|[]=>λw=>w.nK λf=>f▸.nil|Z::t=>λw=>w.cK λZ Z i p f=>by rw[f,A3,A3];exact p.reverse.append<|.cons i .nil
def Wi(d:∀b g,s b=some g->∃l,b=.Name g l):∀{m:List ai},(m.filterMap s).length=m.length->lH m=some (m.filterMap s):=by
 intro m;induction m with
 |nil=>
  exact @λk=>rfl
 |cons b m c=>
  exact @λj=>by
   induction i:s b using b7 with
   |none=>
    rw[List.filterMap_cons_none i]at j;have:=OL s m;simp at j;exact absurd (j▸this)<|O6 _
   |some g=>
    obtain⟨l,rfl⟩:=d b g i;rw[List.filterMap_cons_some i]at j ⊢;simp only[gx,Nat.add_right_cancel_iff]at j;exact bF (a:=(g,l)) rfl<|nM (c j) rfl
def Ws{a b:ai->Option ar}{m:List ai}(j:∀f,a f=b f):m.filterMap a=m.filterMap b:=by rw[show a=b from funext j]
def qq(q:kK)(b:Nat):ai->Option ar:=Fz (λid=>q.kindOf id==I .local) b
def ad0(j:qq a b f=I m):∃s,f=.Name m s:=by cases f<;>first|exact nS j|exact⟨_,congrArg (Pk · _) (cj j).2⟩
def ad5:qR [.Tuple m k s] (.Tuple x b r) a=(if(!(m.length==2||m.length==3)||x.length !=m.length||a.blockKind !=.function)=ab then bg ag else if x.any fX=ab then bg ag else if((m.filterMap (qq a ((m.head?.map (·.pos.line)).getD 0))).length !=m.length||(m.filterMap (qq a ((m.head?.map (·.pos.line)).getD 0))).eraseDups.length !=(m.filterMap (qq a ((m.head?.map (·.pos.line)).getD 0))).length)=ab then bg ag else if x.all (PR 8)=ab then bg ag else if x.all (PO 8)=ab then BB "assign.tuple-of-constant-expressions:order-of-the-stores">>=λc:PUnit=>bg (I (m.filterMap (qq a ((m.head?.map (·.pos.line)).getD 0))))else bg (I (m.filterMap (qq a ((m.head?.map (·.pos.line)).getD 0))))):=z
set_option tactic.hygienic true in
def ad2(n:env.scope=a.sc)(D:a.sc.kind=.function)(j:rO a m c=I d):(d=au/\qR [.Tuple m k p] (.Tuple c lS Mn) env=bg ag)\/(d=ab/\∃l,lH m=I l/\qR [.Tuple m k p] (.Tuple c lS Mn) env=bg (I l)):=by
 have B:env.blockKind=.function:=by unfold Env.blockKind;rw[n,D];rfl
 rw[ad5,B,bne_self_eq_false,Bool.or_false];unfold rO at j;by_cases g:(!(m.length==2||m.length==3)||c.length !=m.length)=ab;rw[if_pos g]at j;cases j;left;rw[if_pos g];exact⟨rfl,rfl⟩;rw[if_neg g]at j ⊢;by_cases q:c.any fX=ab;rw[if_pos q]at j ⊢;cases j;exact .inl ⟨rfl,rfl⟩;rw[if_neg q]at j ⊢;have s:∀t,qq env ((m.head?.map (·.pos.line)).getD 0) t=FA a ((m.head?.map (·.pos.line)).getD 0) t:=λt=>congrArg (λE=>Fz E _ t) (funext λid=>by show(env.scope.names.lookup id==_)=_;rw[n]);rw[Ws s];dsimp only at j;generalize C:m.filterMap (FA a ((m.head?.map (·.pos.line)).getD 0))=l at j ⊢;by_cases r:(l.length !=m.length||l.eraseDups.length !=l.length)=ab;rw[if_pos r]at j ⊢;cases j;exact .inl ⟨rfl,rfl⟩;rw[if_neg r]at j ⊢;by_cases A:c.all (PR 8)=ab;rw[if_pos A]at j ⊢;cases j;exact .inl ⟨rfl,rfl⟩;rw[if_neg A]at j ⊢;by_cases w:c.all (PO 8)=ab;rw[if_pos w]at j;cases j;rw[if_neg w]at j ⊢;cases j;refine .inr ⟨rfl,l,?_,rfl⟩;have y:l.length=m.length:=by simp only[mj,bne_iff_ne,not_or,ne_eq,Decidable.not_not]at r;exact r.1
 rw[<-C]at y ⊢;refine Wi (λt F i=>?_) y;exact ad0 (s t▸i:qq env _ t=I F)
def Ry{xs:List ar}(j:lH b=I xs)(i:a∈xs):∃s,Pk a s∈b:=by replace j:=yC j;induction j with|nil=>cases i|@cons l s k t d g=>exact(cJ.mp i).elim (λf=>⟨s,f▸eB⟩) λj=>(g j).elim λq c=>⟨q,eA _ c⟩
def MA(j:mY f=ag):qR [.Tuple m k s] f a=bg ag:=by cases f<;>first|rfl|exact sN j
def aes(j:mY f=I x):∃k s,f=.Tuple x k s:=by obtain⟨b,a,rfl⟩:=tq j;exact⟨_,_,ua a⟩
def R6(j:pS a (.Tuple m k s) f d=I b):∃q,d=.tuple q/\((mY f).elim (er a m q []) λx=>(rO a m x).bind λc=>if c then er a m.reverse q.reverse []else er a m q [])=I b:=by cases d<;>first|exact nS j|exact⟨_,rfl,j⟩
set_option tactic.hygienic true in
def NS(B:aX C c ac σ al d)(ax:Rz (c.grow al).X d.heap an (.tuple j))
  (F:((mY f).elim (er ac g j []) λaj=>(rO ac g aj).bind λh=>if h then er ac g.reverse j.reverse []else er ac g j [])=some i) (M:∀J,aX C c ac (σ.vals i) al J->b2 C c al al d J->a1 .next J):
  aB (aK C.prog C.w) c.A (do
   let h<-qR [.Tuple g k s] f c.env
   PK c.env an h ((uN [.Tuple g k s] c.env).map (·.2))) a1 a2 d:=by
 have plain:er ac g j []=some i->qR [.Tuple g k s] f c.env=bg none->aB (aK C.prog C.w) c.A (do
   let h<-qR [.Tuple g k s] f c.env
   PK c.env an h ((uN [.Tuple g k s] c.env).map (·.2))) a1 a2 d:=by
  intro F H
  rw[H]
  refine av<|aY ?_
  show aB _ _ (gR (.Tuple g k s) c.env an>>=λaw=>bg f') _ _ _
  exact av<|B.dq (target:=.Tuple g k s) ax F λaa D R=>aY<|M aa D R
 induction L:mY f using b7 with
 |none=>
  rw[L]at F;exact plain F<|MA L
 |some aj=>
  rw[L]at F;obtain⟨ab,V,F⟩:=kT F;obtain⟨ar,as,rfl⟩:=aes L;rcases ad2 (k:=k) (lS:=ar) (p:=s) (Mn:=as) (env:=c.env) (B.ok.sc) (by rw[<-B.ok.sc];exact B.ok.loc.kind) V with⟨rfl,H⟩|⟨rfl,G,af,H⟩;exact plain (by simpa using F) H;simp only[if_true]at F;rw[H];refine av<|aY ?_;show aB _ _ (Ha "assign.swapped-stores">>=λaw=>unpackItems an G.length none>>=λfI=>uO (G.reverse.map λn=>lu c.env n) fI.reverse>>=λaw=>bg f') _ _ _;refine av<|oc<|av ?_;cases ax;rename_i az O aC aA t ah;obtain⟨ay,P,K⟩:=SG F;have x:=RA af;have U:G.length=O.length:=by rw[x]at P;cases P;have ao:=ah.length;have ad:g.reverse.length=j.reverse.length:=(Ci (env:=c.env) F).1;simp at K ad;exact(K.trans ad).trans ao.symm
  have ap:d.heap.IsTuple az O.toArray:=⟨_,t,rfl,aC,rfl⟩;rw[U];have ag:O.length=O.toArray.size:=by simp
  rw[ag];refine wpAny_unpackItems_tuple B.good.handled ap λl ae=>?_;have kp:∀ab am,d.heap.get? ab=some am->l.get? ab=some am:=λab am f=>ae ab am (fs<|fe f) f;have I:ak C d {d with heap:=l}:=ak.of_keep kp;have D:=B.ext I;have ai:RzL (c.grow al).X l O.reverse j.reverse:=(B.good.fR I ah).reverse;refine av ?_;exact SJ (c:=c.grow al) x D.ok D.good (Cm (f_:=[]) F) ai λeI st Y au=>by obtain⟨N,T⟩:=D.stored st Y au λaD aq=>Cn F (.inl (by obtain⟨q,V⟩:=Ry x aq;exact afX.mpr ⟨.Name aD q,V,rfl⟩));exact aY<|M eI N<|(b2.ext I).trans D T
set_option tactic.hygienic true in
def ady(x:cf C O N)(y:N<=g.fuel)(i:mH O a n σ f=I d)(F:pS a (.Tuple m k h) f d=I b):bV C g a (c3 (.Assign [.Tuple m k h] f j) g.env) σ (.next<|σ.vals b):=by
 intro q T ah R P G;have l:ja f (I<|.Tuple m k h) j.line g.env=bg au:=by rcases(za i).elim (λi=>tY (t:=.Tuple m k h) (line:=j.line) (env:=g.env) i) λi=>tY (t:=.Tuple m k h) (line:=j.line) (env:=g.env) i.2 with l|⟨_,_,_,_,_,_,_,K,_⟩;exact l;cases K
 rw[G7];refine av<|dc<|av ?_;show aB _ _ (ja f (I<|.Tuple m k h) j.line g.env) _ _ _;rw[l];refine aY ?_;simp only[g7,if_false];refine av<|ah.value x y i λU L A J w=>?_;obtain⟨M,rfl,F⟩:=R6 F;exact NS A w F λH B D=>G q H B<|(b2.ext J).trans A D
inductive x8(S:aZ)(d:aa):List ai->bQ->bQ->Prop
 |nil (aO):x8 S d [] aO aO
 |cons {x p AA aO qz} (ae:(S.own.contains x&&jj x)=true):x8 S d AA ((x,d)::aO) qz->x8 S d (.Name x p::AA) aO qz
def IG:∀{m:List ai}{w l:bQ},sJ a m d w=I l->x8 a d m w l:=by
 intro m;induction m with
 |nil=>
  exactλj=>aS j▸.nil _
 |cons r m c=>
  exactλj=>by refine bK j λn g q=>?_;obtain⟨b,s,rfl,ae,rfl⟩:=yM g;exact .cons ae<|c q
def Z6{σ:aG}:∀{m:List ai}{aO l:bQ}{f:ax},aX C g D (σ.vals aO) e f->Rz (g.grow e).X f.heap j d->sJ D m d aO=I l->(∀J,aX C g D (σ.vals l) e J->b2 C g e e f J->am () J)->aB (aK C.prog C.w) g.A (PJ j<|m.map λaa=>gR aa g.env) am al f:=by
 intro m aO l f ah af R q;replace R:=IG R;induction R generalizing f with
 |nil=>exact aY<|q f ah b2.refl
 |@cons B F m aO l ae G U=>
  have H:∀{i:Unit->ax->Prop},(∀J,aX C g D (σ.vals<|(B,d)::aO) e J->b2 C g e e f J->Rz (g.grow e).X J.heap j d->i () J)->aB (aK C.prog C.w) g.A (gR (.Name B F) g.env j) i al f:=by intro i V;have G:dq D (.Name B F) d []=I [(B,d)]:=if_pos ae;refine Co (c:=g.grow e) ah.ok ah.good (II G) af λJ st k ad=>?_;have K:=ah.stored st k ad λaj T=>IJ G T;exact V J K.1 K.2<|dn.nW ah.good ah.ok.loc st af
  induction m using a8 with
  |nil=>
   cases G;exact H λJ M O ag=>q J M O
  |cons ac L=>
   show aB _ _ (fV [j] (gR (.Name B F) g.env j)>>=λag=>PJ j<|(ac::L).map λaa=>gR aa g.env) _ _ _;exact av<|c6<|H λY M O n=>U M n λJ N P=>q J N<|O.trans M P
def R7(j:sJ a m d w=I l):(uN m b).map (·.2)=m.map λr=>gR r b:=by replace j:=IG j;induction j with|nil=>rfl|cons k c g=>exact congrArg (_::·) g
def ad1:qR (b::x::m) f a=bg ag:=by cases b<;>first|rfl|(cases f<;>rfl)
def adC(G:cf C O N)(y:N<=g.fuel)(H:mH O k n σ f=I d)(F:sJ k (h::x::i) d []=I m):bV C g k (c3 (.Assign (h::x::i) f j) g.env) σ (.next<|σ.vals m):=by intro q l ah T R B;rw[G7];refine av<|dc<|av<|aY ?_;simp only[g7,if_false];refine av<|ah.value G y H λP K A D w=>?_;rw[R7 F];rw[ad1];refine av<|aY ?_;show aB _ _ (PJ P ((h::x::i).map λM=>gR M g.env)>>=λU=>bg f') _ _ _;exact av<|Z6 (σ:=σ) (aO:=[]) A w F λJ L p=>aY<|B q J L<|(b2.ext D).trans A p
def adz(T:cf C O N)(ag:N<=g.fuel)(ae:i1 h m=true)(aj:σ.lookup m=I (.val i))(ab:bc O n h σ.plus f=I am)(an:O.aug ac i am=I d)(au:(σ.pure||fu d)=true):bV C g h (c3 (.AugAssign (.Name m a1) ac f a2) g.env) σ (.next<|σ.set m<|.val d):=by
 intro al V ah aA az ad;have aC:dq h (.Name m a1) d []=I [(m,d)]:=by show pU h (.Name m a1) d []=_;exact yN ae
 have t:∀Y D,ak C V D->Rz (g.grow al).X D.heap Y d->aB (aK C.prog C.w) g.A (xX g.env m Y) (λaE J=>aA .next J) az D:=by
  intro Y D B ap;have j:=ah.ext B;simp only[i1,c0]at ae;refine Au (c:=g.grow al) j.good j.ok.loc (j.ok.own m ae.1 ae.2) λJ st ax aw aq=>?_;have k:bj C (g.grow al) h ([(m,d)]++σ.strict) J:=⟨j.ok.sc,j.ok.glob,j.ok.blt,j.ok.aT,j.ok.own,j.ok.cells,λaf as f=>by
   rw[um,Gj,ep]at f;induction G:af==m using cq with
   |true=>
    rw[G]at f;cases f;rw[bL G];exact⟨Y,aw,st.nW j.good j.ok.loc ap⟩
   |false=>
    rw[G]at f;obtain⟨ar,av,ay⟩:=j.ok.names af as f;exact⟨ar,aq af ar (by simpa using G) av,st.nW j.good j.ok.loc ay⟩,ax⟩
  obtain⟨R,aa⟩:=j.stored (names:=[m]) st k (λaf ar G=>aq af ar<|by simpa using G) λaf G=>by simp at G;subst G;exact⟨d,by simp[ep]⟩
  exact ad al J R<|(b2.ext B).trans j aa
 by_cases ao:σ.pure=true;rw[<-ME ao]at ab;obtain⟨H,F,l⟩:=ah.ok.names m i<|(fB ah.keys).mpr aj;refine P6<|bH.load F ?_;refine(de T n).cW h σ.strict f am (g.grow al) V ah.ok ag ab V (ak.refl V) ah.good _ _ λP D B L=>?_;exact T.aug ac i am d an (g.grow al).X g.A g.fuel D H P (ah.good.ext B) (ah.good.mono B l) L _ _ λY M K ap=>t Y M (B.trans K) ap;have ai:fu d=true:=by simpa[ao]using au
 obtain⟨H,F,l⟩:=ah.ok.names m i<|(fB ah.keys).mpr aj;have U:Rz g.X V.heap H i:=l.less λam q=>.inl q;refine P6<|bH.load F ?_;refine(de T n).cW h σ.plus f am g V ah.borrow ag ab V (ak.refl V) ah.cB _ _ λP D B L=>?_;exact T.aug ac i am d an g.X g.A g.fuel D H P (ah.cB.ext B) (ah.cB.mono B U) L _ _ λY M K ap=>t Y M (B.trans K)<|s_ (λi aD=>((ah.ext<|B.trans K).lists i aD).2.2) ai ap
inductive BL:ai->Prop
 |list {bf p}:BL (.List bf p)
 |add {x q r p}:BL (.BinOp (.Name x q) .Add r p)
def Kh(j:rd f=ab):BL f:=by rcases afr.mp j with j|j;exact(mK j).elim λx a=>N' a▸.list;obtain⟨x,k,j⟩:=fh j;obtain⟨n,p⟩:=mK (aM j).1;rw[N7 k,jW p,bL (aM j).2];exact .add
def WN(U:cf C O N)(k:bj C d an al h)(K:bh C d.X d.A d.fuel h)(M:N<=d.fuel)(P:rd f=ab)(D:bc O n an al f=I (.list i))(q:∀V J H ad,ak C h J->h.heap.get? V=ag->J.heap.get? V=I ⟨.type "list",ag,.seq ⟨H⟩ ad,#[]⟩->RzL d.X J.heap H i->am (.ref V) J):aB (aK C.prog C.w) d.A (cn f d.env) am as h:=by
 induction n using cN with
 |zero=>exact nS D
 |succ n=>
 have L:=de U n;replace P:=Kh P;cases P with
 |list=>
  refine bK D λaf t D=>?_;obtain⟨j,f⟩:=cj D;obtain rfl:=aa.list.inj f;have aj:=d0 j;rw[Bo];refine av<|dc<|av<|(L.jN _ _ _ _ _ _ k M t _).1 h (ak.refl h) K _ _ λH G ae ah=>?_;exact x3 (q _ _ H 0 (ae.trans ak.push) (ae.old K<|gJ _) (dE _ rfl)<|(K.ext ae).fR (ak.push (ey:=G.toks)) ah) (by rw[ah.length,gw];exact aC o z)
 |add=>
  refine bK D λV ac D=>bK D λai j D=>?_;rw[PI];refine av<|L.cW _ _ _ _ _ _ k M ac h (ak.refl h) K _ _ λaq G B p=>av<|c6<|L.cW _ _ _ _ _ _ k M j G B (K.ext B) _ _ λap T F R=>av<|dc<|qv ?_;exact U.cat V ai i D d.X d.A d.fuel T aq ap ((K.ext B).ext F) ((K.ext B).mono F p) R _ _ λao J H ad ar W Y Z=>q ao J H ad ((B.trans F).trans ar) ((B.trans F).old K W) Y Z
def adD(H:cf C O N)(y:N<=g.fuel)(G:rd f=ab)(ae:i1 h d=ab)(P:bc O n h σ.plus f=I (.list b))(F:gH b=ab):bV C g h (c3 (.Assign [.Name d k] f j) g.env) σ (.next<|σ.set d<|.own b):=by
 intro i ac ah Z Y A;have l:ja f (I<|.Name d k) j.line g.env=bg au:=by cases Kh G<;>rfl
 rw[Bv _ _ _ _ _ l];refine av<|dc<|av<|WN H ah.borrow ah.cB y G P λT D R aa t L q M=>av<|dc<|av ?_;have U:RzL (g.grow i).X D.heap R b:=CX (λT V=>((ah.ext t).lists T V).2.2) F M;exact ah.anew t L q U F ae λJ B K=>aY<|A _ J B K
def aX.at'(ah:aX C g f σ d b)(ae:σ.lookup e=I (.own k)):∃i∈d,bH C b.heap g.env e (.ref i)/\∃h j,b.heap.get? i=I ⟨.type "list",ag,.seq ⟨h⟩ j,#[]⟩/\RzL (g.grow d).X b.heap h k:=ah.own e k ae
def sY{g:bX}(e:bH C l.heap g.env m (.ref i))(q:h (.ref i) l):aB (aK C.prog C.w) g.A (cn (.Name m b) g.env) h f l:=BE (bH.load e q) e.2.1
def sO{id:String}(p:k.any (·.1)=au)(B:j' C b k a ds)(m:ak C a d)(t:bh C b.X b.A b.fuel d)(q:∀i J,ak C d J->RzL b.X J.heap i ds->aB (aK C.prog C.w) b.A (e8 (.builtin id) (first++i) []) e f J):aB (aK C.prog C.w) b.A (ic j (.builtin id) first k []) e f d:=by exact yR p<|zb p B m t λi n F D=>⟨rfl,⟨_,.inr rfl,PE rfl⟩,q i n F D⟩
set_option tactic.hygienic true in
def ads(Z:cf C O N)(ad:N<=g.fuel)(ao:(ac.endLine==an.line)=ab)(ae:σ.lookup a1=I (.own k))(M:fX f=au)(af:bc O n a2 σ.plus f=I d)(ag:fu d=ab)(al:k.length<=1000000):bV C g a2 (c3 (.Expr (.Call (.Attribute (.Name a1 be) "append" ac) [f] [] an) bd) g.env) σ (.next<|σ.set a1<|.own<|k++[d]):=by
 intro b aw ah aE aD J;obtain⟨V,G,R,ax,aA,t,as⟩:=ah.own a1 k ae;have ai:lx g.env=au:=by unfold lx;have aj:g.env.scope.kind=.function:=ah.ok.loc.kind;rw[aj];rfl
 refine BD ?_ ai rfl;have P:ha [f] g.env=[(au,cn f g.env)]:=by rw[qp M];rfl
 refine xZ (T:="list") (id:="list.append") rfl (by rw[P];rfl) ao Bd Bf GI ?_;refine sY R ⟨⟨_,t,rfl⟩,λaz aa=>by cases aa;exact⟨_,t,rfl⟩,?_⟩;have L:e9 C g [f] aw [d]:=pR ((de Z n).cW a2 σ.plus f d g aw ah.borrow ad af) M;refine sO (L an).2 (L an).1 (ak.refl aw) ah.cB λaC B h av=>?_;have j:=ah.ext h;cases av;rename_i aB ay aq ar;cases ar;have q:eV C (g.grow b) V k B:=⟨ah.bW G,(ah.lists V G).2.1,j.off G,ah.wx G,ax,aA,h.keep _ _ t<|ah.bW G,ah.good.fR h as⟩;have U:Rz (g.grow b).X B.heap aB d:=s_ (λV G=>(j.lists V G).2.2) ag aq;refine vt (c:=g.grow b) q U al λK r y=>?_;obtain⟨Y,am,H,D⟩:=y.at';obtain⟨A,i⟩:=j.update ae (R.ext h) G r H D;exact J b K A<|(b2.ext h).trans j i
def DN{c:bX}{W:List aE}(w:l.toks<=ey)(bW:¬C.T i)(e:¬C.P i)(t:l.heap.get? i=I ⟨.type "list",ag,.seq ⟨x⟩ d,#[]⟩):dF C [i] l {l with heap:=l.heap.update i<|jA f,toks:=ey}/\∃r,(l.heap.update i<|jA f).get? i=I ⟨.type "list",ag,.seq ⟨(f ⟨x⟩).toList⟩ r,#[]⟩:=by have k:=uG (jA f) t rfl;have h:xG i l.heap (l.heap.update i<|jA f):=agZ ..;refine⟨dF.of (λp j=>by replace j:=cm.mp j;exact j▸bW) (λp j=>by replace j:=cm.mp j;exact j▸e) (λp j=>by replace j:=cm.mp j;subst j;exact wy t L3) λp n j g=>(h.2 p<|by simpa using j).trans g,?_⟩;rw[k];simp only[jA];exact⟨_,rfl⟩
def adG(af:cf C O N)(aj:N<=g.fuel)(ao:(r.endLine==a1.line)=ab)(ae:σ.lookup e=I (.own k))(am:k.length<=1000000):bV C g a2 (c3 (.Expr (.Call (.Attribute (.Name e as) "reverse" r) [] [] a1) al) g.env) σ (.next<|σ.set e<|.own k.reverse):=by
 intro j aw ah ag az L;obtain⟨i,n,R,h,an,D,U⟩:=ah.own e k ae;have Y:lx g.env=au:=by unfold lx;have Z:g.env.scope.kind=.function:=ah.ok.loc.kind;rw[Z];rfl
 refine BD ?_ Y rfl;refine xZ (T:="list") (id:="list.reverse") rfl rfl ao Bd agT PySem.F.type_list_reverse ?_;refine sY R ⟨⟨_,D,rfl⟩,λai J=>by cases J;exact⟨_,D,rfl⟩,?_⟩;refine sO (ds:=[]) rfl j'.nil (ak.refl aw) ah.cB λay d A ac=>?_;cases ac;have B:=ah.ext A;have y:=A.keep _ _ D<|ah.bW n;have P:(⟨h⟩:Array aq).size<=pC:=by have:=U.length;show h.length<=_;rw[gw];exact aC (cL o)<|aC o z
 refine sh agT ⟨_,y,rfl⟩ PySem.F.entry_list_reverse (PySem.F.args_list_reverse_1 _) (AutoListH.list_reverse_list_0 i ⟨h⟩ an P) ⟨y,?_⟩;show ag .next _
 obtain⟨H,ar,J⟩:=DN (c:=g) (W:=j) (f:=λe=>e.reverse) (ey:=d.toks) (bM _) (ah.bW n) (ah.lists i n).2.1 y;have aa:RzL (g.grow j).X (d.heap.update i<|jA λe=>e.reverse) ((λe:Array aq=>e.reverse) ⟨h⟩).toList k.reverse:=by have:=((ah.good.fR A U).reverse).mono (hl:=d.heap.update i<|jA λe=>e.reverse) λad av M V=>H.keep ad av V (λax=>M<|.inl<|ah.aT ad ax) λq=>M (by simp at q;exact .inr<|q▸n);simpa using this
 obtain⟨G,K⟩:=B.update ae (R.ext A) n H J aa;exact L j _ G<|(b2.ext A).trans B K
def ac1(q:a.heap.get? e=I ⟨.type "list",ag,.seq ⟨x⟩ c,#[]⟩)(C:0<=k)(n:k<2^63)(J:k<x.length)(D:h () {a with heap:=a.heap.update e (jA (·.setIfInBounds k.toNat g))}):aB (aK d y) p (setItem (.ref e) (.int k i) g) h f a:=by
 have B:a.heap.IsList e (⟨x⟩:Array aq):=⟨_,q,rfl,c,rfl⟩;have F:(⟨.type "list",ag,.seq ⟨x⟩ c,#[]⟩:cC).data=.seq ⟨x⟩ c:=rfl;unfold setItem;try with_reducible refine c6 ?_
 first|refine av (aY ?_)|skip
 refine av<|ahX B.typeIs z ?_;refine av<|ahN (name:=bp "__setitem__") B.typeIs ahK<|Hi ahK B.typeIs entry_list_setitem ?_<|args_list_setitem _ _ _;show aB _ _ (aib (.int k i)>>=_) _ _ a;refine av<|wpAny_listSubscript_int (fitsIndex_of C n) ?_;clear n;obtain⟨b,rfl⟩:=afB C;have H:b<(⟨x⟩:Array aq).size:=by show b<x.length;exact rZ.mp o
 have G:(⟨x⟩:Array aq)[b]?=I (⟨x⟩:Array aq)[b]:=Array.getElem?_eq_getElem H;show aB _ _ ((seqItemAt e b>>=λK=>bg (K.map (b,·)))>>=_) _ _ a;refine av<|av<|wpAny_seqItemAt q F<|aY ?_;rw[G];show aB _ _ (setSeqItemAt e b g>>=_) _ _ a;refine av<|wpAny_setSeqItemAt q F ?_;first
  |exact av<|aY<|aY ⟨.none,rfl,aY D⟩
  |exact aY ⟨.none,rfl,aY D⟩
theorem RzL.set:∀{f x},RzL c i x f->∀{k d}(g:Nat),Rz c i k d->RzL c i (x.set g k) (f.set g d)|[],Z,w,t,s,y=>@λm=>w.nK λl=>l▸.nil|Z::t,s,w,y,m,0=>@λq=>w.cK λZ Z n p l=>l▸.cons q p|Z::t,s,w,y,m,g+1=>@λq=>w.cK λZ Z n p l=>l▸.cons n (p.set g q)
set_option tactic.hygienic true in
def Nr(aa:cf C O N)(ad:N<=h.fuel)(ae:σ.lookup a1=I (.own l))(ax:bc O n ap σ.plus as=I d)(az:bc O n ap σ.plus a2=I (.int k))(T:zx (.int k) l.length=I j)(ay:fu d=ab):bV C h ap (c3 (.Assign [.Subscript (.Name a1 bd) a2 be] as al) h.env) σ (.next<|σ.set a1<|.own<|l.set j d):=by
 intro p aD ah aJ aI V;obtain⟨ac,M,ag,an,aK,R,aj⟩:=ah.own a1 l ae;have aA:ja as (I<|.Subscript (.Name a1 bd) a2 be) al.line h.env=bg au:=by cases as<;>rfl
 rw[exec_Assign_Subscript _ _ _ _ _ aA];refine av<|dc<|av<|(de aa n).cW ap σ.plus as d h aD ah.borrow ad ax aD (ak.refl aD) ah.cB _ _ λam G A aH=>av ?_;rw[arm_assign_Subscript];have y:=ah.ext A;refine av<|c6<|sY (ag.ext A) ?_;refine av<|c6<|(de aa n).cW ap σ.plus a2 (.int k) h G y.borrow ad az G (ak.refl G) y.cB _ _ λaF g B Y=>?_;have D:=y.ext B;cases Y;rename_i aE;obtain⟨H,T⟩:=cj T;have U:=aj.length;have F:=B.keep _ _ (A.keep _ _ R<|ah.bW M)<|ah.bW M;refine av<|dc<|av<|c6<|ac1 F H.1 (uj ((Ga H.1).mp<|du H.2.1 H.2.2) z) ((Ga H.1).mp<|U▸H.2.1) ?_;obtain⟨L,aG,ar⟩:=DN (c:=h) (W:=p) (f:=λxs=>xs.setIfInBounds k.toNat am) (ey:=g.toks) (bM _) (ah.bW M) (ah.lists ac M).2.1 F;have aC:Rz (h.grow p).X g.heap am d:=s_ (λac M=>(D.lists ac M).2.2) ay<|y.cB.mono B aH;have K:RzL (h.grow p).X g.heap an l:=y.good.fR B<|ah.good.fR A aj;have ai:∀Z ao,¬(h.grow p).X Z->g.heap.get? Z=I ao->(g.heap.update ac<|jA λxs=>xs.setIfInBounds k.toNat am).get? Z=I ao:=λZ ao af aw=>
  L.keep Z ao aw (λaE=>af<|.inl<|ah.aT Z aE) λq=>af (by simp at q;exact .inr<|q▸M)
 have aB:RzL (h.grow p).X (g.heap.update ac<|jA λxs=>xs.setIfInBounds k.toNat am) ((λxs:Array aq=>xs.setIfInBounds k.toNat am) ⟨an⟩).toList (l.set j d):=by have:=(K.mono ai).set j<|aC.mono ai;subst T;simpa using this
 obtain⟨J,P⟩:=D.update ae ((ag.ext A).ext B) M L ar aB;exact FW<|aY<|V p _ J<|(b2.ext<|A.trans B).trans D P
def aX.restore(B:aX C g al σ f j)(G:i1 al m=ab)(ae:σ.lookup m=I (.own a1))(ad:bH C j.heap g.env m (.ref i)) (q:∀J,aX C g al σ f J->b2 C g f f j J->am () J):aB (aK C.prog C.w) g.A (xX g.env m<|.ref i) am as j:=by
 simp only[i1,c0]at G;refine Au (c:=g.grow f) B.good B.ok.loc (B.ok.own m G.1 G.2) λJ st af T ai=>?_;have N:∀D O,bH C j.heap g.env D O->bH C J.heap g.env D O:=λD O M=>by by_cases U:D=m;subst U;have:=M.same ad;subst this;exact T;exact ai D O U M
 have kp:∀i∈f,∀V,j.heap.get? i=I V->J.heap.get? i=I V:=λi F V K=>st.keep i V K (B.bW F)<|B.wx F;refine q J ⟨B.good.step st,⟨B.ok.sc,B.ok.glob,B.ok.blt,B.ok.aT,B.ok.own,B.ok.cells,λD d K=>?_,af⟩,B.keys,λL F=>?_,λD t K=>?_,λD aj t k L K R ao ah=>?_,B.aT,B.bJ,B.cI⟩ ⟨st.bx.f9,λL F=>.inl F,λL F=>F⟩;obtain⟨O,M,ag⟩:=B.ok.names D d K;exact⟨O,N D O M,st.nW B.good B.ok.loc ag⟩;obtain⟨Y,aa,P,n,K⟩:=B.lists L F;exact⟨Y,aa,P,n,kp L F _ K⟩;obtain⟨L,F,ac,P,n,X,an⟩:=B.own D t K;exact⟨L,F,N _ _ ac,P,n,kp L F _ X,dn.rH B.good B.ok.loc st an⟩;obtain⟨c9,ap,p,ak⟩:=B.own D t K;obtain⟨dp,aq,H,ak⟩:=B.own aj k R;have dZ:=(N _ _ p).same ao;have fa:=(N _ _ H).same ah;rw[dZ]at p;rw[fa]at H;exact B.apart D aj t k L K R p H
set_option tactic.hygienic true in
def adB(aM:cf C O N)(aQ:N<=j.fuel)(ay:i1 a2 y=ab)(ae:σ.lookup y=I (.own as))(aR:bc O n a2 σ.plus be=I (.list h))(aS:gH h=ab)(ai:as.length+h.length<=1000000):bV C j a2 (c3 (.AugAssign (.Name y bs) .Add be bi) j.env) σ (.next<|σ.set y<|.own<|as++h):=by
 intro ap aV ah bm a1 am;obtain⟨i,ac,aj,d,aZ,ag,aI⟩:=ah.own y as ae;refine P6<|bH.load aj<|(de aM n).cW a2 σ.plus be (.list h) j aV ah.borrow aQ aR aV (ak.refl aV) ah.cB _ _ λa4 B H bd=>?_;have D:=ah.ext H;have G:=H.keep _ _ ag<|ah.bW ac;cases bd;rename_i k g al aY P aG;have af:=aI.length;have aw:=aG.length;have aA:(⟨d⟩:Array aq).size<=pC:=by show d.length<=_;rw[gw,af];exact aC (b_ ..)<|aC ai z
 have aD:(⟨d⟩:Array aq).size+(⟨g⟩:Array aq).size<=pC+1:=by show d.length+g.length<=_;rw[gw,af,aw];exact aC ai z
 have az:¬(!(⟨d⟩:Array aq).isEmpty&&Pd ((⟨d⟩:Array aq).size+(⟨g⟩:Array aq).size))=ab:=by have aP:(⟨d⟩:Array aq).size+(⟨g⟩:Array aq).size=d.length+g.length:=rfl;unfold Pd;rw[aP,gw];simp only[c0,decide_eq_true_eq,not_and];intro _;exact fD.mpr (by rw[af,aw];exact aC ai<|by decide)
 have an:B.TypeIs (.ref i) "list":=⟨_,G,rfl⟩;have aW:B.TypeIs (.ref k) "list":=⟨_,P,rfl⟩;have V:pD (.type "list") (dunderI "add")=bg (I<|.builtin "list.__iadd__"):=agS.lookup;have Y:isSeqSlot (I<|.builtin "list.__iadd__")=ab:=by decide+kernel
 have ax:ahy (.type "list") "add" (ag2==ag2)=bg au:=by unfold ahy;show(pD (.type "list") (dunderI "add")>>=λar=>bg<|ar.isSome&&!isSeqSlot ar)=bg au;rw[V];simp[Y]
 have U:fillsNumberSlot (.type "list") "add"=bg au:=noFill_list_add;have T:aB (aK C.prog C.w) j.A (e8 (.builtin "list.__iadd__") [.ref i,.ref k]) (λbd eI=>aB (aK C.prog C.w) j.A (xX j.env y bd) (λbn=>bm .next) a1 eI) a1 B:=by
  refine sh agS an PySem.F.entry_list_iadd (PySem.F.args_list_iadd_2 _ _) (AutoSeq1.list___iadd___list_list_0 i ⟨d⟩ aZ k ⟨g⟩ al az aA aD) ⟨G,P,?_⟩;show aB _ _ (xX j.env y<|.ref i) _ _ _;obtain⟨M,a0,ao⟩:=DN (c:=j) (W:=ap) (f:=λxs=>xs++(⟨g⟩:Array aq)) (ey:=B.toks) (bM _) (ah.bW ac) (ah.lists i ac).2.1 G;generalize B.heap.update i (jA λxs=>xs++(⟨g⟩:Array aq))=K at M ao ⊢;have aF:∀k aL,¬(j.grow ap).X k->B.heap.get? k=I aL->K.get? k=I aL:=λk aL P aO=>
   M.keep k aL aO (λa3=>P<|.inl<|ah.aT k a3) λq=>P (by simp at q;exact .inr<|q▸ac)
  have aH:RzL (j.grow ap).X B.heap g h:=CX (λi ac=>(D.lists i ac).2.2) aS aG;have aU:RzL (j.grow ap).X K ((λxs:Array aq=>xs++(⟨g⟩:Array aq)) ⟨d⟩).toList (as++h):=by have:=((ah.good.fR H aI).mono aF).append<|aH.mono aF;simpa using this
  obtain⟨J,aa⟩:=D.update ae (aj.ext H) ac M ao aU;have L:(σ.set y<|.own<|as++h).lookup y=I (.own<|as++h):=by rw[k_,if_pos<|by simp]
  obtain⟨aN,aX,aJ,bn⟩:=J.own y _ L;have aE:bH C K j.env y (.ref i):=bH.jm (c:=j.grow ap) (aj.ext H) (D.off ac) M;exact J.restore ay L aE λeI R ad=>am ap eI R<|((b2.ext H).trans D aa).trans J ad
 unfold inplaceOp;refine c6 ?_;refine av<|wpAny_typeOf an<|av<|BH ax ?_;show aB _ _ (if au=ab then _ else _) _ a1 B;rw[if_neg h8];refine av<|wpAny_binaryOp1_none (nm:="add") an aW U ?_;refine av<|BH (PySem.seqSlot_of V Y) ?_;exact av<|oc T
def E3(j:sx t=some k):t=some (.own k):=by induction t using b7 with|none=>exact nS j|some t=>cases t<;>first|exact nS j|exact aS j▸rfl
def VI(j:bc O n a w f=I d):fX f=au:=by cases f<;>first|rfl|(cases n<;>exact nS j)
def zN(j:lC d=I k):d=.list k:=by cases d<;>first|exact nS j|exact congrArg _<|aS j
def Yf(a:zx k n=I b):∃y,k=.int y:=by cases k<;>first|exact nS a|exact⟨_,rfl⟩
def ae4:eo O a M (n+1) σ (.Assign (r::x::m) f j)=H0 O a n σ (r::x::m) f:=rfl
section
variable(eD:cf C O N)
include eD
def ae5(y:N<=g.fuel)(ae:eo O a M (n+1) σ (.Assign [.Name m s] f j)=I w):bV C g a (c3 (.Assign [.Name m s] f j) g.env) σ w:=by replace ae:(if M.contains m=ab then(if(rd f&&i1 a m)=ab then((bc O n a σ.plus f).bind lC).bind λq=>if gH q=ab then I (fH.next<|σ.set m<|.own q)else ag else ag)else(mH O a n σ f).bind λd=>(pS a (.Name m s) f d).map λi=>.next<|σ.vals i)=I w:=ae;split at ae;refine iK ae λh ae=>bK ae λq b ae=>bK b λd b t=>?_;have f:=cj ae;exact f.2▸adD eD y (aM h).1 (aM h).2 (zN t▸b) f.1;exact bK ae λd b ae=>eH ae λi k f=>f▸Nq eD y b k
def ae2(D:N<=g.fuel)(ae:eo O i M (n+1) σ (.AugAssign (.Name m s) h f j)=some w):bV C g i (c3 (.AugAssign (.Name m s) h f j) g.env) σ w:=by
 induction A:i1 i m using cq with
 |false=>exact nS (((if_pos (by rw[A];rfl)).symm.trans ae:none=some w))
 |true=>
 have ae:=(if_neg (by rw[A];decide)).symm.trans ae;refine bK ae λI E ae=>?_;induction y:σ.lookup m using b7 with
 |none=>rw[y]at ae;exact nS ae
 |some G=>
  rw[y]at ae;cases G with
  |val H=>exact bK ae λd F ae=>(λf=>f.2▸adz eD D A y E F f.1)<|cj ae
  |own k=>
   refine iK ae λB ae=>bK ae λq t ae=>?_;have f:=cj ae;have B:=bL B;subst B;exact f.2▸adB eD D A y (zN t▸E) (aM f.1).1 (d0 (aM f.1).2)
def ae0(y:N<=g.fuel)(ae:eo O a M (n+1) σ (.Expr (.Call (.Attribute (.Name i b) h t) [f] [] s) j)=I w):bV C g a (c3 (.Expr (.Call (.Attribute (.Name i b) h t) [f] [] s) j) g.env) σ w:=by have k:=gq ae;clear ae;have D:=bL (aM k.1).1;have ao:=(aM k.1).2;have ae:=k.2;clear k;subst D;refine bK ae λE B ae=>bK ae λd A ae=>?_;have q:=cj ae;exact q.2▸ads eD y ao (E3 B) (VI A) A (aM q.1).1 (d0 (aM q.1).2)
def ae3(h:N<=g.fuel)(ae:eo O a M (n+1) σ (.Expr t j)=some w):bV C g a (c3 (.Expr t j) g.env) σ w:=by
 refine bK ae λx k ae=>bK ae λb i ae=>?_;rw[FX k,jW i];induction d:ec x.2.2.2.1 using b7 with
 |some f=>
  rw[d]at ae;rw[oX d];exact ae0 (M:=M) eD h ae
 |none=>
  rw[d]at ae;refine iK ae λm ae=>bK ae λs p ae=>?_;have f:=cj ae;have q:=aM m;rw[pn.mp q.1,bL (aM q.2).1,<-f.2];exact adG eD h (aM q.2).2 (E3 p)<|d0 f.1
def ae1(A:N<=g.fuel)(ae:eo O a M (n+1) σ (.Assign m f b)=some w):bV C g a (c3 (.Assign m f b) g.env) σ w:=by
 induction q:ec m using b7 with
 |none=>
  induction m using a8 with
  |nil=>exact nS ae
  |cons D m=>
   induction m using a8 with|nil=>exact sN q|cons x m=>exact bK (ae4.symm.trans ae) λd s ae=>eH ae λJ B f=>f▸adC eD A s B
 |some D=>
  obtain rfl:=oX q;clear q;induction F:kF D using b7 with
  |some K=>
   obtain rfl:=F0 F;refine bK ae λQ i ae=>bK ae λP I ae=>bK ae λd s ae=>bK ae λk H ae=>bK ae λL p ae=>?_;have f:=cj ae;obtain⟨h,rfl⟩:=Yf p;rw[jW i,<-f.2];exact Nr eD A (E3 I) s H p f.1
  |none=>
   induction E:fp D using b7 with
   |some K=>
    obtain rfl:=jW E;exact ae5 eD A ae
   |none=>
    induction G:js D using b7 with
    |some K=>
     obtain rfl:=ua G;exact bK ae λd s ae=>eH ae λJ B f=>f▸ady eD A s B
    |none=>
     replace ae:(kF D).elim ((fp D).elim ((js D).elim none _) _) _=some w:=ae;rw[F,E,G]at ae;exact nS ae
set_option tactic.hygienic true in
set_option maxHeartbeats 1000000 in
def ad6(H:yy C O N M n)(L:uX C O N M n):∀G σ st w D,N<=D.fuel->eo O G M (n+1) σ st=some w->bV C D G (c3 st D.env) σ w:=by
 intro G σ st w D y ae;cases st<;>first|exact nS ae|exact ae3 eD y ae|exact ae1 eD y ae|skip
 case If l i a j=>exact bK ae λk R ae=>tV eD y R (λf=>H.rf _ _ _ _ _ y (by subst f;exact ae)) λf=>H.rf _ _ _ _ _ y (by subst f;exact ae)
 case Return f j=>
  induction f using b7 with|none=>exact aS ae▸adF|some f=>exact eH ae λd K f=>f▸Fw eD y K
 case Break j=>exact aS ae▸λq B ah J I A=>av<|dc<|aY<|A q B ah b2.refl
 case Continue j=>exact aS ae▸λq B ah J I A=>av<|dc<|aY<|A q B ah b2.refl
 case Pass j=>exact aS ae▸λq B ah J I A=>av<|dc<|aY<|A q B ah b2.refl
 case While l i a j=>
  induction a using a8 with|cons m g=>exact nS ae|nil=>exactλq B ah J I A=>wpAny_While<|H.C3 G σ l i w D y ae q B ah _ A
 case For F U i a j=>
  induction a using a8 with|cons m g=>exact nS ae|nil=>exact bK ae λV P ae=>adA eD y L P ae
 case AugAssign l X f j=>exact bK ae λx T H=>by obtain rfl:=jW T;exact ae2 eD y ae
end
def Nn(x:cf C O N):∀n,yy C O N M n/\uX C O N M n:=by
 intro n;induction n with
 |zero=>
  exact⟨⟨λa σ aP w g y j=>(by cases j),λa σ st w g y j=>(by cases j),λa σ i p w g y j=>(by cases j)⟩,λa σ e p q w f y j=>(by cases j)⟩
 |succ n d=>
  exact⟨⟨ad7 d.1,ad6 x d.1 d.2,ad8 x d.1⟩,WH d.1.rf d.2⟩
structure dA(C:bC)(a:Addr)(sc:Scope)(params:List Str)(aP:List Stmt):Prop where
 obj:∃aQ fd,aQ.data=.func fd/\(∀h,C.ew h->h.get? a=some aQ/\h.CodeRec fd.code fd.qualname)/\fd.scope=sc/\fd.body=.stmts aP/\fd.closure=[]/\fd.globals=C.G/\fd.builtins=C.B/\∀vals:List Value,vals.length=params.length->bindArgs fd ⟨vals,[]⟩=pure (params.zip vals)
 lim:∀h,C.ew h->h.NoLimit
 cls:∀h,C.ew h->∃aQ fd,h.get? a=some aQ/\aQ.data=.func fd/\aQ.cls=.type "function"
def hu(h:gQ)(q:List ar):Bool:=h.kind==.function&&!h.isGenerator&&!h.isCoroutine&&dG (h.names.map (·.1))&&dG q&&q.all (λs=>jj s&&(h.names.lookup s==I .local||h.names.lookup s==I .cell))&&h.names.all (λs=>s.2!=.free&&h.names.lookup s.1==I s.2)
noncomputable def aZ.fn(h:gQ):aZ:=⟨h,(h.names.filter λs=>s.2==.local||s.2==.cell).map (·.1)⟩
noncomputable def cT(q:List ar)(y:List aa):aG:=(q.zip y).map λs=>(s.1,.val s.2)
def k9(O:b0)(M:List ar)(h:gQ)(q:List ar)(aP:List aF)(n:Nat)(y:List aa):Option aa:=if hu h q&&y.length==q.length then match xs O (aZ.fn h) M n (cT q y) aP with|some (.ret d)=>some d|some (.next _)=>some .none|_=>ag
 else ag
def IF{k:ar->Option px}{g:ar}:∀{p:List (ar×aq)}{e:ar->Option aq},dG (p.map (·.1))=true->k g=some .local->bindL k p e g=match p.lookup g with|some t=>some t|none=>e g:=by
 intro p;induction p with
 |nil=>
  exactλD s=>rfl
 |cons a w c=>
  obtain⟨q,t⟩:=a;exactλj i=>by
   rw[e4]at j;unfold dG at j;simp only[c0,ez,hL,decide_eq_false_iff_not]at j;unfold bindL;rw[c j.2 i,ep];induction l:g==q using cq with
   |true=>
    have:g=q:=bL l;subst this;have C:w.lookup g=none:=by induction B:w.lookup g using b7 with|none=>rfl|some d=>exact absurd (mm (f:=(·.1))<|mem_of_lookup B) j.1
    rw[C,if_pos i];simp
   |false=>
    have n:g≠q:=by simpa using l
    induction w.lookup g using b7 with|some d=>rfl|none=>by_cases A:k q=some .local<;>simp[A,n]
def IE{k:ar->Option px}{g:ar}:∀{p:List (ar×aq)}{e:ar->Option aq},dG (p.map (·.1))=true->k g=some .cell->bindC k p e g=match p.lookup g with|some t=>some t|none=>e g:=by
 intro p;induction p with
 |nil=>
  exactλD s=>rfl
 |cons a w c=>
  obtain⟨q,t⟩:=a;exactλj i=>by
   rw[e4]at j;unfold dG at j;simp only[c0,ez,hL,decide_eq_false_iff_not]at j;unfold bindC;rw[c j.2 i,ep];induction l:g==q using cq with
   |true=>
    have:g=q:=bL l;subst this;have C:w.lookup g=none:=by induction B:w.lookup g using b7 with|none=>rfl|some d=>exact absurd (mm (f:=(·.1))<|mem_of_lookup B) j.1
    rw[C,if_neg (by rw[i];simp)];simp
   |false=>
    have n:g≠q:=by simpa using l
    induction w.lookup g using b7 with|some d=>rfl|none=>by_cases A:k q=some .local<;>simp[A,n]
set_option tactic.hygienic true in
def Nx:∀{f:List ar}{g:List aa}{x:List aq}{c:aE->Prop}{j:cc},RzL c j x g->(cT f g).lookup b=I (.val d)->∃t,(f.zip x).lookup b=I t/\Rz c j t d:=by
 intro f;induction f with
 |nil=>exactλ_ k=>by cases k
 |cons s n A=>
  intro g x c j B k;induction g using a8 with
  |nil=>cases B;cases k
  |cons i C=>
   cases B;rename_i t l w m;unfold cT at k;rw[OV,e4,ep]at k;rw[OV,ep];induction q:b==s using cq with
   |true=>
    rw[q]at k;simp at k;subst k;exact⟨t,rfl,w⟩
   |false=>
    rw[q]at k;exact A m k
def w3(b:y.length=a.length):(cT a y).map (·.1)=a:=by unfold cT;rw[m7];show OO (λs:ar×aa=>s.1) (a.zip y)=a;exact uq (by exact cL b.symm)
theorem w4:∀{params:List ar}{args:List aa},(cT params args).lookup d≠I (.own e)
 |[],k=>by intro j;cases j
 |p::c,[]=>by intro j;cases j
 |p::c,i::b=>by
  unfold cT
  rw[OV,e4,ep]
  induction f:d==p using cq with|true=>intro j;cases j|false=>exact w4 (params:=c) (args:=b)
def Ja{d:n'}{N:a4}{F:dI}{l:ax}{G:nc->ax->Prop}{i:aE}{S:cC}{B:Bh}{aP:List aF}{k:List aq}{c:List (ar×aq)}(g:F.depth<recursionLimit)(q:l.heap.get? i=I S)(H:S.data=.func B)(y:l.heap.NoLimit)(L:l.heap.CodeRec B.code B.qualname)(j:B.body=.stmts aP)(C:Bp B ⟨k,[]⟩=bg c)(D:B.closure=[])(ae:∀O∈c,B.scope.names.lookup O.1=I .local\/(B.scope.names.lookup O.1=I .cell/\((nf (l.heap.objs.size+1) B.scope.names []).lookup O.1).isSome=ab))(r:B.scope.isCoroutine=au)(p:B.scope.isGenerator=au)(m:B.scope.kind=.function)(U:∀n,l.toks<=n.toks->InCallC l (dJ B l.heap.objs.size i).locals (bindL (dJ B l.heap.objs.size i).kindOf c λZ=>ag) (dJ B l.heap.objs.size i).cells (bindC (dJ B l.heap.objs.size i).kindOf c λZ=>ag) n->aB (aK d N) (F.deeper<|dJ B l.heap.objs.size i) (dm aP<|dJ B l.heap.objs.size i) (λT J=>G (.ok (.ret (match T with|.ret t=>t|Z=>.none))) J) (λP J=>aB (aK d N) (F.deeper<|dJ B l.heap.objs.size i) (leaving (dJ B l.heap.objs.size i) P) (λZ cX=>G (.error P) cX) (λb cX=>G (.error b) cX) J) n):fF (aK d N) F (.call (.ref i) ⟨k,[]⟩) G l:=by refine codeAny_call_function g q H r p j L ?_;rw[C,D];refine aY<|hO (bM l.toks)<|wpAny_newFunctionEnv_cells m ae λQ K n E M=>?_;cases K;exact⟨y.keeps E.toInCall.keep,codeAny_func<|U n M E⟩
set_option maxHeartbeats 1000000 in
def MW(bb:cf C O N){aP:List aF}(bt:dA C a2 be i aP)(I:k9 O M be i aP n w=some d):cM C (.ref a2) w (N+1) d:=by
 unfold k9 at I;by_cases aA:(hu be i&&w.length==i.length)=ab;case neg=>rw[if_neg aA]at I;cases I
 rw[if_pos aA]at I;simp only[c0,beq_iff_eq]at aA;obtain⟨ar,T⟩:=aA;unfold hu at ar;simp only[c0,beq_iff_eq,ez,bZ,mj,bne_iff_ne,ne_eq]at ar;obtain⟨⟨⟨⟨⟨⟨aV,aU⟩,a0⟩,bu⟩,ai⟩,af⟩,aK⟩:=ar;obtain⟨au,k,aB,bl,rfl,az,aS,aC,aR,ay⟩:=bt.obj;intro bw a9 B a1 ag a7 bv bF q;obtain⟨bm,aY⟩:=bl B.heap ag.ok;have aM:a1.length=i.length:=by rw[a7.length,T]
 have as:(i.zip a1).map (·.1)=i:=uq (by exact cL aM.symm);refine BF (Ja (by have:=ag.depth;show a9.depth<1000;exact cH (b_ _ _) o) bm aB (bt.lim _ ag.ok) aY az (ay a1 aM) aS (λbE ae=>?_) a0 aU aV λD aL ac=>?_);have a4:bE.1∈i:=by have:=mm (f:=(·.1)) ae;rw[as]at this;exact this
 rcases(af _ a4).2 with P|P;exact .inl P;refine .inr ⟨P,?_⟩;obtain⟨p,j⟩:=lJ (m:=B.heap.objs.size+1)<|mem_of_lookup P;obtain⟨ap,K⟩:=lW j;rw[K];rfl;obtain⟨bn,a',aj,aD⟩:=ac.done;have U:ak C B D:=by rw[aj];exact ak.of_keep aD (by rw[aj]at aL;exact aL)
 have ad:=ag.ext U;have bi:B.heap.get? B.heap.objs.size=none:=gJ _;have R:(dJ k B.heap.objs.size a2).cells=nf (B.heap.objs.size+1) k.scope.names []:=rfl;have bg:∀L p,(L,p)∈(dJ k B.heap.objs.size a2).cells->B.heap.get? p=none:=λL p G=>iB<|A8 (pX<|R▸G).2;have bB:∀L p,(L,p)∈(dJ k B.heap.objs.size a2).cells->(L,ib)∈k.scope.names:=λL p G=>(pX<|R▸G).1;let bd:aE->Prop:=λp=>p=B.heap.objs.size\/∃L,(dJ k B.heap.objs.size a2).cells.lookup L=some p;have aO:∀p,bd p->B.heap.get? p=none:=λp j=>j.elim (λq=>q▸bi) λax=>ax.elim λL G=>bg L p<|mem_of_lookup G;let al:bX:={env:=dJ k B.heap.objs.size a2,X:=λp=>bw p\/bd p,Y:=bd,A:=a9.deeper<|dJ k B.heap.objs.size a2,fuel:=N};have am:=λp(j:bd p)=>ag.gm<|aO p j;have bf:∀p,bd p->∃au,D.heap.get? p=some au:=λp j=>j.elim (λq=>q▸ac.toInCall.ns.imp λau ax=>ax.elim λbc ax=>ax.elim λbc ax=>ax.1) λax=>ax.elim λL G=>(ac.cell L p G).imp λau=>i8;have a8:∀L p,(dJ k B.heap.objs.size a2).cells.lookup L=some p->p≠B.heap.objs.size:=λL p G q=>by have:=(pX<|R▸mem_of_lookup G).2;rw[q]at this;exact absurd this<|O6 _
 have a6:hS C (al.grow []) D:=⟨aV,⟨_,ac.toInCall.ns⟩,λL p G=>⟨_,ac.cell L p G⟩,ac.apart,.inl rfl,λp j=>.inl<|.inr j,λp j=>(am p j).1,λp j=>(am p j).2.1,λL p G=>⟨(am p<|.inr ⟨L,G⟩).1,a8 L p G,.inl<|.inr<|.inr ⟨L,G⟩⟩,λW bG V=>(by cases V)⟩;have aG:RzL (al.grow []).X D.heap a1 w:=by
  have bp:=a7.more (Y:=(al.grow []).X) λp au V W=>by rcases W with(W|W)|W;exact W;rw[aO p W]at V;cases V;cases W
  exact bp.mono λp au j V=>U.keep p au V λaH=>j<|.inl<|.inl<|ag.aT p aH
 have bo:bj C (al.grow []) (aZ.fn k.scope) (cT i w).strict D:=by
  refine⟨rfl,aC,aR,λp aH=>.inl<|.inl<|ag.aT p aH,λW H bk=>?_,λW H=>?_,λW bA V=>?_,a6⟩;have aq:=p5 bk;rw[hL]at H;have H:=of_decide_eq_true H;unfold aZ.fn at H;rw[hM]at H;obtain⟨av,ao,rfl⟩:=H;rw[lk]at ao;obtain⟨ao,S⟩:=ao;simp only[mj,beq_iff_eq]at S;refine⟨rfl,aq.1,aq.2,?_⟩;have aJ:=(aK av ao).2;rcases S with S|S;left;show k.scope.names.lookup av.1=_;rw[aJ,S];right;refine⟨by show k.scope.names.lookup av.1=_;rw[aJ,S],?_⟩;obtain⟨p,j⟩:=lJ (m:=B.heap.objs.size+1) (show(av.1,ib)∈k.scope.names by rw[<-S];exact ao);obtain⟨ap,K⟩:=lW j;exact⟨ap,K,.inr ⟨av.1,K⟩⟩;rcases H with H|H;obtain⟨p,j⟩:=lJ (m:=B.heap.objs.size+1)<|mem_of_lookup H;exact lW j;exact absurd rfl<|(aK _<|mem_of_lookup H).1;rw[fB (by rw[w3 T];exact ai)]at V;obtain⟨aN,a3,br⟩:=Nx aG V;have H:W∈i:=by have:=mm (f:=(·.1))<|mem_of_lookup V;rw[w3 T]at this;exact this
  have aq:=p5 (af W H).1;refine⟨aN,⟨aV,aq.1,aq.2,?_⟩,br⟩;rcases(af W H).2 with P|P;left;refine⟨P,(am _<|.inl rfl).1,_,ac.toInCall.ns,?_⟩;rw[IF (by rw[as];exact ai) P,a3];right;obtain⟨p,j⟩:=lJ (m:=B.heap.objs.size+1)<|mem_of_lookup P;obtain⟨ap,K⟩:=lW j;refine⟨.inl P,ap,K,(am _<|.inr ⟨W,K⟩).1,?_⟩;have:=ac.cell W ap K;rw[IE (by rw[as];exact ai) P,a3]at this;exact this
 have aQ:bh C (al.grow []).X al.A al.fuel D:=by refine⟨ag.handled,?_,?_,ag.guards,λp j=>?_,λp aH=>.inl<|.inl<|ag.aT p aH,ad.ok,ad.tok⟩;exact cH (cL<|ef a9.depth 1 N) ag.depth;exact r4 (cH (cL<|ef a9.units 3<|4*N)<|e5 _) ag.units;rcases j with(j|j)|j;exact ad.cA p j;obtain⟨au,V⟩:=bf p j;exact⟨au,V,λaH=>absurd aH (am p j).1⟩;cases j
 have ah:aX C al (aZ.fn k.scope) (cT i w) [] D:=
  ⟨aQ,bo,by rw[w3 T];exact ai,λp j=>(by cases j),λW bC V=>absurd V w4,λW ba bC bD p V=>absurd V w4,λp aH=>.inl<|ag.aT p aH,λp j=>.inr j,λL p G=>.inr<|.inr ⟨L,G⟩⟩
 have aI:∀aN aa J,b2 C al [] aa D J->(∀p∈aa,¬al.X p/\∃au,J.heap.get? p=some au)->Rz al.X J.heap aN d->bv aN J:=by intro aN aa J an a5 a_;refine q aN J ?_<|a_.less λp j=>.inl j;have bs:cu C al aa B J:=U.bx.trans an.bx;refine bs.ext aO λp j=>?_;rcases an.new p j with ba|ba;cases ba;exact U.old ag ba
 induction ae:xs O (aZ.fn k.scope) M n (cT i w) aP using b7 with
 |none=>rw[ae]at I;cases I
 |some a_=>
  rw[ae]at I;refine(Nn (M:=M) bb n).1.rf (aZ.fn k.scope) (cT i w) aP a_ al (bM _) ae [] D ah _ _ ?_;cases a_ with
  |ret bz=>
   simp at I;subst I;exactλaN aa J an a5 bq=>aI aN aa J an a5 bq
  |next aW=>
   simp at I;subst I;exactλaa J aw an=>aI .none aa J an (λp j=>⟨(aw.lists p j).1,by obtain⟨bc,bc,a1,L,V⟩:=aw.lists p j;exact⟨_,V⟩⟩) .none
  |brk aW=>simp at I
  |cont aW=>simp at I
structure pG(C:bC)(c:bX)(X:Addr->Prop)(A:Around)(N:Nat)(a:Addr)(sc:Scope)(params:List Str)(bl:List Value)(s e2:Shared):Prop where
 ext:ak C s e2
 xs:c.X=λb=>X b\/c.Y b
 fuel:c.fuel=N
 fresh:∀b,c.Y b->s.heap.get? b=none
 env:∃fd L aQ,c.env=callEnvC fd L a/\aQ.data=.func fd/\(∀h,C.ew h->h.get? a=some aQ)/\fd.scope=sc
 good:bh C c.X c.A c.fuel e2
 ok:bj C c (aZ.fn sc) [] e2
 vars:∀y v,(params.zip bl).lookup y=some v->bH C e2.heap c.env y v
 Oc:∀b,c.Y b->b=c.env.locals\/∃m,c.env.cells.lookup m=some b
set_option maxHeartbeats 1000000 in
def Kg{a1:aE}{av:gQ}{d:List ar}{aP:List aF}{V:List aq}{cV:aE->Prop}{bn:dI}{H:ax}(aI:dA C a1 av d aP)(K:hu av d=ab)(ah:V.length=d.length)(am:bh C cV bn (N+1) H){aJ:nc->ax->Prop}(dW:∀(al:bX)(n:ax),pG C al cV bn N a1 av d V H n->∀aD,aB (aK C.prog C.w) al.A (dm aP al.env) (λeq J=>aJ (.ok (.ret (match eq with|.ret cs=>cs|Z=>.none))) J) aD n):fF (aK C.prog C.w) bn (.call (.ref a1) ⟨V,[]⟩) aJ H:=by
 unfold hu at K;simp only[c0,beq_iff_eq,ez,bZ,mj,bne_iff_ne,ne_eq]at K;obtain⟨⟨⟨⟨⟨⟨bv,au⟩,ay⟩,aL⟩,bi⟩,O⟩,be⟩:=K;obtain⟨cd,B,P,cr,rfl,ad,aj,af,ai,aa⟩:=aI.obj;obtain⟨aH,aw⟩:=cr H.heap am.ok;have S:(d.zip V).map (·.1)=d:=uq (by exact cL ah.symm);refine Ja (by have:=am.depth;show bn.depth<1000;exact cH (b_ _ _) o) aH P (aI.lim _ am.ok) aw ad (aa V ah) aj (λaO ae=>?_) ay au bv λn bm M=>?_;have az:aO.1∈d:=by have:=mm (f:=(·.1)) ae;rw[S]at this;exact this
 rcases(O _ az).2 with D|D;exact .inl D;refine .inr ⟨D,?_⟩;obtain⟨p,j⟩:=lJ (m:=H.heap.objs.size+1)<|mem_of_lookup D;obtain⟨ac,l⟩:=lW j;rw[l];rfl;obtain⟨dL,cK,Q,a2⟩:=M.done;have as:ak C H n:=by rw[Q];exact ak.of_keep a2 (by rw[Q]at bm;exact bm)
 have k:=am.ext as;have dK:H.heap.get? H.heap.objs.size=ag:=gJ _;have E:(dJ B H.heap.objs.size a1).cells=nf (H.heap.objs.size+1) B.scope.names []:=rfl;have ds:∀L p,(L,p)∈(dJ B H.heap.objs.size a1).cells->H.heap.get? p=ag:=λL p r=>iB<|A8 (pX<|E▸r).2;have aN:∀L p,(L,p)∈(dJ B H.heap.objs.size a1).cells->(L,ib)∈B.scope.names:=λL p r=>(pX<|E▸r).1;let ci:aE->Prop:=λp=>p=H.heap.objs.size\/∃L,(dJ B H.heap.objs.size a1).cells.lookup L=I p;have co:∀p,ci p->H.heap.get? p=ag:=λp j=>j.elim (λq=>q▸dK) λU=>U.elim λL r=>ds L p<|mem_of_lookup r;let al:bX:={env:=dJ B H.heap.objs.size a1,X:=λp=>cV p\/ci p,Y:=ci,A:=bn.deeper<|dJ B H.heap.objs.size a1,fuel:=N};have T:=λp(j:ci p)=>am.gm<|co p j;have db:∀p,ci p->∃cd,n.heap.get? p=I cd:=λp j=>j.elim (λq=>q▸M.toInCall.ns.imp λcd U=>U.elim λZ U=>U.elim λZ U=>U.1) λU=>U.elim λL r=>(M.cell L p r).imp λcd=>i8;have a8:∀L p,(dJ B H.heap.objs.size a1).cells.lookup L=I p->p≠H.heap.objs.size:=λL p r q=>by have:=(pX<|E▸mem_of_lookup r).2;rw[q]at this;exact absurd this<|O6 _
 have aA:hS C al n:=⟨bv,⟨_,M.toInCall.ns⟩,λL p r=>⟨_,M.cell L p r⟩,M.apart,.inl rfl,λp j=>.inr j,λp j=>(T p j).1,λp j=>(T p j).2.1,λL p r=>⟨(T p<|.inr ⟨L,r⟩).1,a8 L p r,.inr<|.inr ⟨L,r⟩⟩,λW aQ cl=>(by cases cl)⟩;have em:bj C al (aZ.fn B.scope) [] n:=by refine⟨rfl,af,ai,λp ce=>.inl<|am.aT p ce,λW i aG=>?_,λW i=>?_,λW aM cl=>(by cases cl),aA⟩;have an:=p5 aG;rw[hL]at i;have i:=of_decide_eq_true i;unfold aZ.fn at i;rw[hM]at i;obtain⟨ap,ao,rfl⟩:=i;rw[lk]at ao;obtain⟨ao,G⟩:=ao;simp only[mj,beq_iff_eq]at G;refine⟨rfl,an.1,an.2,?_⟩;have bd:=(be ap ao).2;rcases G with G|G;left;show B.scope.names.lookup ap.1=_;rw[bd,G];right;refine⟨by show B.scope.names.lookup ap.1=_;rw[bd,G],?_⟩;obtain⟨p,j⟩:=lJ (m:=H.heap.objs.size+1) (show(ap.1,ib)∈B.scope.names by rw[<-G];exact ao);obtain⟨ac,l⟩:=lW j;exact⟨ac,l,.inr ⟨ap.1,l⟩⟩;rcases i with i|i;obtain⟨p,j⟩:=lJ (m:=H.heap.objs.size+1)<|mem_of_lookup i;exact lW j;exact absurd rfl<|(be _<|mem_of_lookup i).1
 have ch:∀W cs,(d.zip V).lookup W=I cs->bH C n.heap al.env W cs:=by
  intro W cs ca;have i:W∈d:=by have:=mm (f:=(·.1))<|mem_of_lookup ca;rw[S]at this;exact this
  have an:=p5 (O W i).1;refine⟨bv,an.1,an.2,?_⟩;rcases(O W i).2 with D|D;left;refine⟨D,(T _<|.inl rfl).1,_,M.toInCall.ns,?_⟩;rw[IF (by rw[S];exact bi) D,ca];right;obtain⟨p,j⟩:=lJ (m:=H.heap.objs.size+1)<|mem_of_lookup D;obtain⟨ac,l⟩:=lW j;refine⟨.inl D,ac,l,(T _<|.inr ⟨W,l⟩).1,?_⟩;have:=M.cell W ac l;rw[IE (by rw[S];exact bi) D,ca]at this;exact this
 have bs:bh C al.X al.A al.fuel n:=by refine⟨am.handled,?_,?_,am.guards,λp j=>?_,λp ce=>.inl<|am.aT p ce,k.ok,k.tok⟩;have:=am.depth;show bn.depth+1+N<1000;exact cH (cL<|ef _ _ _) this;have:=am.units;show bn.units+3+4*N<9000;exact cH (aC (cL<|hy _ _ _)<|gy (aC (cL<|fU 3<|4*N)<|lp _) _) this;rcases j with j|j;exact k.cA p j;obtain⟨cd,cl⟩:=db p j;exact⟨cd,cl,λce=>absurd ce (T p j).1⟩
 exact dW al n ⟨as,rfl,rfl,co,⟨B,_,cd,rfl,P,λU ce=>(cr U ce).1,rfl⟩,bs,em,ch,λp U=>U⟩ _
def ta{i:aE}{h:gQ}{q:List ar}{aP:List aF}{x:List aq}{y:aE->Prop}{r:dI}{l:ax}(D:dA C i h q aP)(k:hu h q=ab)(j:x.length=q.length)(e:bh C y r (N+1) l){p B:aq->ax->Prop}(dW:∀(b:bX)(n:ax),pG C b y r N i h q x l n->∀d,aB (aK C.prog C.w) b.A (dm aP b.env) (λG J=>p (match G with|.ret t=>t|Z=>.none) J) d n):aB (aK C.prog C.w) r (e8 (.ref i) x []) p B l:=BF<|Kg D k j e λb n m d=>dW b n m d
def pG.sim(B:pG C j k r N ac h d x m i)(K:hu h d=ab)(H:f.length=d.length)(aa:bh C k r (N+1) m)(Q:RzL k m.heap x f):aX C j (aZ.fn h) (cT d f) [] i:=by
 have J:dG d=ab:=by have:=K;unfold hu at this;simp only[c0]at this;exact this.1.1.2
 have I:∀p,C.T p->j.X p:=B.good.aT;have G:=B.ok.loc;have q:RzL (j.grow []).X i.heap x f:=by
  have w:=Q.more (Y:=(j.grow []).X) λp S F O=>by have E:j.X p\/p∈([]:List aE):=O;rcases E with E|E;rw[B.xs]at E;rcases E with E|E;exact E;rw[B.fresh p E]at F;cases F;cases E
  exact w.mono λp S D F=>B.ext.keep p S F λM=>D<|.inl<|I p M
 refine⟨⟨B.good.handled,B.good.depth,B.good.units,B.good.guards,λp D=>?_,λp M=>.inl<|I p M,B.good.ok,B.good.tok⟩,⟨B.ok.sc,B.ok.glob,B.ok.blt,λp M=>.inl<|I p M,B.ok.own,B.ok.cells,λO V F=>?_,⟨G.kind,G.ns,G.cell,G.apart,G.e1,λp D=>.inl<|G.bJ p D,G.hI,G.jt,λn p F=>⟨(G.dx n p F).1,(G.dx n p F).2.1,.inl (G.dx n p F).2.2⟩,G.pin⟩⟩,by rw[w3 H];exact J,λp D=>(by cases D),λO W F=>absurd F w4,λO ad W Z p F=>absurd F w4,I,G.bJ,λn p F=>(G.dx n p F).2.2⟩;rcases(D:j.X p\/p∈([]:List aE))with D|D;exact B.good.cA p D;cases D;rw[fB (by rw[w3 H];exact J)]at F;obtain⟨U,P,R⟩:=Nx q F;exact⟨U,B.vars O U P,R⟩
def pG.leave(m:pG C j k r N i h f x l e)(D:bh C k r (N+1) l)(w:b2 C j [] gV e J)(q:Rz j.X J.heap t d):ak C l J/\Rz k J.heap t d:=by refine⟨?_,q.less λp n=>by rw[m.xs];exact .inl n⟩;have y:cu C j gV l J:=m.ext.bx.trans w.bx;refine y.ext m.fresh λp n=>?_;rcases w.new p n with B|B;cases B;exact m.ext.old D B
def Cv{aP:List aF}(l:dA C i f b aP)(n:hu f b=ab)(D:y.length=b.length)(O:r=.ret d\/∃aW,r=.next aW/\d=.none)(dW:∀(e:bX),e.fuel=N->(∃H U S,e.env=dJ H U i/\S.data=.func H/\(∀j,C.ew j->j.get? i=I S)/\H.scope=f)->e.env.globals=C.G->e.env.builtins=C.B->bV C e (aZ.fn f) (dm aP e.env) (cT b y) r):cM C (.ref i) y (N+1) d:=by intro ad Z ae Y M p ac aa q;refine ta l n (by rw[p.length,D]) M λe K k T=>?_;have ah:=k.sim n D M p;refine dW e k.fuel k.env k.ok.glob k.ok.blt [] K ah _ _ ?_;rcases O with rfl|⟨aW,rfl,rfl⟩;intro W m J w V t;obtain⟨R,r⟩:=k.leave M w t;exact q W J R r;intro m J P w;obtain⟨R,r⟩:=k.leave M w (.none:Rz e.X J.heap .none .none);exact q .none J R r
section
variable{c:bX}{S:aZ}{σ:aG}
def bV.nil:bV C c S (dm [] c.env) σ (.next σ):=λq l ah h f a=>hc<|a q l ah b2.refl
def bV.cons{st:aF}{e:List aF}{aW:aG}{w:fH}(j:bV C c S (c3 st c.env) σ (.next aW))(k:bV C c S (dm e c.env) aW w):bV C c S (dm (st::e) c.env) σ w:=λq l ah a f d=>
 d6 (j q l ah _ _ λm J y b=>k m J y a f<|d.from y b)
theorem bV.ret{st:aF}(j:bV C c S (c3 st c.env) σ (.ret d)):bV C c S (dm (st::e) c.env) σ (.ret d):=λq l ah b f a=>d6<|j q l ah _ _ a
def adw(K:ja f (I<|.Name m g) j.line c.env=bg au)(D:∀b l,aX C c S σ b l->bq C c f l d)(H:fu d=ab)(G:dq S (.Name m g) d []=I f_):
  bV C c S (c3 (.Assign [.Name m g] f j) c.env) σ (.next<|σ.vals f_):=by
 intro b l ah N M k
 rw[Bv _ _ _ _ _ K]
 refine av<|dc<|av<|D b l ah l (ak.refl l) ah.cB _ _ λt n h P=>?_
 have y:=ah.ext h
 have L:Rz (c.grow b).X n.heap t d:=s_ (λO R=>(y.lists O R).2.2) H P
 have:=y.dq L G (Q:=λF J=>N .next J) (E:=M) λB A i=>k b B A<|(b2.ext h).trans y i
 rw[PL]at this
 rw[show(do fG g;lu c.env m t;bg f':ct mq)=((do fG g;lu c.env m t)>>=λF=>bg .next)by simp[r0]]
 exact av<|ff this (λF J q=>aY q) λF F T=>T
def Nu(b:∀q l,aX C c S σ q l->bq C c f l d):bV C c S (c3 (.Return (I f) j) c.env) σ (.ret d):=by intro q l ah D B y;refine x1<|b q l ah l (ak.refl l) ah.cB _ _ λt n h A=>?_;exact y t q n (b2.ext h) (λi g=>⟨(ah.lists i g).1,by obtain⟨k,k,x,F,f⟩:=(ah.ext h).lists i g;exact⟨_,f⟩⟩) A
def bV.qf(x:cf C O N){aP:List aF}(y:N<=c.fuel)(j:xs O S M n σ aP=I w):bV C c S (dm aP c.env) σ w:=(Nn (M:=M) x n).1.rf S σ aP w c y j
theorem aX.ev(x:cf C O N){q:List aE}{l:ax}{f:ai}{d:aa}(ah:aX C c S σ q l)(y:N<=c.fuel)(j:bc O n S σ.plus f=I d):bq C c f l d:=(de x n).cW S σ.plus f d c l ah.borrow y j
end
end
def Qm:∀{b:List e6},b.any (·.key.isStr p)=au->putL p i d t b=b++[⟨i,d,t⟩]:=by
 intro b;induction b with
 |nil=>
  exact @λk=>rfl
 |cons f w c=>
  exact @λj=>by simp only[afI,Bool.or_eq_false_iff]at j;unfold putL;rw[j.1,c j.2];rfl
def ac3{F:n'}{f:a4}{r:dI}{S:aq->ax->Prop}{l:ax}{K:Frag}{P j Cl:aE}{d:List e6}{y:Nat}{p:ar}{t:aq}{h:Unit->ax->Prop}(J:K.In l.heap)(ae:l.heap.get? P=I (mu Cl j))(B:l.heap.get? j=I (dictOf d y))(D:GX K (.ref Cl) "__setattr__"=I (I<|.builtin "object.__setattr__"))(ao:PG K Cl=ab)(O:takerIn K Cl p=I ag)(k:PF K Cl=ab)(g:d.any (·.key.isStr p)=au)(L:d.any (·.refKey)=au)(Y:d.length<1000)(q:∀C D aa,(∀G,G≠j->C.get? G=l.heap.get? G)->C.get? j=I (dictOf (d++[⟨D,.str p<|l.toks+1,t⟩]) aa)->h () {l with heap:=C,toks:=l.toks+2}):aB (aK F f) r (setAttr (.ref P) p t) h S l:=by
 have R:InstAt l.heap P (mu Cl j) Cl (I<|dictOf d y):=⟨ae,rfl,rfl,B⟩;refine set_plain J R D<|osa_open (s:={l with toks:=l.toks+1}) J R ao O λG=>?_;obtain⟨V,N,H⟩:=any_some k;refine av<|aY<|av<|av<|ahT ae<|av<|looks_clsIn J N _ _ _ _ (λT T W=>W) ?_;rw[H];refine aY (a:=I j)<|av<|aY<|av ?_;unfold nsSet;refine av<|av<|P7<|aY<|av<|uS<|av<|ahT (o:=dictOf d y) B ?_;dsimp only;have U:(!d.toArray.any (·.key.isStr p)&&d.toArray.any (·.refKey))=au:=by rw[<-afn,<-afn,g,L];rfl
 rw[aRefKeyMayBeTheName_at,U];refine wpAny_updatePart (o:=dictOf d y) B ?_;have i:(l.heap.update j<|Obj.putName p (Py f.params p) (.str p<|l.toks+1) t).get? j=I (dictOf (d++[⟨Py f.params p,.str p<|l.toks+1,t⟩])<|putN p d y):=by rw[uG _ B (by rw[putName_dict];rfl),putName_dict,Qm g]
 refine av (wpAny_lookBehind i (pastItsLine_dict (by rw[Gl,hx,sizeLine_eq];simp;exact c2<|du o z)) ?_);exact aY<|q _ _ _ (λG M=>kM _ _<|jy M) i
section
variable{C:bC}{O:b0}{N n:Nat}{M:List ar}
noncomputable def atom:aa->Bool|.none=>ab|.bool _=>ab|.int _=>ab|.float _=>ab|.str _=>ab|_=>au
theorem Rz.atom{c g:aE->Prop}{j y:cc}{k:aq}{d:aa}(i:atom d=ab)(w:Rz c j k d):Rz g y k d:=by
 cases d<;>try exact fT i
 exact w.nK λf=>f▸.none;exact w.bK λf=>f▸.bool _;exact w.iK λb f=>f▸.int _ _;exact w.fK λb n f=>f▸.float _ _ n;exact w.sK λb f=>f▸.str _ _
def RzL.atoms:∀{b:List aa}{d:List aq},b.all Mine.atom=ab->RzL c j d b->RzL g f d b:=by
 intro b;induction b with
 |nil=>
  exactλt w=>w.nK λn=>n▸.nil
 |cons k t l=>
  exactλi w=>w.cK λk k m p n=>n▸.cons (m.atom (aM i).1) (l (aM i).2 p)
def c4.append(w:Rz f j g d)(q:c4 f j e s):c4 f j (e++[⟨l,.str m i,g⟩]) (s++[(m,d)]):=by induction q using c4.ind with|n=>exact .cons w .nil|c y p k=>exact .cons y k
def Ft:kS->Bool|.val d=>atom d|.own k=>k.all atom
def u6(σ:aG):Bool:=σ.all λs=>Ft s.2
def Mz(j:u6 σ=ab)(f:σ.lookup m=I t):Ft t=ab:=by unfold u6 at j;exact bZ.mp j _<|mem_of_lookup f
section
variable{c:bX}{S:aZ}{σ aW:aG}{W:List aE}{s:ax}{d':aE}
def aX.but(ah:aX C c S σ W s)(g:∀aA ac,aW.lookup aA=I ac->σ.lookup aA=I ac)(ai:dG (aW.map (·.1))=ab)(O:u6 aW=ab) (am:¬c.X d') (U:d'∉W) (au:¬C.P d') (av:∀L,s.heap.get? d'=I L->¬fz L) (jC:∀M,M≠d'->f.get? M=s.heap.get? M) (as:s.toks<=a1):aX C c S aW W {s with heap:=f,toks:=a1}:=by
 have bW:¬C.T d':=λV=>am<|ah.aT _ V;have H:∀M,(c.grow W).X M->M≠d':=λM q A=>q.elim (λR=>am<|A▸R) λR=>U<|A▸R;have Q:C.ew f:=C.lb _ _ ah.good.ok λM L ax A=>(jC M λq=>by subst q;exact ax.elim bW λR=>R.elim au<|av L A).trans A;have J:∀F aa,bH C s.heap c.env F aa->bH C f c.env F aa:=by rintro F aa ⟨i,ae,af,O⟩;refine⟨i,ae,af,?_⟩;have B:=ah.ok.loc;rcases O with⟨k,V,K,ar,A⟩|⟨k,ad,j,V,aq⟩;exact .inl ⟨k,V,K,nP ar λL A=>(jC _<|H _<|B.bJ _ B.e1).trans A,A⟩;exact .inr ⟨k,ad,j,V,pW aq λL D=>(jC _<|H _ (B.dx _ _ j).2.2).trans D⟩
 have B:=ah.ok.loc;refine⟨⟨ah.good.handled,ah.good.depth,ah.good.units,ah.good.guards,λi ag=>?_,ah.good.aT,Q,λA=>ah.good.tok<|Gq.mp<|A▸as⟩,⟨ah.ok.sc,ah.ok.glob,ah.ok.blt,ah.ok.aT,ah.ok.own,ah.ok.cells,λF d A=>?_,?_⟩,ai,λi an=>?_,λF j A=>?_,λF R ak al i N E ay az=>?_,ah.aT,ah.bJ,ah.cI⟩;obtain⟨L,A,V⟩:=ah.good.cA i ag;exact⟨L,(jC i<|H i ag).trans A,V⟩;have D:=(fB ai).mp A;have E:=g _ _ D;obtain⟨ac,i,aw⟩:=ah.ok.names F d<|(fB ah.keys).mpr E;exact⟨ac,J _ _ i,aw.atom<|Mz O D⟩;refine⟨B.kind,?_,λK i A=>?_,B.apart,B.e1,B.bJ,B.hI,B.jt,B.dx,λF aa A=>J F aa<|B.pin F aa A⟩;obtain⟨K,n⟩:=B.ns;exact⟨K,nP n λL A=>(jC _<|H _<|B.bJ _ B.e1).trans A⟩;obtain⟨ac,aC⟩:=B.cell K i A;exact⟨ac,pW aC λL D=>(jC _<|H _ (B.dx K i A).2.2).trans D⟩;obtain⟨ao,ap,Y,K,A⟩:=ah.lists i an;exact⟨ao,ap,Y,K,(jC i λq=>U<|q▸an).trans A⟩;have E:=g _ _ A;obtain⟨i,an,aj,Y,K,N,aw⟩:=ah.own F j E;exact⟨i,an,J _ _ aj,Y,K,(jC i λq=>U<|q▸an).trans N,aw.atoms<|Mz O A⟩;obtain⟨ae,aD,p,aB⟩:=ah.own F ak<|g _ _ N;obtain⟨af,aE,G,aB⟩:=ah.own R al<|g _ _ E;have dZ:=(J _ _ p).same ay;have fa:=(J _ _ G).same az;rw[dZ]at p;rw[fa]at G;exact ah.apart F R ak al i (g _ _ N) (g _ _ E) p G
def aX.pinned(ah:aX C c S σ W s)(ao:c.pin b=I f)(w:Rz (c.grow W).X s.heap f d):aX C c S (σ.set b<|.val d) W s:=by
 have t:∀m k,(σ.set b<|.val d).lookup m=I (.own k)->σ.lookup m=I (.own k):=by intro m k g;rw[k_]at g;split at g;cases g;exact g
 refine⟨ah.good,⟨ah.ok.sc,ah.ok.glob,ah.ok.blt,ah.ok.aT,ah.ok.own,ah.ok.cells,λm h g=>?_,ah.ok.loc⟩,rI ah.keys,ah.lists,λm k g=>ah.own m k<|t m k g,λm p k j i g n=>ah.apart m p k j i (t m k g)<|t p j n,ah.aT,ah.bJ,ah.cI⟩;have g:=(fB<|rI ah.keys).mp g;rw[k_]at g;split at g;rename_i ae;cases g;rw[bL ae];exact⟨f,ah.ok.loc.pin b f ao,w⟩;exact ah.ok.names m h<|(fB ah.keys).mpr g
def aX.E'(ah:aX C c S σ W s)(n:∀b t,p b=I t->bH C s.heap c.env b t)(h:∀m,Af.contains m=ab->S.own.contains m=ab/\p m=ag):aX C {c with pin:=p} {S with own:=Af} σ W s:=by have k:=ah.ok.loc;refine⟨⟨ah.good.handled,ah.good.depth,ah.good.units,ah.good.guards,ah.good.cA,ah.good.aT,ah.good.ok,ah.good.tok⟩,⟨ah.ok.sc,ah.ok.glob,ah.ok.blt,ah.ok.aT,λm ae a=>?_,ah.ok.cells,λm d f=>?_,⟨k.kind,k.ns,k.cell,k.apart,k.e1,k.bJ,k.hI,k.jt,k.dx,n⟩⟩,ah.keys,ah.lists,λm k f=>?_,ah.apart,ah.aT,ah.bJ,ah.cI⟩;obtain⟨g,q⟩:=h m ae;exact⟨q,(ah.ok.own m g a).2⟩;exact ah.ok.names m d f;exact ah.own m k f
end
structure hT(C:bC)(c:bX)(S:aZ)(y:Str)(x d' Cl:Addr)(e2:Shared)(σ:aG)(W:List Addr)(bf:List DictEntry)(n:Nat)(cR:List (Str×aa))(s:Shared):Prop where
 sim:aX C c S σ W s
 ao:c.pin y=some (.ref x)
 ae:s.heap.get? x=some (instObj Cl d')
 hd:s.heap.get? d'=some (dictOf bf n)
 tD:¬c.X x
 qc:¬c.X d'
 mO:¬C.P d'
 e:c4 (λb=>(c.grow W).X b\/b=d') s.heap bf cR
 bx:cu C c (d'::W) e2 s
 new:∀a∈W,e2.heap.get? a=none
section
variable{c:bX}{S:aZ}{σ aW:aG}{W:List aE}{s e2:ax}{x d' Cl:aE}{y:ar}{bf:List e6}{m:Nat}{cR:List (ar×aa)}
def hT.N5(j:hT C c S y x d' Cl e2 σ W bf m cR s):x∉W:=λb=>by obtain⟨k,k,a,n,f⟩:=j.sim.lists x b;rw[j.ae]at f;simp[mu]at f
def hT.FU(j:hT C c S y x d' Cl e2 σ W bf m cR s):d'∉W:=λb=>by obtain⟨k,k,a,n,f⟩:=j.sim.lists d' b;rw[j.hd]at f;simp[dictOf]at f
theorem hT.obj(j:hT C c S y x d' Cl e2 σ W bf m cR s):Rz (c.grow W).X s.heap (.ref x) (.obj Cl cR):=.obj (λq=>q.elim j.tD j.N5) (λq=>q.elim j.qc j.FU) j.ae j.hd<|j.e.less λp q=>.inl q
theorem hT.set(j:hT C c S y x d' Cl e2 σ W bf m cR s):hT C c S y x d' Cl e2 (σ.set y<|.val<|.obj Cl cR) W bf m cR s:=⟨j.sim.pinned j.ao j.obj,j.ao,j.ae,j.hd,j.tD,j.qc,j.mO,j.e,j.bx,j.new⟩
def hT.Kx(j:hT C c S y x d' Cl e2 σ W bf m cR s)(ah:aX C c S aW d J)(E:b2 C c W d s J):hT C c S y x d' Cl e2 aW d bf m cR J:=by
 have bW:∀p,¬c.X p->¬C.T p:=λp q H=>q<|ah.aT p H;have G:∀p,¬c.X p->¬c.Y p:=λp q H=>q<|ah.bJ p H;have l:∀p D,s.heap.get? p=some D->p∈d->p∈W:=λp D f n=>(E.new p n).resolve_right λq=>by rw[f]at q;cases q
 refine⟨ah,j.ao,E.bx.keep _ _ j.ae (bW _ j.tD) (G _ j.tD) λn=>j.N5<|l _ _ j.ae n,E.bx.keep _ _ j.hd (bW _ j.qc) (G _ j.qc) λn=>j.FU<|l _ _ j.hd n,j.tD,j.qc,j.mO,?_,?_,λi n=>?_⟩;have L:=j.e.more (Y:=λp=>(c.grow d).X p\/p=d') λp D f q=>q.elim (λI=>I.elim (λI=>.inl<|.inl I) λI=>.inl<|.inr<|l p D f I) .inr;refine L.mono λp D F f=>E.bx.keep p D f (bW p λq=>F<|.inl<|.inl q) (G p λq=>F<|.inl<|.inl q) λq=>F<|.inl<|.inr q;refine(j.bx.cut (λk q=>q) λp n=>.inl ?_).trans<|E.bx.cut (λk q=>q) λp n=>.inl<|.tail _ n;rcases cJ.mp n with rfl|n;exact .head _;exact .tail _<|E.old p n;rcases E.new i n with q|q;exact j.new i q;induction f:e2.heap.get? i using b7 with
 |none=>rfl
 |some D=>
  exfalso;by_cases H:C.T i;obtain⟨K,A,k⟩:=j.sim.good.cA i<|.inl<|j.sim.aT i H;rw[q]at A;cases A;by_cases B:i∈d'::W;rcases cJ.mp B with rfl|B;rw[j.hd]at q;cases q;rw[j.new i B]at f;cases f;obtain⟨K,A⟩:=j.bx.all i D f H B;rw[q]at A;cases A
def hT.put{K:Frag}(n:hT C c S y x d' Cl e2 σ W bf m cR s)(aj:∀n,C.ew n->K.In n) (P:bq C c g s d) (R:fu d=ab) (Y:ja g (I<|.Attribute (.Name y a1) p a2) j.line c.env=bg au) (as:(y==("__debug__":ar))=au) (l:GX K (.ref Cl) "__setattr__"=I (I<|.builtin "object.__setattr__")) (U:PG K Cl=ab) (ap:takerIn K Cl p=I ag) (am:PF K Cl=ab) (ah:bf.any (·.key.isStr p)=au) (ai:bf.any (·.refKey)=au) (av:bf.length<1000) (L:∀x N,aW.lookup x=I N->σ.lookup x=I N) (an:dG (aW.map (·.1))=ab) (aq:u6 aW=ab) (q:∀l aa N M J,hT C c S y x d' Cl e2 aW W (bf++[⟨l,.str p aa,N⟩]) M (cR++[(p,d)]) J->bd .next J):aB (aK C.prog C.w) c.A (c3 (.Assign [.Attribute (.Name y a1) p a2] g j) c.env) bd be s:=by
 refine plainObj_wpAny_Assign_Attribute (P s (ak.refl s) n.sim.cB _ _ λN F G aC=>?_) Y;have k:=n.Kx (n.sim.ext G)<|b2.ext G;refine BE (bH.load (k.sim.ok.loc.pin _ _ n.ao) ?_) as;refine ac3 (aj _ k.sim.good.ok) k.ae k.hd l U ap am ah ai av λaf V M jC O=>?_;have ax:Rz (λf=>(c.grow W).X f\/f=d') F.heap N d:=J9 (λi B H q=>by rw[B,k.hd]at q;cases q;exact⟨by simp[dictOf],by simp[dictOf]⟩) R<|s_ (λi ac=>(k.sim.lists i ac).2.2) R aC;have D:∀f H,¬((c.grow W).X f\/f=d')->F.heap.get? f=I H->af.get? f=I H:=λf H al B=>(jC f λq=>al<|.inr q).trans B;have bW:¬C.T d':=λaa=>n.qc<|n.sim.aT _ aa;have az:x≠d':=λq=>by have i:=k.ae;rw[q,k.hd]at i;simp[dictOf,mu]at i
 refine q V _ N M _ ⟨k.sim.but L an aq n.qc k.FU n.mO (wy k.hd λq=>by obtain⟨ad,cR,B⟩:=q;cases B) jC<|b_ _ 2,n.ao,(jC x az).trans k.ae,O,n.tD,n.qc,n.mO,?_,?_,n.new⟩;exact c4.append (ax.mono D)<|k.e.mono D;refine k.bx.trans ?_;refine⟨⟨_,_,rfl⟩,λf H B ad ad ac=>(jC f λq=>ac<|q▸.head _).trans B,λf aa aA B=>⟨#[],?_⟩,λaw=>C.lb _ _ aw λf H ay B=>(jC f λq=>?_).trans B,λf H B ad ac=>⟨H,(jC f λq=>ac<|q▸.head _).trans B⟩,b_ _ 2⟩;simpa using(jC f λq=>bW<|q▸aa).trans B;subst q;exact ay.elim bW λaD=>aD.elim n.mO (wy k.hd (λq=>by obtain⟨ad,cR,B⟩:=q;cases B) H B)
end
noncomputable def aZ.loc(h:gQ):aZ:=⟨h,(h.names.filter λs=>s.2==.local).map (·.1)⟩
def yX(h:gQ)(q:List ar)(m:List ar):Bool:=h.kind==.function&&!h.isGenerator&&!h.isCoroutine&&dG (h.names.map (·.1))&&dG q&&q.all (λs=>jj s&&h.names.lookup s==I .local)&&h.names.all λs=>jj s.1&&(s.2==.local||(s.2==.free&&m.contains s.1))&&h.names.lookup s.1==I s.2
structure mv(C:bC)(c:bX)(X:Addr->Prop)(A:Around)(N:Nat)(sc:Scope)(cl:List (Str×Addr))(params:List Str)(bl:List Value)(s e2:Shared):Prop where
 ext:ak C s e2
 xs:c.X=λb=>X b\/c.Y b
 rY:∀b,c.Y b->s.heap.get? b=none
 fuel:c.fuel=N
 env:c.env.scope=sc/\c.env.cells=cl
 good:bh C c.X c.A c.fuel e2
 ok:bj C c (aZ.loc sc) [] e2
 vars:∀y v,(params.zip bl).lookup y=some v->bH C e2.heap c.env y v
 free:∀y a v,sc.names.lookup y=some .free->cl.lookup y=some a->s.heap.IsCell a (some v)->bH C e2.heap c.env y v
def acE:∀{k:List (ar×aq)},dG (k.map (·.1))=true->k.reverse.lookup m=k.lookup m:=by
 intro k;induction k with
 |nil=>
  exact @λq=>rfl
 |cons a w c=>
  obtain⟨n,t⟩:=a;exact @λj=>by
   rw[e4]at j;unfold dG at j;simp only[c0,ez,hL,decide_eq_false_iff_not]at j;rw[A3,uo,c j.2,ep,ep];induction d:m==n using cq with
   |true=>
    have i:=bL d;subst i;have:w.lookup m=none:=by induction g:w.lookup m using b7 with|none=>rfl|some p=>exact absurd (mm (f:=(·.1))<|mem_of_lookup g) j.1
    rw[this];rfl
   |false=>cases w.lookup m<;>rfl
set_option maxHeartbeats 1000000 in
def Jf{bs:aE}{aM:cC}{fd:Bh}{aP:List aF}{params:List ar}{D:List aq}{cr:aE->Prop}{be:dI}{E:ax}(aJ:E.heap.get? bs=I aM)(aH:aM.data=.func fd)(j:fd.body=.stmts aP)(ai:E.heap.CodeRec fd.code fd.qualname)(ah:E.heap.NoLimit)(K:yX fd.scope params (fd.closure.map (·.1))=ab)(aa:Bp fd ⟨D,[]⟩=bg (params.zip D))(aw:D.length=params.length)(aD:fd.globals=C.G)(aA:fd.builtins=C.B)(au:fd.closure.Pairwise λco H=>co.2≠H.2)(M:∀W r,fd.closure.lookup W=I r->¬C.T r/\cr r/\∃a2,E.heap.IsCell r a2)(an:bh C cr be (N+1) E){aL:nc->ax->Prop}(dW:∀(bd:bX)(ac:ax),mv C bd cr be N fd.scope fd.closure params D E ac->∀ay,aB (aK C.prog C.w) bd.A (dm aP bd.env) (λbs J=>aL (.ok (.ret (match bs with|.ret a2=>a2|Z=>.none))) J) ay ac):fF (aK C.prog C.w) be (.call (.ref bs) ⟨D,[]⟩) aL E:=by
 unfold yX at K;simp only[c0,beq_iff_eq,ez,bZ,mj]at K;obtain⟨⟨⟨⟨⟨⟨as,af⟩,av⟩,aG⟩,ca⟩,Q⟩,d⟩:=K;have V:(params.zip D).map (·.1)=params:=uq (by exact cL aw.symm);refine codeAny_call_def (binds:=params.zip D) (by have:=an.depth;show be.depth<1000;exact cH (b_ _ _) o) aJ aH ah ai j (BindsTo.of_eq aa) (λco ae q=>?_) (λco ae=>?_) (λS U F=>?_) av af as;have:=(d co ae).1.2;rw[q]at this;rcases this with P|⟨P,_⟩<;>cases P;have cd:co.1∈params:=by have:=mm (f:=(·.1)) ae;rw[V]at this;exact this
 exact(Q _ cd).2;have al:ak C E {E with heap:=S,toks:=E.toks+(params.zip D).length}:=ak.of_keep F<|b_ _ _;have k:=an.ext al;have bi:E.heap.get? E.heap.objs.size=ag:=gJ _;have am:=an.gm bi;let bd:bX:={env:=callEnv fd E.heap.objs.size bs,X:=λp=>cr p\/p=E.heap.objs.size,Y:=λp=>p=E.heap.objs.size,A:=be.deeper<|callEnv fd E.heap.objs.size bs,fuel:=N};have ce:∀H,bd.env.kindOf H=fd.scope.names.lookup H:=λH=>rfl;have az:∀W r,fd.closure.lookup W=I r->r≠E.heap.objs.size:=λW r O q=>by obtain⟨Z,Z,a2,ci,aj,Z⟩:=M W r O;rw[q,bi]at aj;cases aj
 have ch:hS C bd {E with heap:=S,toks:=E.toks+(params.zip D).length}:=by refine⟨as,⟨_,U⟩,λW r O=>?_,au,rfl,λr bm=>.inr bm,λr bm=>(by rw[show r=_ from bm];exact am.1),λr bm=>(by rw[show r=_ from bm];exact am.2.1),λW r O=>⟨(M W r O).1,az W r O,.inl (M W r O).2.1⟩,λH aO O=>(by cases O)⟩;obtain⟨Z,Z,a2,a1⟩:=M W r O;exact⟨a2,a1.keeps F⟩
 have cK:bj C bd (aZ.loc fd.scope) [] {E with heap:=S,toks:=E.toks+(params.zip D).length}:=by refine⟨rfl,aD,aA,λp cl=>.inl<|an.aT p cl,λH i aI=>?_,λH i=>?_,λH aN O=>(by cases O),ch⟩;have L:=p5 aI;rw[hL]at i;have i:=of_decide_eq_true i;unfold aZ.loc at i;rw[hM]at i;obtain⟨bn,ao,rfl⟩:=i;rw[lk]at ao;obtain⟨ao,ad⟩:=ao;simp only[beq_iff_eq]at ad;refine⟨rfl,L.1,L.2,.inl ?_⟩;rw[ce,(d bn ao).2,ad];have i:fd.scope.names.lookup H=I .cell\/fd.scope.names.lookup H=I .free:=i;rcases i with i|i;have:=(d _<|mem_of_lookup i).1.2;simp at this;have:=(d _<|mem_of_lookup i).1.2;simp only[beq_self_eq_true,true_and]at this;rcases this with P|P;exact absurd P z;rw[hL]at P;obtain⟨bn,ao,O⟩:=hM.mp<|of_decide_eq_true P;obtain⟨r,ap⟩:=lW (a:=bn.2) (l:=fd.closure) (n:=H) (by rw[<-O];exact ao);exact⟨r,ap⟩
 refine dW bd _ ⟨al,rfl,λp bm=>(by rw[show p=_ from bm];exact bi),rfl,⟨rfl,rfl⟩,?_,cK,λH a2 a1=>?_,λH r a2 bv ap cs=>?_⟩ _;refine⟨an.handled,?_,?_,an.guards,λp j=>?_,λp cl=>.inl<|an.aT p cl,k.ok,k.tok⟩;have:=an.depth;show be.depth+1+N<1000;exact cH (cL<|ef _ _ _) this;have:=an.units;show be.units+3+4*N<9000;exact cH (aC (cL<|hy _ _ _)<|gy (aC (cL<|fU 3<|4*N)<|lp _) _) this;rcases j with j|j;exact k.cA p j;obtain⟨ci,Z,Z,O,Z⟩:=U;exact⟨ci,(show p=_ from j)▸O,λcl=>absurd cl (by rw[show p=_ from j];exact am.1)⟩;have i:H∈params:=by have:=mm (f:=(·.1))<|mem_of_lookup a1;rw[V]at this;exact this
 have L:=p5 (Q H i).1;refine⟨as,L.1,L.2,.inl ⟨(Q H i).2,am.1,_,U,?_⟩⟩;show(params.zip D).reverse.lookup H=I a2;rw[acE (by rw[V];exact ca)];exact a1;have L:=p5 (d _<|mem_of_lookup bv).1.1;exact⟨as,L.1,L.2,.inr ⟨.inr bv,r,ap,(M H r ap).1,cs.keeps F⟩⟩
def eV.wide{t:aq}(i:eV C g b d l):∃h,l.heap.get? b=I h:=by obtain⟨x,j,f,k⟩:=i.at';exact⟨_,f⟩
def cu.alive(q:cu C h a l J)(x:bh C f r k J)(i:∀p∈a,∃d,J.heap.get? p=I d)(B:l.heap.get? p=I d):∃j,J.heap.get? p=I j:=by by_cases y:C.T p;obtain⟨j,m,D⟩:=x.cA p<|x.aT p y;exact⟨j,m⟩;by_cases n:p∈a;exact i p n;exact q.all p d B y n
def sz(c:aE->Prop)(l:ax)(i:List (aE×List aa)):Prop:=∀a∈i,∃x b,l.heap.get? a.1=I ⟨.type "list",ag,.seq ⟨x⟩ b,#[]⟩/\RzL c l.heap x a.2
def sz.keep(n:sz c l i)(k:∀a d,(¬c a\/a∈i.map (·.1))->l.heap.get? a=I d->J.heap.get? a=I d):sz c J i:=λt ao=>by obtain⟨x,q,f,w⟩:=n t ao;exact⟨x,q,k _ _ (.inr<|mm ao) f,w.mono λa d j g=>k a d (.inl j) g⟩
theorem sz.more(j:sz c l i)(k:∀a d,l.heap.get? a=I d->Y a->c a):sz Y l i:=λn ao=>by obtain⟨x,g,f,w⟩:=j n ao;exact⟨x,g,f,w.more k⟩
def aX.forget(ah:aX C g f σ h i)(ao:σ.pure=ab):aX C g f σ [] i:=by
 have E:∀D k,σ.lookup D=I (.own k)->False:=λD k B=>by have:=bZ.mp ao _<|mem_of_lookup B;cases this
 have gA:∀p,(g.grow []).X p->(g.grow h).X p:=λp q=>q.elim .inl λN=>by cases N
 have k:=ah.ok.loc;refine⟨⟨ah.good.handled,ah.good.depth,ah.good.units,ah.good.guards,λA F=>ah.good.cA A<|gA A F,λA H=>.inl<|ah.aT A H,ah.good.ok,ah.good.tok⟩,⟨ah.ok.sc,ah.ok.glob,ah.ok.blt,λA H=>.inl<|ah.aT A H,ah.ok.own,ah.ok.cells,λD d B=>?_,?_⟩,ah.keys,λA n=>(by cases n),λD k B=>(E D k B).elim,λD K k j A B J J J=>(E D k B).elim,ah.aT,ah.bJ,ah.cI⟩;obtain⟨M,A,L⟩:=ah.ok.names D d B;exact⟨M,A,L.less gA⟩;exact⟨k.kind,k.ns,k.cell,k.apart,k.e1,λA K=>.inl<|ah.bJ A K,k.hI,k.jt,λG A B=>⟨(k.dx G A B).1,(k.dx G A B).2.1,.inl<|ah.cI G A B⟩,k.pin⟩
def b2.forget(e:b2 C a [] m l J):cu C a [] l J:=e.bx.cut (λk d=>d) λp n=>.inr ((e.new p n).resolve_left λx=>by cases x)
def aX.f9(ah:aX C (g.grow m) b σ [] l)(h:∀i,C.T i->g.X i)(x:∀i,g.Y i->g.X i)(k:∀n i,g.env.cells.lookup n=I i->g.X i):aX C g b σ [] l:=(ah.ql.drop h x k).sim ⟨ah.good.handled,ah.good.depth,ah.good.units,ah.good.guards,λi p=>ah.good.cA i<|p.elim (λd=>.inl<|.inl d) .inr,λi r=>.inl<|h i r,ah.good.ok,ah.good.tok⟩
def aX.aa6{g:bX}(ah:aX C (g.grow b) d σ [] l)(j:∀i∈b,¬g.X i/\¬C.P i)(h:∀i,C.T i->g.X i)(x:∀i,g.Y i->g.X i)(k:∀n i,g.env.cells.lookup n=I i->g.X i)(st:dF C b l J)(y:∀i∈b,∃E,J.heap.get? i=I E):aX C (g.grow b) d σ [] J:=by have A:ig C (g.grow b) b:=⟨λp=>(j _ p).1<|x _ ah.ok.loc.e1,λD i f p=>(j i p).1<|k D i f,λi p=>.inr p⟩;refine(ah.ql.only A (λi B p=>by cases p) st).sim ?_;exact ah.good.bx (c:=g.grow b) (st.bx (gV:=b) λB q=>q) λi p B=>⟨λr=>(j i p).1<|h i r,y i p⟩
def nB{g:bX}:g.grow []=g:=by unfold bX.grow;have:(λi=>g.X i\/i∈([]:List aE))=g.X:=funext λi=>propext ⟨λq=>q.elim id λx=>(by cases x),.inl⟩;rw[this]
def aX.Aa(ah:aX C g d σ [] l)(t:g.X i)(bW:¬C.T i)(f:¬g.Y i)(D:∀B,g.env.cells.lookup B≠I i)(st:dF C [i] l J)(y:∃F,J.heap.get? i=I F):aX C g d σ [] J:=by
 have h:g.grow [i]=g:=by unfold bX.grow;have:(λp=>g.X p\/p∈[i])=g.X:=funext λp=>propext ⟨λq=>q.elim id λx=>by rw[cm]at x;exact x▸t,.inl⟩;rw[this]
 have A:ig C g [i]:=⟨λn=>by rw[cm]at n;exact f<|n▸ah.ok.loc.e1,λB p E n=>by rw[cm]at n;exact D B<|n▸E,λp n=>by rw[cm]at n;exact n▸t⟩;have j:nk C (g.grow [i]) d σ [] l:=by rw[h];exact ah.ql
 have r:=j.only (by rw[h];exact A) (λp k n=>by cases n) st;rw[h]at r;refine r.sim<|ah.good.bx (c:=g) (st.bx (gV:=[i]) λk q=>q) λp n k=>?_;rw[cm]at n;subst n;exact⟨bW,y⟩
end
noncomputable def Lz{n:Type}(s:Nat->Nat->Bool):KasT n->n|.ret c=>c|.ask y b k=>Lz s<|k<|s y b
noncomputable def oi{e:Type}(f:Nat)(r:e->Prop):KasT e->Prop|.ret c=>r c|.ask y d k=>y<f/\d<f/\∀p,oi f r<|k p
theorem oi.bind{c l:Type}{m:c->Prop}{q:l->Prop}{s:c->KasT l}(g:∀a,m a->oi n q (s a)):∀{r:KasT c},oi n m r->oi n q (r.bind s)|.ret a=>@λe=>g a e|.ask y d k=>@λe=>⟨e.1,e.2.1,λp=>oi.bind g<|e.2.2 p⟩
theorem oi.run{a:Type}{r:a->Prop}:∀{t:KasT a},oi d r t->r (Lz s t)|.ret c=>@λe=>e|.ask y b k=>@λe=>oi.run (t:=k<|s y b)<|e.2.2 _
def ve(y:Nat)(s:Array Nat):Prop:=s.toList.Perm<|bO y
def ve.at(j:ve y s)(a:0<y)(b:Nat):s.getD b 0<y:=by
 by_cases g:b<s.size;have:s.getD b 0∈s.toList:=by simp[afp,g]
 exact ee.mp<|j.mem_iff.mp this;simp[afp,g,a]
section
variable{n:Nat}{p:Array Nat}
def ve.rev(a:ve n p)(y b:Nat):ve n (kas_rev p y b):=(Array.perm_iff_toList_perm.mp<|mirror_perm p y b _).trans a
end
section
variable{prog:n'}{w:a4}{A:dI}{s:ax}{X:aE->Prop}{bl:List aq}{bP:List (Nat×Nat)}
end
noncomputable def p0:aa->aa->Option Bool|.none,.none=>I ab|.bool i,.bool p=>I (i==p)|.int i,.int p=>I (i==p)|.float i,.float p=>if eJ i p==I qI then I ab else ag|.str i,.str p=>I (i==p)|_,_=>ag
noncomputable def j4(s:aa->aa->Option Bool):List aa->List aa->Option Bool|[],[]=>I ab|a::c,p::d=>(s a p).bind λk=>(j4 s c d).map λw=>k&&w|_,_=>ag
noncomputable def dQ:Nat->aa->aa->Option Bool|n+1,.list i,.list p=>if i.length==p.length then j4 (dQ n) i p else I au|n+1,.tuple i,.tuple p=>if i.length==p.length then j4 (dQ n) i p else ag|_,i,p=>p0 i p
def nx(m:aa):List aa->Option Nat|[]=>I 0|a::b=>(dQ 8 a m).bind λk=>(nx m b).map λy=>if k then y+1 else y
def lB(m:aa):aa->Option Bool
 |.list a=>(nx m a).map λ(y:Nat)=>y !=0
 |.tuple a=>(nx m a).map λ(y:Nat)=>y !=0
 |.dict s=>match m with|.str k=>I ((s.lookup k).isSome)|_=>ag
 |.eb c _=>match m with|.int k=>I (c.contains k)|_=>ag
 |.iX c=>match m with|.int k=>I (c.contains k)|_=>ag
 |_=>ag
noncomputable def od(k:Int):List Int->List aa->Option aa|a::c,d::b=>if k=a then I d else od k c b|_,_=>ag
noncomputable def iv(y:Int):Bool:=decide (y.natAbs<2^1000)
noncomputable def Su(i:Int)(p:Int):iJ->Option aa|.Add=>I (.int<|i+p)|.Sub=>I (.int<|i -p)|.Mult=>if bG (eU i) 100000&&bG (eU p) 100000 then I (.int<|i*p)else ag|.FloorDiv=>if p !=0&&!pv i p then I (.int<|i.fdiv p)else ag|.Mod=>if p !=0 then I (.int<|i.fmod p)else ag|.Div=>if p !=0&&!n_ (d5 (decide (i<0)!=decide (p<0)) i.natAbs p.natAbs)then I (.float<|d5 (decide (i<0)!=decide (p<0)) i.natAbs p.natAbs)else ag|.Pow=>if decide (0<=p)&&!Bc (((eU i:Nat):Int)*p)then I (.int<|i^p.toNat)else ag|.LShift=>if decide (0<=p)&&decide ((eU i:Int)+p<=2^27)then I (.int<|i*2^p.toNat)else ag|.RShift=>if decide (0<=p)then I (.int<|if p>=((eU i:Nat):Int)then(if i<0 then -1 else 0)else i.fdiv (2^p.toNat))else ag|.BitAnd=>I (.int<|GD i p)|.BitOr=>I (.int<|agx i p)|.BitXor=>I (.int<|Pg i p)|_=>ag
noncomputable def Sq(i:UInt64)(p:UInt64):iJ->Option aa|.Add=>I (.float<|da i p)|.Sub=>I (.float<|bU i p)|.Mult=>I (.float<|cz i p)|.Mod=>if !g' p then I (.float (uF i p).2)else ag|.Div=>if !g' p then I (.float<|g_ i p)else ag|_=>ag
def Sr(i:UInt64)(p:Int):iJ->Option aa|.Add=>if iv p then I (.float<|da i<|iI p)else ag|.Sub=>if iv p then I (.float<|bU i<|iI p)else ag|.Mult=>if iv p then I (.float<|cz i<|iI p)else ag|.Div=>if !n_ (iI p)&&!g' (iI p)then I (.float<|g_ i<|iI p)else ag|_=>ag
noncomputable def Sy(i:ar)(p:ar):iJ->Option aa|.Add=>if bG (i.length+p.length) 1000000 then I (.str<|i++p)else ag|_=>ag
noncomputable def Sw(i:List aa)(p:List aa):iJ->Option aa|.Add=>if bG (i.length+p.length) 1000000 then I (.list<|i++p)else ag|_=>ag
noncomputable def Sz(i:List aa)(p:List aa):iJ->Option aa|.Add=>if bG (i.length+p.length) 1000000 then I (.tuple<|i++p)else ag|_=>ag
noncomputable def Sp(i:Bool)(p:Bool):iJ->Option aa|.Sub=>I (.int<|b2i i -b2i p)|_=>ag
def Ss(i:Int)(p:UInt64):iJ->Option aa|.Mult=>if iv i then I (.float<|cz (iI i) p)else ag|_=>ag
noncomputable def Sx(i:ar)(p:Int):iJ->Option aa|.Mult=>if decide (p<=1000)&&decide (-1000<=p)&&bG i.length 1000 then I (.str<|Txt.mul i p)else ag|_=>ag
noncomputable def Sv(i:List aa)(p:Int):iJ->Option aa|.Mult=>if decide (p<=1000)&&decide (-1000<=p)&&bG i.length 1000 then I (.list (fb p.toNat i).flatten)else ag|_=>ag
def bu(c:iJ):aa->aa->Option aa|.int i,.int p=>Su i p c|.float i,.float p=>Sq i p c|.float i,.int p=>Sr i p c|.str i,.str p=>Sy i p c|.list i,.list p=>Sw i p c|.tuple i,.tuple p=>Sz i p c|.bool i,.bool p=>Sp i p c|.int i,.float p=>Ss i p c|.str i,.int p=>Sx i p c|.list i,.int p=>Sv i p c|_,_=>ag
noncomputable def Io:iJ->aa->aa->Option aa|.Add,.int i,.int p=>I (.int<|i+p)|.Sub,.int i,.int p=>I (.int<|i -p)|.FloorDiv,.int i,.int p=>if p !=0&&!pv i p then I (.int<|i.fdiv p)else ag|_,_,_=>ag
noncomputable def NX:UnaryOp->aa->Option aa|.USub,.int i=>I (.int<|-i)|.Invert,.int i=>I (.int<|agw i)|_,_=>ag
noncomputable def isNone:aa->Option Bool|.none=>I ab|.str _=>I au|.int _=>I au|.list _=>I au|_=>ag
def hh:qJ->aa->aa->Option Bool|.Lt,.int i,.int p=>I (decide (i<p))|.LtE,.int i,.int p=>I (decide (i<=p))|.Gt,.int i,.int p=>I (decide (p<i))|.GtE,.int i,.int p=>I (decide (p<=i))|.Lt,.float i,.float p=>I (eJ i p==I lq)|.LtE,.float i,.float p=>I (eJ i p==I lq||eJ i p==I qI)|.Eq,.float i,.float p=>I (eJ i p==I qI)|.Eq,i,p=>dQ 9 i p|.NotEq,i,p=>(dQ 9 i p).map (!·)|.Is,i,.none=>isNone i|.IsNot,i,.none=>(isNone i).map (!·)|.In,i,p=>lB i p|.NotIn,i,p=>(lB i p).map (!·)|_,_,_=>ag
noncomputable def t2:aa->Option Bool|.int i=>I (i !=0)|.bool p=>I p|.list k=>if bG k.length 1000000 then I (!k.isEmpty)else ag|.str m=>if bG m.length 1000000 then I (m.length !=0)else ag|_=>ag
noncomputable def iO(a:Nat)(y:Int):Option Nat:=if decide (-1000000<=y)&&decide (y<=1000000)then qQ y a else ag
def oW(j:0<p):(((p:Nat):Int)!=0)=ab:=by cases p with|zero=>exact absurd j (jZ 0)|succ p=>rfl
def Hx(j:p.natAbs<2^250):pv i p=au:=by
 have y:(if p==0 then 0 else p.natAbs.log2/30+1)<=300:=by split;decide;rename_i q;exact jx<|aC (Nat.div_le_div_right<|c2<|(Gr λf=>q<|beq_iff_eq.mpr<|Int.natAbs_eq_zero.mp f).mpr j) (z:250/30<=299)
 show(decide _&&_)=au;rw[decide_eq_false<|fD.mpr y];rfl
def v8(a:b<y)(p:b<=1000000):iO y ((b:Nat):Int)=I b:=by unfold iO qQ;rw[if_pos (by rw[decide_eq_true (hv.mpr p:((b:Nat):Int)<=(1000000:Nat))];rfl)];exact if_pos (by show(ab&&decide (((b:Nat):Int)<(y:Nat)))=ab;rw[decide_eq_true<|rZ.mpr a];rfl)
def d3:aa->aa->Option aa|.list a,.int y=>(iO a.length y).bind λe=>a[e]?|.tuple a,.int y=>(iO a.length y).bind λe=>a[e]?|.str m,.int y=>(iO m.length y).bind λe=>(m.cps[e]?).map λg=>.str ⟨#[g]⟩|.dict s,.str k=>s.lookup k|.eb d b,.int k=>od k d b|_,_=>ag
noncomputable def oZ:aa->Option (Option Int)|.none=>I ag|.int y=>I (I y)|_=>ag
noncomputable def k8{n:Type}(k:List n)(lo g st:Option Int):List n:=
 let p:=j2 lo g st k.length
 (xV p.1 p.2.1 p.2.2).filterMap (k[·]?)
def o_(i k j r:aa):Option aa:=(oZ k).bind λlo=>(oZ j).bind λg=>(oZ r).bind λst=>
  if st==I 0 then ag else match i with
  |.list m=>if bG m.length 1000000 then I (.list<|k8 m lo g st)else ag
  |.tuple m=>match lo,g,st with|I i,ag,ag=>if decide (1<=i)&&decide (i<=m.length)&&bG m.length 1000000 then I (.tuple<|m.drop i.toNat)else ag|_,_,_=>ag
  |_=>ag
noncomputable def i0{n t:Type}(s:n->Option t):List n->Option (List t)|[]=>I []|a::w=>(s a).bind λm=>(i0 s w).map λb=>m::b
def sy(k:List aa):Option (List ar):=i0 Fy k
def mM:aa->ar->List aa->Option aa
 |.str d,c,[.list k]=>if c==("join":ar)then(sy k).bind λxs=>if JoinOk d xs then I (.str<|GU d xs)else ag else ag
 |.str d,c,[.str b]=>if c==("index":ar)then(match uC d b 0 d.length 1 with
   |i::_=>I<|.int (i:Nat)
   |[]=>ag)else ag
 |.str d,c,[]=>if c==("lower":ar)&&!Pf (xJ d).length then I (.str<|xJ d)else ag
 |.int e,c,[]=>if c==("bit_length":ar)then I (.int<|eU e)else ag
 |_,_,_=>ag
noncomputable def zy:aa->Option Int|.int m=>I m|_=>ag
def oe(k:List aa):Option (List Int):=i0 zy k
noncomputable def mX:List Int->Int|[]=>0|x::w=>x+mX w
noncomputable def kQ:Nat->aa->Option Bi|_,.bool p=>I (.bool p)|_,.int y=>if decide (y.natAbs<2^200)then I (.int y)else ag|n+1,.list k=>(i0 (kQ n) k).map .list|n+1,.tuple k=>(i0 (kQ n) k).map .tuple|_,_=>ag
noncomputable def o'(s:aa->Nat):List aa->Nat|[]=>3|d::w=>s d+2+o' s w
noncomputable def ko:Nat->aa->Nat|n+1,.list k=>o' (ko n) k|n+1,.tuple k=>o' (ko n) k|_,_=>202
noncomputable def eQ(i p g:UInt64):Nat->UInt64|0=>i|1=>p|_=>g
noncomputable def iR:List aa->Option aa|[.list k]=>if bG k.length 1000000 then I (.int k.length)else ag|[.str m]=>if bG m.length 1000000 then I (.int m.length)else ag|[.tuple k]=>if bG k.length 1000000 then I (.int k.length)else ag|_=>ag
noncomputable def Cs:List aa->Option aa|[.str ⟨⟨[g]⟩⟩]=>I (.int g)|_=>ag
noncomputable def yQ:List aa->Option aa|[.int y]=>if decide (0<=y)&&decide (y<0x110000)then I (.str ⟨#[y.toNat]⟩)else ag|_=>ag
def u2:List aa->Option aa|[.list k]=>(kQ 6<|.list k).bind λs=>if bG (ko 6<|.list k) 16000000 then I (.str s.shown)else ag|_=>ag
def Ct:List aa->Option aa|[.list k]=>(oe k).map λxs=>.int (mX xs)|_=>ag
def mB:List aa->Option aa|[.int d,.int p]=>I (.int<|if p>d then p else d)|[.float d,.float p,.float g]=>I (.float<|eQ d p g<|fE (λy e=>eJ (eQ d p g y) (eQ d p g e)==I r6) 2)|_=>ag
def vA:List aa->Option aa|[.int d,.int p]=>I (.int<|if p<d then p else d)|[.float d,.float p,.float g]=>I (.float<|eQ d p g<|fE (λy e=>eJ (eQ d p g y) (eQ d p g e)==I lq) 2)|_=>ag
noncomputable def Hr:List aa->Option aa|[.int i]=>I (.int<|if i<0 then -i else i)|_=>ag
noncomputable def vB:List aa->Option aa
 |[.float a]=>match ia a with|.fin b c f=>I (.int<|xF b c f)|_=>ag
 |_=>ag
noncomputable def yc:List aa->Option aa
 |[.float a]=>match ia a with|.fin b c f=>I (.int<|GL b c f)|_=>ag
 |_=>ag
noncomputable def I6:List aa->Option aa|[.list k]=>if bG k.length 1000000 then I (.tuple k)else ag|_=>ag
noncomputable def I2:List aa->Option aa|[.int i,.int p]=>if p !=0&&!pv i p then I (.tuple [.int<|i.fdiv p,.int<|i.fmod p])else ag|_=>ag
def mE:List (ar×(List aa->Option aa)):=[("len",iR),("ord",Cs),("chr",yQ),("str",u2),("sum",Ct),("max",mB),("min",vA),("abs",Hr),("round",vB),("int",yc),("tuple",I6),("divmod",I2)]
def fJ(s:ar)(q:List aa):Option aa:=(mE.lookup s).bind λe=>e q
set_option genInjectivity false in
structure uW where
 sc:Scope
 params:List Str
 body:List Stmt
 own:List Str
set_option genInjectivity false in
structure jF where
 fns:List (Str×uW)
 oT:List (Str×uW)
 attrs:List Str
 cls:Addr
 hand:Str->List aa->Option aa
 di:Str->List aa->List aa->Option aa
 const:Str->Option aa
 hk:Str->Str->Option aa
noncomputable def dj{n:Type}(i:Option n)(p:Option n):Option n:=match i with|some m=>some m|none=>p
def Hq(i:jF)(b:aa)(m:ar):Option aa:=match b with|.obj g s=>if pq g i.cls&&i.attrs.contains m&&nI (s.map (·.1))then s.lookup m else ag|_=>ag
def tJ(i:jF):b0:={bin:=bu,un:=NX,cmp:=hh,truth:=t2,item:=d3,slice:=o_,attr:=Hq i,en:=mM,call:=λs q=>dj (fJ s q)<|i.hand s q,const:=i.const,aug:=Io,move:=i.di,hk:=i.hk}
def ym(i:jF)(h:b0)(b:Nat)(g:aE)(s:List (ar×aa))(a:ar)(q:List aa):Option aa:=if pq g i.cls&&(s.lookup a).isNone&&nI (s.map (·.1))then(i.oT.lookup a).bind λl=>k9 h l.own l.sc l.params l.body b (.obj g s::q)else ag
def E1(i:jF)(b:Nat)(h:b0):b0:={tJ i with
  en:=λa e q=>match a with|.obj g s=>ym i h b g s e q|a=>mM a e q
  call:=λd q=>dj (fJ d q) (dj (i.hand d q)<|(i.fns.lookup d).bind λl=>k9 h l.own l.sc l.params l.body b q)}
def E0(i:jF)(b:Nat):Nat->b0|0=>tJ i|k+1=>E1 i b<|E0 i b k
section
variable{C:bC}
def aau(g:eU i<=100000)(q:eU p<=100000):Pu i p:=by unfold Pu;intro j;simp only[c0]at j;have e:=j.2;unfold Bc at e;have k:=of_decide_eq_true e;exact absurd k (g8.mpr<|jY (hv.mpr<|ll g q)<|hv.mpr<|show 100000+100000<=bitsLine by decide)
def yf(j:iv y=ab):y.natAbs<2^1023:=du (of_decide_eq_true j)<|ps z z
def abj(i p:Bool):dk C (eK .Sub) (.bool i) (.bool p) (.int<|b2i i -b2i p):=by intro c r y l t d e w m h f q;cases w;cases m;exact sub_bool<|q _ _ ak.tok<|.int _ _
def acw(k:Nat)(i:List aq):((fb k<|i.toArray).foldl (λeo x=>eo++x) #[])=(fb k i).flatten.toArray:=by
 have d:∀(k:Nat)(b:List aq),(fb k<|i.toArray).foldl (λeo x=>eo++x) b.toArray=(b++(fb k i).flatten).toArray:=by
  intro k;induction k with
  |zero=>intro b;simp
  |succ k g=>
   intro b;rw[xw,xr,xw,AY,List.append_toArray,g,i9]
 simpa using d k []
theorem RzL.rep(w:RzL c j x a):∀k:Nat,RzL c j (fb k x).flatten (fb k a).flatten|0=>.nil|k+1=>by rw[xw,xw,AY,AY];exact w.append<|w.rep k
set_option tactic.hygienic true in
def Mf(M:List aa)(y:Int)(H:y<=1000)(N:-1000<=y)(O:M.length<=1000):∀(c:aE->Prop)(r:dI)(k:Nat)(b:ax)(i d:aq),bh C c r k b->Rz c b.heap i (.list M)->Rz c b.heap d (.int y)->∀(h:aq->ax->Prop)(f:aq->ax->Prop),(∀G J x K,ak C b J->b.heap.get? G=ag->J.heap.get? G=I ⟨.type "list",ag,.seq ⟨x⟩ K,#[]⟩->RzL c J.heap x (fb y.toNat M).flatten->h (.ref G) J)->aB (aK C.prog C.w) r (eK .Mult i d) h f b:=by
 intro c r k b i d W R S h f q;cases S;rename_i L;cases R;rename_i G x K Y B p;have D:x.length<=1000:=by rw[p.length];exact O
 have ao:(⟨x⟩:Array aq).size*y.toNat<=1000*1000:=xB D<|OA.mpr H;have Z:(⟨x⟩:Array aq).size<=1000:=D;refine wpAny_binaryOp_repeat_ref (T:="list") (U:="int") z ⟨_,B,rfl⟩ (λJ=>P5 J y L) noFill_list_mul PySem.F.fills_int_mul agR repeat_list PySem.F.slot_int_index.lookup (sh agR (P5 b y L) PySem.F.entry_int_rmul (PySem.F.args_int_rmul_2 _ _) (int___rmul___int_list y L G ⟨x⟩ K) ⟨B,rfl,⟨_,B,rfl⟩,sh PySem.F.slot_list_mul ⟨_,B,rfl⟩ PySem.F.entry_list_mul (PySem.F.args_list_mul_2 _ _) (AutoListH.list___mul___list_int_3 G ⟨x⟩ K y L (by rw[show aia y=(decide (-(2^63:Int)<=y)&&decide (y<(2^63:Int)))from rfl,decide_eq_true<|jY z N,decide_eq_true<|n4 H z];decide) (by exact fD.mpr<|aC ao<|by decide) ?_) ⟨B,?_⟩⟩);unfold Pd;rw[gw];simp only[gt_iff_lt,decide_eq_true_eq];exact fD.mpr (aC ao<|by decide);have V:(afR (λeo j=>eo++j) #[]<|fb (if(⟨x⟩:Array aq).isEmpty=ab then 0 else y.toNat) (⟨x⟩:Array aq))=(fb y.toNat x).flatten.toArray:=by
  split;rename_i P;have:x=[]:=by simpa using P
  subst this;have:∀k:Nat,(fb k ([]:List aq)).flatten=[]:=λk=>by simp
  rw[this];rfl;exact acw y.toNat x
 rw[V];exact q _ _ _ _ (ak.push (ey:=b.toks)) (gJ _) (dE _ rfl)<|(W.fR ak.push p).rep _
def abd(i:List aa)(y:Int)(b:y<=1000)(j:-1000<=y)(e:i.length<=1000):dk C (eK .Mult) (.list i) (.int y) (.list (fb y.toNat i).flatten):=by intro c r k G H d F w B h f q;exact Mf i y b j e c r k G H d F w B h f λL J I M K p t D=>q _ _ K<|.list (F.gm p).2.2 t D
set_option tactic.hygienic true in
def Me(L M:List aa)(V:L.length+M.length<=1000000):∀(c:aE->Prop)(r:dI)(y:Nat)(i:ax)(t d:aq),bh C c r y i->Rz c i.heap t (.list L)->Rz c i.heap d (.list M)->∀(k:aq->ax->Prop)(f:aq->ax->Prop),(∀K J x T,ak C i J->i.heap.get? K=ag->J.heap.get? K=I ⟨.type "list",ag,.seq ⟨x⟩ T,#[]⟩->RzL c J.heap x (L++M)->k (.ref K) J)->aB (aK C.prog C.w) r (eK .Add t d) k f i:=by
 intro c r y i t d R N O k f q;cases N;rename_i K x T W F p;cases O;rename_i Y j Z S B D;have G:=p.length;have H:=D.length;refine PySem.P.add_list F B ?_ (by show x.length+j.length<=_;rw[gw,G,H];exact aC V z);have U:(⟨x⟩:Array aq)++(⟨j⟩:Array aq)=(x++j).toArray:=by simp
 rw[U];exact q _ _ _ _ (ak.push (ey:=i.toks)) (gJ _) (dE _ rfl)<|(R.fR ak.push p).append<|R.fR ak.push D
def aa8(i p:List aa)(j:i.length+p.length<=1000000):dk C (eK .Add) (.list i) (.list p) (.list<|i++p):=by intro c r y H I d e w D G f q;exact Me i p j c r y H I d e w D G f λk J K M L B t F=>q _ _ L<|.list (e.gm B).2.2 t F
set_option tactic.hygienic true in
def aa9(i L:List aa)(T:i.length+L.length<=1000000):dk C (eK .Add) (.tuple i) (.tuple L) (.tuple<|i++L):=by
 intro Y r y P ab Z M w J W V q;have k:=w;have K:=J;cases w;rename_i N x O U t p;cases J;rename_i H c I j B d;have R:=p.length;have S:=d.length;have f:(⟨x⟩:Array aq)++(⟨c⟩:Array aq)=(x++c).toArray:=by simp
 by_cases D:x=[];have:i=[]:=by subst D;cases p;rfl
 subst this;exact PN ⟨_,t,rfl⟩ ⟨_,B,rfl⟩ PW PZ Pr Pq (Pm _ _) (tuple_addW0 N H ⟨x⟩ ⟨c⟩ O I ag ag #[] #[]<|by simp[D]) ⟨t,B,q _ _ (ak.refl P) K⟩;by_cases G:c=[];have:L=[]:=by subst G;cases d;rfl
 subst this;exact PN ⟨_,t,rfl⟩ ⟨_,B,rfl⟩ PW PZ Pr Pq (Pm _ _) (tuple_addW1 N H ⟨x⟩ ⟨c⟩ O I ag ag #[] #[] (by simpa using D)<|by simp[G]) ⟨t,B,q _ _ (ak.refl P)<|by simpa using k⟩;refine PN ⟨_,t,rfl⟩ ⟨_,B,rfl⟩ PW PZ Pr Pq (Pm _ _) (tuple_addW2 N H ⟨x⟩ ⟨c⟩ O I ag ag #[] #[] (by simpa using D) (by simpa using G) (by show x.length+c.length<=_;rw[gw,p.length,d.length];exact aC T z)) ⟨t,B,?_⟩;rw[f];exact q _ _ (ak.push (ey:=P.toks))<|.tuple M.fresh (dE _ rfl)<|(M.fR ak.push p).append<|M.fR ak.push d
def abe(i:ar)(y:Int)(b:y<=1000)(j:-1000<=y)(e:i.length<=1000):dk C (eK .Mult) (.str i) (.int y) (.str<|Txt.mul i y):=by intro c r k l t d B w p h f q;cases w;cases p;exact hO (bM l.toks) (SB.mul (mulOk_of 1000 1000 e (by exact b) (by exact jY (by decide) j) z z) λx k m=>q _ _ (ak.tok m)<|.str _ _)
def oY(c:w=d)(j:dk C s i p w):dk C s i p d:=c▸j
def h5[Decidable g](j:(if g then I m else ag)=I d)(k:g->dk C s i p m):dk C s i p d:=(cj j).2▸k (cj j).1
def yL:∀c i p d,bu c i p=I d->dk C (eK c) i p d:=by
 intro c i p d j;cases i<;>try exact nS j
 all_goals cases p<;>try exact nS j
 all_goals cases c<;>try exact nS j
 exact oY (aS j)<|abj _ _;exact oY (aS j)<|aa7 _ _;exact oY (aS j)<|abi _ _;exact h5 j λf=>abc _ _<|aau (d0 (aM f).1)<|d0 (aM f).2;exact h5 j λf=>abk _ _ (bne_iff_ne.mp (aM f).1)<|ks (aM f).2;exact h5 j λf=>abb _ _<|bne_iff_ne.mp f;exact h5 j λf=>abg _ _ (of_decide_eq_true (aM f).1)<|ks (aM f).2;exact h5 j λf=>aba _ _ (of_decide_eq_true (aM f).1)<|of_decide_eq_true (aM f).2;exact h5 j λf=>abh _ _<|of_decide_eq_true f;exact oY (aS j)<|abf _ _;exact oY (aS j)<|abl _ _;exact oY (aS j)<|aa_ _ _;exact h5 j λf=>aa' _ _ (bne_iff_ne.mp (aM f).1)<|ks (aM f).2;exact h5 j λf=>WC _ _<|yf f;exact h5 j λf=>Ww _ _<|yf f;exact h5 j λf=>WE _ _<|yf f;exact h5 j λf=>WB _ _<|yf f;exact h5 j λf=>Wy _ _ (ks (aM f).1)<|ks (aM f).2;exact oY (aS j)<|Wv _ _;exact oY (aS j)<|WD _ _;exact oY (aS j)<|WA _ _;exact h5 j λf=>Wx _ _<|ks f;exact h5 j λf=>Wz _ _<|ks f;exact h5 j λf=>abe _ _ (of_decide_eq_true (aM (aM f).1).1) (of_decide_eq_true (aM (aM f).1).2)<|d0 (aM f).2;exact h5 j λf=>ado _ _<|d0 f;exact h5 j λf=>aa9 _ _<|d0 f;exact h5 j λf=>abd _ _ (of_decide_eq_true (aM (aM f).1).1) (of_decide_eq_true (aM (aM f).1).2)<|d0 (aM f).2;exact h5 j λf=>aa8 _ _<|d0 f
set_option tactic.hygienic true in
def Jc:∀F p q,bu .Add F p=I (.list q)->∀(c:aE->Prop)(r:dI)(y:Nat)(g:ax)(t d:aq),bh C c r y g->Rz c g.heap t F->Rz c g.heap d p->∀(i:aq->ax->Prop)(f:aq->ax->Prop),(∀k J x K,ak C g J->g.heap.get? k=ag->J.heap.get? k=I ⟨.type "list",ag,.seq ⟨x⟩ K,#[]⟩->RzL c J.heap x q->i (.ref k) J)->aB (aK C.prog C.w) r (eK .Add t d) i f g:=by
 intro F p q j;obtain⟨B,D,rfl,rfl,G,rfl⟩:∃B D,F=.list B/\p=.list D/\B.length+D.length<=1000000/\B++D=q:=by
  cases F<;>try exact nS j
  all_goals cases p<;>try exact nS j
  case list.list B D=>have H:=cj j;exact⟨B,D,rfl,rfl,d0 H.1,aa.list.inj H.2⟩
  case int.int=>exact aa.noConfusion<|aS j
  case float.float=>exact aa.noConfusion<|aS j
  all_goals exact aa.noConfusion (cj j).2
 exact Me _ _ G
def Ir:∀k i p d,Io k i p=I d->dk C (inplaceOp k) i p d:=by
 intro k i p d j;cases k<;>try exact nS j
 all_goals cases i<;>try exact nS j
 all_goals cases p<;>try exact nS j
 exact aS j▸λB r y l t H G w m x f q=>by cases w;cases m;exact AutoIntOps.iadd_0<|q _ _ ak.tok<|.int _ _
 exact aS j▸λB r y l t H G w m x f q=>by cases w;cases m;exact AutoIntOps.isub_0<|q _ _ ak.tok<|.int _ _
 have F:=cj j;have D:=F.1;refine F.2▸λB r y l t H G w m x f q=>?_;cases w;cases m;exact AutoIntOps.ifloordiv_1 (by simpa using(aM D).1) (by rw[ks (aM D).2];simp)<|q _ _ ak.tok<|.int _ _
def NY:∀c i d,NX c i=I d->pO C (Hf c) i d:=by
 intro c i d j;cases c<;>try exact nS j
 all_goals cases i<;>try exact nS j
 exact aS j▸aeH _;exact aS j▸aeI _
inductive su:aa->aa->Bool->Prop
 |none:su .none .none true
 |bool (a b):su (.bool a) (.bool b) (a==b)
 |int (a b):su (.int a) (.int b) (a==b)
 |float (a b) (h:(eJ a b==some qI)=true):su (.float a) (.float b) true
 |str (a b):su (.str a) (.str b) (a==b)
def oC(f:p0 i p=I k):su i p k:=by
 cases i<;>try exact nS f
 all_goals cases p<;>try exact nS f
 exact aS f▸.none;exact aS f▸.bool _ _;exact aS f▸.int _ _;have j:=cj f;exact j.2▸.float _ _ j.1;exact aS f▸.str _ _
inductive x'(n:Nat):aa->aa->Bool->Prop
 |list {l r k} (h:(if l.length==r.length then j4 (dQ n) l r else some false)=some k):x' n (.list l) (.list r) k
 |tuple {l r k} (h:(if l.length==r.length then j4 (dQ n) l r else none)=some k):x' n (.tuple l) (.tuple r) k
 |atom {a b k} (h:p0 a b=some k):x' n a b k
def p1(f:dQ (y+1) i p=I k):x' y i p k:=by
 cases i;case list=>cases p<;>first|exact .list f|exact .atom f
 case tuple=>cases p<;>first|exact .tuple f|exact .atom f
 all_goals exact .atom f
def JQ(w:Rz c j t i)(m:Rz c j t p)(f:p0 i p=I k):k=ab:=by cases oC f with|none=>rfl|float=>rfl|_=>cases w;cases m;exact beq_self_eq_true _
def yB(h:j4 s (i::c) (p::w)=I k):∃d dR,s i p=I d/\j4 s c w=I dR/\(d&&dR)=k:=bK h λd g h=>eH h λdR q h=>⟨d,dR,g,q,h⟩
def RzL.IC{D:Prop}(i:RzL c j f (m::g))(E:RzL c j f d)(k:∀t w A n,Rz c j t m->Rz c j t A->RzL c j w g->RzL c j w n->d=A::n->D):D:=i.cK λt w s q F=>RzL.cV (F▸E) λA n r C B=>k t w A n s r q C B
def RzL.nn{g:Prop}(i:RzL c d x [])(p:RzL c d x j)(k:j=[]->g):g:=i.nK λf=>RzL.nV (f▸p) k
def H_(D:∀t B C k,Rz c g t B->Rz c g t C->s B C=I k->k=ab):∀{d:List aq}{j:List aa}{k:Bool},RzL c g d i->RzL c g d j->j4 s i j=I k->k=ab:=by
 induction i with
 |nil=>exactλB C A=>B.nn C λq=>by subst q;exact(aS A).symm
 |cons m i E=>
  exactλB C A=>B.IC C λt H L n K F q G w=>by subst w;exact(yB A).elim λJ A=>A.elim λdR A=>by rw[<-A.2.2,D _ _ _ _ K F A.1,E q G A.2.1];rfl
def M3(g:Rz c j t (.list k))(m:Rz c j t (.list w)):∃x,RzL c j x k/\RzL c j x w:=by refine g.lK λi x y q dd b3 f=>m.lK λd p s q cp cv b=>?_;obtain rfl:i=d:=ahk<|f.symm.trans b;rw[dd]at cp;cases cp;exact⟨_,b3,cv⟩
def M5(g:Rz c j t (.tuple k))(m:Rz c j t (.tuple w)):∃x,RzL c j x k/\RzL c j x w:=by refine g.tK λi x y q dd b3 f=>m.tK λd p s q cp cv b=>?_;obtain rfl:i=d:=ahk<|f.symm.trans b;rw[dd]at cp;cases cp;exact⟨_,b3,cv⟩
def M6(i:RzL c j x k)(p:RzL c j x w):k.length=w.length:=i.length.symm.trans p.length
def Vp:∀(d:aq)(i p:aa)(k:Bool),Rz c j d i->Rz c j d p->dQ y i p=I k->k=ab:=by
 induction y with
 |zero=>exactλd i p k w m f=>JQ w m f
 |succ y g=>
  intro d i p k w m f;cases p1 f with|list f=>exact(M3 w m).elim λx r=>H_ g r.1 r.2 (by rw[if_pos<|by simp[M6 r.1 r.2]]at f;exact f)|tuple f=>exact(M5 w m).elim λx r=>H_ g r.1 r.2 (gq f).2|atom f=>exact JQ w m f
def JP(w:Rz c j t i)(m:Rz c j t d)(f:p0 i g=I k)(b:p0 d g=I n):k=n:=by
 have ad:i=d:=by cases oC f<;>cases d<;>first|exact nS b|(cases w;cases m;rfl)
 rw[ad,b]at f;exact(aS f).symm
def H9(E:∀t C d J k n,Rz c i t C->Rz c i t d->s C J=I k->s d J=I n->k=n):∀{g:List aq}{j xs:List aa}{k n:Bool},RzL c i g m->RzL c i g j->j4 s m xs=I k->j4 s j xs=I n->k=n:=by
 induction m with
 |nil=>exactλC D B A=>C.nn D λq=>by subst q;exact aS<|B.symm.trans A
 |cons J m F=>
  intro g j xs k n C D B A;induction xs using a8 with
  |nil=>exact nS B
  |cons Q xs=>
   exact C.IC D λt L P K O G q H w=>by subst w;exact(yB B).elim λM B=>B.elim λdR B=>(yB A).elim λti A=>A.elim λN A=>by rw[<-B.2.2,<-A.2.2,E _ _ _ _ _ _ O G B.1 A.1,F q H B.2.1 A.2.1]
def Zj{n:Type}{k w:List aa}(j:k.length=w.length)(m:List aa)(i p:n):(if k.length==m.length then i else p)=if w.length==m.length then i else p:=by rw[j]
def Vo:∀(f:aq)(i d m:aa)(k b:Bool),Rz c j f i->Rz c j f d->dQ y i m=I k->dQ y d m=I b->k=b:=by
 induction y with
 |zero=>exactλf i d m k b w s q p=>JP w s q p
 |succ y g=>
  intro f i d m k b w s q p;cases p1 q with
  |@list F xs D q=>
   cases p1 p with
   |@list B D E p=>
    refine(M3 w s).elim λC r=>?_;rw[Zj<|M6 r.1 r.2]at q;by_cases A:(B.length==xs.length)=ab;rw[if_pos A]at q p;exact H9 g r.1 r.2 q p;rw[if_neg A]at q p;exact(aS q).symm.trans<|aS p
   |atom p=>cases oC p
  |tuple q=>
   cases p1 p with|tuple p=>exact(M5 w s).elim λC r=>H9 g r.1 r.2 (gq q).2 (gq p).2|atom p=>cases oC p
  |atom q=>
   cases p1 p with|atom p=>exact JP w s q p|list p=>cases oC q|tuple p=>cases oC q
def YG(e:d≠0)(g:t≠0)(j:uJ l.heap)(n:∀p,h p l):aB c r (isSame (.float m d)<|.float a t) h f l:=by
 show aB c r (ahB (m==a&&!agW m) d t) h f l;unfold ahB;refine x2 ?_;rw[if_neg<|by simp[e,g]];refine x2 ?_;split;exact aY<|n _;refine x2 ?_;split;exact aY<|n _;refine av<|ahY j ?_;first|rw[if_neg h8]|simp only[g7,if_false]
 refine av<|ahY j ?_;first|rw[if_neg h8]|simp only[g7,if_false]
 exact av<|oc<|av<|P7<|aY<|n _
def EqAt.floats(k:d≠0)(g:c≠0)(j:uJ l.heap)(q:(eJ m e==I qI)=true):EqAt r l (.float m d) (.float e c) true:=λi B f h n=>by
 unfold eqBool;refine c6 ?_;refine x2 ?_;split;exact av<|oc<|aY n;refine av<|YG k g j λp=>?_;induction p using cq with
 |true=>exact aY n
 |false=>
  refine av ?_;have:=ags (prog:=i) (w:=B) (A:=r) (E:=f) (s:=l) (a:=m) (t:=d) (b:=e) (u:=c) (Q:=λc J=>aB (aK i B) r (truthOfDropped c) h f J) (by rw[q];exact uU n);exact this
set_option tactic.hygienic true in
def sG(M:∀i p k P O,y i p=I k->Rz t s.heap P i->Rz t s.heap O p->EqAt A s P O k):∀{n w:List aa}{k:Bool}{x g:List aq},j4 y n w=I k->RzL t s.heap x n->RzL t s.heap g w->∃C:Nat->Bool,(∀j(d:j<x.length)(m:j<g.length),EqAt A s x[j] g[j]<|C j)/\x.length=g.length/\(bO x.length).all C=k:=by
 intro n;induction n with
 |nil=>
  intro w k x g D q B;induction w using a8 with|nil=>cases q;cases B;cases D;exact⟨λR=>ab,λj d=>absurd d<|Nat.not_lt_zero _,rfl,rfl⟩|cons _ _=>cases D
 |cons i n c=>
  intro w k x g D q B;induction w using a8 with
  |nil=>cases D
  |cons p w=>
   cases q;rename_i P x c9 dp;cases B;rename_i O g H J;obtain⟨G,Q,d,m,rfl⟩:=yB D;obtain⟨C,L,N,K⟩:=c m dp J;refine⟨λj=>match j with|0=>G|j+1=>C j,λj E F=>?_,by simp[N],?_⟩;induction j using cN with|zero=>exact M _ _ _ _ _ d c9 H|succ j=>exact L j (by simpa using E) (by simpa using F)
   rw[gx,af1,afH,List.all_map];show(G&&(bO x.length).all C)=_;rw[K]
def hG{X:aE->Prop}{j:cc}(f:j.get? k=I ⟨.type "list",ag,.seq ⟨x⟩ y,#[]⟩):j.IsList k ⟨x⟩:=⟨_,f,rfl,_,rfl⟩
def qk{X:aE->Prop}{j:cc}(f:j.get? k=I ⟨.type "tuple",ag,.seq ⟨x⟩ y,#[]⟩):j.IsTuple k ⟨x⟩:=⟨_,f,rfl,_,rfl⟩
def JR(j:uJ l.heap)(g:p0 i p=I k)(w:Rz c l.heap t i)(m:Rz c l.heap d p):EqAt r l t d k:=by
 cases oC g with
 |none=>cases w;cases m;exact ag8 _
 |bool=>cases w;cases m;exact EqAt.bool_bool _ _
 |int=>cases w;cases m;exact EqAt.int_int _ _ _ _
 |float n f e=>
  cases w;cases m;exact EqAt.floats (by assumption) (by assumption) j e
 |str=>cases w;cases m;exact EqAt.str_str _ _ _ _
set_option tactic.hygienic true in
def JS{G:aE->Prop}:∀{y:Nat}{m:dI}{c:ax}{i p:aa}{k:Bool}{t d:aq},uJ c.heap->m.units+y<qN->dQ y i p=I k->Rz G c.heap t i->Rz G c.heap d p->EqAt m c t d k:=by
 intro y;induction y with
 |zero=>
  exact @λm c i p k t d H E D w F=>JR H D w F
 |succ y P=>
  exact @λm c i p k t d H E D w F=>by
   have O:∀i p k t d,dQ y i p=I k->Rz G c.heap t i->Rz G c.heap d p->EqAt m.in1 c t d k:=λi p k t d R=>P H (cH (cL<|ef m.units 1 y) E) R;have E:m.units<qN:=cH (b_ _ _) o;by_cases B:t=d;subst B;exact Vp _ _ _ _ w F D▸ag8 _;cases p1 D with
   |@list V W Y D=>
    clear ‹dQ _ _ _=_›;cases w;rename_i c9 x T eo dd b3;cases F;rename_i dp g q U cp cv;have B:c9≠dp:=λf=>B<|f▸rfl;by_cases C:(V.length==W.length)=ab;rw[if_pos C]at D;obtain⟨f,K,C,J⟩:=sG (A:=m.in1) (s:=c) O D b3 cv;exact J▸PC B (ag9 (hG (X:=G) dd) (hG (X:=G) cp) C E λS L M=>K S L M);rw[if_neg C]at D;exact aS D▸PC B (ag_ (hG (X:=G) dd) (hG (X:=G) cp) (bne_iff_ne.mpr λf=>C<|beq_iff_eq.mpr<|b3.length.symm.trans<|(show x.length=g.length from f).trans cv.length) E)
   |tuple D=>
    clear ‹dQ _ _ _=_›;cases w;rename_i c9 x T eo dd b3;cases F;rename_i dp g q U cp cv;have B:c9≠dp:=λf=>B<|f▸rfl;obtain⟨f,K,C,J⟩:=sG (A:=m.in1) (s:=c) O (gq D).2 b3 cv;have N:=ag' (qk (X:=G) dd) (qk (X:=G) cp) (A:=m) E λS L M=>K S L M;have Q:((bO<|c_ (⟨x⟩:Array aq).size (⟨g⟩:Array aq).size).all f&&(⟨x⟩:Array aq).size==(⟨g⟩:Array aq).size)=k:=by show((bO<|c_ x.length g.length).all f&&x.length==g.length)=k;rw[<-C,agb,J];simp
    rw[Q]at N;exact PC B N
   |atom D=>exact JR H D w F
open Classical in
noncomputable def Du(c:aE->Prop)(j:cc)(m:aa)(b:aq):Bool:=decide (∃d,Rz c j b d/\dQ 8 d m=I ab)
set_option tactic.hygienic true in
def Hs(F:uJ s.heap)(K:A.units+8<qN)(O:Rz c s.heap p i):∀{f:List aa}{g:Nat}{b:List aq},nx i f=I g->RzL c s.heap b f->(∀E∈b,EqAt A s E p<|Du c s.heap i E)/\b.countP (Du c s.heap i)=g:=by
 intro f;induction f with
 |nil=>
  exact @λg b j L=>by cases L;cases j;exact⟨λE B=>(by cases B),rfl⟩
 |cons Q f D=>
  exact @λg b j L=>by
   cases L;rename_i t b w M;obtain⟨k,C,j⟩:=kT j;obtain⟨R,q,rfl⟩:=tq j;obtain⟨J,G⟩:=D q M;have P:Du c s.heap i t=k:=by
    induction k using cq with
    |true=>exact @decide_eq_true _ (afv _) ⟨Q,w,C⟩
    |false=>
     refine @decide_eq_false _ (afv _) ?_;rintro⟨d,N,H⟩;cases Vo _ _ _ _ _ _ w N C H
   refine⟨λE B=>?_,?_⟩;rcases cJ.mp B with rfl|B;rw[P];exact JS F K C w O;exact J E B;rw[afJ,G,P];cases k<;>simp
def RI{x:List aq}:x.any s=(x.countP s !=0):=by
 induction x with
 |nil=>rfl
 |cons t x g=>
  rw[afI,afJ,g];cases s t;simp;simp
def bh.rG(e:bh C c r y l)(j:k<=899):r.units+k<qN:=by exact du (cH (ll (aC (b_ ..)<|c2 e.units) j) z) (show 9900<=qN by decide)
def bh.wK(e:bh C c r y l)(j:k<=898):r.in1.units+k<qN:=by exact du (cH (ll (jx<|aC (b_ ..)<|m9 e.units) j) z) (show 9900<=qN by decide)
def y9(e:bh C c r y l):∀i p k t d,dQ 8 i p=I k->Rz c l.heap t i->Rz c l.heap d p->EqAt r.in1 l t d k:=λi p k t d f=>JS (C.booked _ e.ok) (e.wK z) f
def NR(y:x.length=g.length)(p:(bO x.length).all f=k):((bO<|c_ (⟨x⟩:Array aq).size (⟨g⟩:Array aq).size).all f&&(⟨x⟩:Array aq).size==(⟨g⟩:Array aq).size)=k:=by show((bO<|c_ x.length g.length).all f&&x.length==g.length)=k;rw[<-y,agb,p,beq_self_eq_true,Bool.and_true]
def Ig(b3:RzL c j x k)(cv:RzL c j g w)(y:¬(k.length==w.length)=ab):((⟨x⟩:Array aq).size !=(⟨g⟩:Array aq).size)=ab:=bne_iff_ne.mpr λq=>y<|beq_iff_eq.mpr<|b3.length.symm.trans<|Eq.trans q cv.length
set_option tactic.hygienic true in
def aco(L:bh C c m w f)(F:dQ 9 i p=I k)(M:∀V W,i=.float V->p=.float W->False)(D:Rz c f.heap t i)(E:Rz c f.heap d p):RcAt m f t d k:=by
 replace F:=p1 F;cases F with
 |@list T U Y F=>
  cases D;rename_i c9 Q O eo dd b3;cases E;rename_i dp P q R cp cv;by_cases B:(T.length==U.length)=ab;obtain⟨S,H,B,G⟩:=sG (y9 L) ((if_pos B).symm.trans F) b3 cv;exact G▸ag9 (hG (X:=c) dd) (hG (X:=c) cp) B (L.rG (k:=0) z) (λN J K=>H N J K);exact aS ((if_neg B).symm.trans F)▸ag_ (hG (X:=c) dd) (hG (X:=c) cp) (Ig b3 cv B) (L.rG (k:=0) z)
 |tuple F=>
  cases D;rename_i c9 Q O eo dd b3;cases E;rename_i dp P q R cp cv;obtain⟨S,H,B,G⟩:=sG (y9 L) (gq F).2 b3 cv;exact NR B G▸ag' (qk (X:=c) dd) (qk (X:=c) cp) (A:=m) (L.rG (k:=0) z) (λN J K=>H N J K)
 |atom F=>
  replace F:=oC F;cases F with|none=>cases D;cases E;exact RcAt.none_none|bool=>cases D;cases E;exact RcAt.bool_bool _ _|int=>cases D;cases E;exact RcAt.int_int _ _ _ _|float=>exact(M _ _ rfl rfl).elim|str=>cases D;cases E;exact RcAt.str_str _ _ _ _
set_option tactic.hygienic true in
def acn(M:bh C c x al m)(G:dQ 9 i p=I k)(D:Rz c m.heap t i)(F:Rz c m.heap d p)(q:y (.bool<|!k) m):aB (aK C.prog C.w) x (si .NotEq t d) y f m:=by
 suffices RcNeAt x m t d (!k)\/aB (aK C.prog C.w) x (si .NotEq t d) y f m from this.elim (λG=>G C.prog C.w f y q) id
 replace G:=p1 G;cases G with
 |@list aa ac V G=>
  left;clear q;cases D;rename_i c9 T P eo dd b3;cases F;rename_i dp S R U cp cv;by_cases B:(aa.length==ac.length)=ab;obtain⟨Y,J,B,H⟩:=sG (y9 M) ((if_pos B).symm.trans G) b3 cv;exact H▸RcNeAt.lists (hG (X:=c) dd) (hG (X:=c) cp) B (M.rG (k:=0) z) (λO K L=>J O K L);exact aS ((if_neg B).symm.trans G)▸RcNeAt.lists_lengths (hG (X:=c) dd) (hG (X:=c) cp) (Ig b3 cv B) (M.rG (k:=0) z)
 |tuple G=>
  left;clear q;cases D;rename_i c9 T P eo dd b3;cases F;rename_i dp S R U cp cv;obtain⟨Y,J,B,H⟩:=sG (y9 M) (gq G).2 b3 cv;exact NR B H▸RcNeAt.tuples (qk (X:=c) dd) (qk (X:=c) cp) (A:=x) (M.rG (k:=0) z) (λO K L=>J O K L)
 |atom G=>
  replace G:=oC G;cases G with
  |none=>left;cases D;cases F;exact RcNeAt.none_none
  |bool=>left;cases D;cases F;exact RcNeAt.bool_bool _ _
  |int=>left;cases D;cases F;exact RcNeAt.int_int _ _ _ _
  |float V W N=>
   right;cases D;cases F;have:eJ _ _=_:=bL N;exact ah9 (by rw[this];exact q)
  |str=>left;cases D;cases F;exact RcNeAt.str_str _ _ _ _
def Wk{J:aE->Prop}{K:cc}{x:ar}{b:List e6}{s:List (ar×aa)}(q:c4 J K b s):match b.findIdx? (·.key.isStr x)with
  |some j=>∃B f d,b[j]?=some B/\B.key=.str x f/\s.lookup x=some d/\Rz J K B.val d
  |none=>s.lookup x=none:=by
 induction q using c4.ind with
 |n=>rfl
 |@c l a f k b d s w p g=>
  rw[List.findIdx?_cons];have m:(ahl a f).isStr x=(a==x):=rfl;by_cases B:a=x;subst B;simp only[m,beq_self_eq_true,if_true];exact⟨_,f,d,rfl,rfl,by simp,w⟩;have D:(a==x)=au:=by simpa using B
  have A:(x==a)=au:=by simpa usingλq=>B q.symm
  simp only[m,D,g7,if_false];induction C:b.findIdx? (·.key.isStr x)using b7 with
  |none=>
   rw[C]at g;simp only[Option.map_none];rw[ep,A];exact g
  |some j=>
   rw[C]at g;obtain⟨E,nh,bA,F,G,H,I⟩:=g;simp only[Bb];exact⟨E,nh,bA,by simpa using F,G,by rw[ep,A];exact H,I⟩
def c4.strs{X:aE->Prop}{h:cc}{bf:List e6}{cR:List (ar×aa)}(q:c4 X h bf cR):bf.all (λe=>uP e.key)=ab:=by induction q using c4.ind with|n=>rfl|c r rs tg=>exact tg
def JB{X:aE->Prop}{P:dI}{l:ax}{H:aE}{b:List e6}{c:Nat}{F:List (ar×aa)}{h:ar}{S:iL}(D:l.heap.get? H=some ⟨.type "dict",none,.dict ⟨b⟩ c,#[]⟩)(N:c4 X l.heap b F){M:Option aq->ax->Prop}{R:aq->ax->Prop}(q:∀L,(match F.lookup h with|some d=>∃O,L=some O/\Rz X l.heap O d|none=>L=none)->M L {l with toks:=l.toks+1}):aB (aK C.prog C.w) P (G4 H<|.str h S) M R l:=by
 refine c6<|av<|wpAny_pyHash_str ?_;have n:({l with toks:=l.toks+1}:ax).heap.get? H=some ⟨.type "dict",none,.dict ⟨b⟩ c,#[]⟩:=D;have g:=Wk (x:=h) N;refine av<|c6<|av<|ahP n rfl ?_;dsimp only;have j:((⟨b⟩:Array e6).all λf=>uP f.key)=ab:=by simpa using N.strs
 rw[if_pos j];unfold foundByValue;have p:(⟨b⟩:Array e6).findIdx? (·.key.isStr h)=b.findIdx? (·.key.isStr h):=by simp
 rw[p];induction G:b.findIdx? (·.key.isStr h)using b7 with
 |none=>
  rw[G]at g;refine aY<|aY ?_;exact q none (by rw[g])
 |some y=>
  rw[G]at g;obtain⟨f,T,d,I,J,K,k⟩:=g;have B:(⟨b⟩:Array e6)[y]?=some f:=by simpa using I
  dsimp only;rw[B];refine av<|ahQ n rfl ?_;rw[J];refine av<|wpAny_eqBool_str ?_;refine av<|ahQ n rfl ?_;rw[if_neg<|by simp];rw[if_pos<|by simp];refine av<|oc<|aY ?_;refine av<|ahP n rfl<|aY ?_;rw[B];exact q (some f.val) (by rw[K];exact⟨_,rfl,k⟩)
def Jr{n:Nat}(F:(i==lz)=au)(p:l.heap.get? i=some ⟨.type "dict",none,.dict ⟨b⟩ c,#[]⟩)(G:c4 X l.heap b e)(q:h (e.lookup g).isSome {l with toks:=l.toks+1}):aB (aK C.prog C.w) k (xO (.ref i)<|.str g j) h f l:=by
 have D:l.TypeIs (.ref i) "dict":=⟨_,p,rfl⟩;refine c6 ?_;refine av<|P_ D xW.lookup ?_;show aB _ _ (if(some (qK "dict.__contains__")==some dv)=ab then _ else _) _ f l;rw[if_neg (by rw[ahv];exact h8)];refine av<|ahO (name:=bp "__contains__") D xW<|Hi xW D ahx ?_<|ahq _ _;show aB _ _ (G4 i (.str g j)>>=_) _ _ l;refine av<|JB (X:=X) p G λI B=>?_;induction y:e.lookup g using b7 with
 |none=>
  rw[y]at B q;subst B;show aB _ _ (agt i (.str g j)>>=_) _ _ _;exact av<|wpAny_pendingKey_other F<|aY ⟨_,rfl,uU q⟩
 |some d=>
  rw[y]at B q;obtain⟨J,rfl,H⟩:=B;show aB _ _ (ret<|.bool ab) _ _ _;exact aY ⟨_,rfl,uU q⟩
def Xj(n:l.heap.get? i=I ⟨.type "dict",ag,.dict ⟨b⟩ c,#[]⟩)(G:c4 X l.heap b e)(y:e.lookup g=I d)(q:∀F,Rz X l.heap F d->h F {l with toks:=l.toks+1}):aB (aK C.prog C.w) k (pB (.ref i)<|.str g j) h f l:=by
 have B:l.TypeIs (.ref i) "dict":=⟨_,n,rfl⟩;refine c6 ?_;first|refine av (aY ?_)|skip
 refine av<|ahX B z ?_;refine av<|ahN (name:=bp "__getitem__") B Hb<|Hi Hb B entry_dict_getitem ?_<|args_dict_getitem _ _;show aB _ _ (G4 i (.str g j)>>=_) _ _ l;refine av<|JB (X:=X) n G λH D=>?_;rw[y]at D;obtain⟨F,rfl,p⟩:=D;exact aY ⟨F,rfl,aY<|q F p⟩
def Ik{p:aE->Prop}{j:cc}{k:Int}:∀{c:List Int}{x:List aq}{b:List aa},c.length=x.length->RzL p j x b->(match od k c b with
  |some d=>∃t,pE (c.zip x) k=some t/\Rz p j t d
  |none=>pE (c.zip x) k=none)/\(pE (c.zip x) k).isSome=c.contains k:=by
 intro c
 induction c with
 |nil=>
  exactλ_ _=>⟨rfl,rfl⟩
 |cons i c f=>
  intro x b y q;induction x using a8 with
  |nil=>cases y
  |cons t x=>
   induction b using a8 with
   |nil=>exact q.cN
   |cons d b=>
    exact q.TM λw n=>by
     have g:=f (agj y) n;by_cases m:k=i;have s:od k (i::c) (d::b)=some d:=if_pos m;have l:pE ((i::c).zip<|t::x) k=some t:=by subst m;simp[pE]
     rw[s,l];exact⟨⟨t,rfl,w⟩,by subst m;simp⟩;have s:od k (i::c) (d::b)=od k c b:=if_neg m;have l:pE ((i::c).zip<|t::x) k=pE (c.zip x) k:=by have:¬i=k:=λA=>m A.symm;simp[pE,this]
     rw[s,l];exact⟨g.1,by rw[g.2];simp[m]⟩
def K7{prog:n'}{w:a4}{j:cc}(g:hU b c x)(p:c.Nodup)(t:j.get? i=I ⟨.type "dict",ag,.dict ⟨b⟩ y,#[]⟩):j.IntMap i (pE<|c.zip x):=(g.dictOf (prog:=prog) (w:=w) p t).dictOf.mapOf.intMap
def Js(g:l.heap.IntMap i b)(q:h (b k).isSome {l with toks:=l.toks+1}):aB (aK C.prog C.w) e (xO (.ref i)<|.int k r) h c l:=by
 refine c6 ?_;refine av<|P_ g.typeIs xW.lookup ?_;show aB _ _ (if(some (qK "dict.__contains__")==some dv)=ab then _ else _) _ c l;rw[if_neg (by rw[ahv];exact h8)];refine av<|ahO (name:=bp "__contains__") g.typeIs xW<|Hi xW g.typeIs ahx ?_<|ahq _ _;show aB _ _ (G4 i (.int k r)>>=_) _ _ l;refine av<|wpAny_dictGet_int g ?_;induction y:b k using b7 with
 |none=>
  rw[y]at q;show aB _ _ (agt i (.int k r)>>=_) _ _ _;exact av<|wpAny_pendingKey_int<|aY ⟨_,rfl,uU q⟩
 |some d=>
  rw[y]at q;show aB _ _ (ret<|.bool ab) _ _ _;exact aY ⟨_,rfl,uU q⟩
inductive u':aa->Bool->Prop
 |none:u' .none true
 |str {x}:u' (.str x) false
 |int {i}:u' (.int i) false
 |list {l}:u' (.list l) false
def Le(j:isNone i=I k):u' i k:=by
 cases i<;>try exact nS j
 exact aS j▸.none;exact aS j▸.int;exact aS j▸.str;exact aS j▸.list
def Ul(j:isNone i=I k):hQ C .Is i .none k:=by intro c r y l t d e w m b f q;cases m;cases Le j with|none=>cases w;exact wpAny_is_self rfl (q l<|ak.refl l)|_=>cases w;exact wpAny_is_plain rfl<|q l<|ak.refl l
def Um(j:isNone i=I k):hQ C .IsNot i .none (!k):=by intro c r y l t d e w m b f q;cases m;cases Le j with|none=>cases w;exact wpAny_isNot_self rfl (q l<|ak.refl l)|_=>cases w;exact wpAny_isNot_plain rfl<|q l<|ak.refl l
def H'(w:g.countP s=c):(⟨g⟩:Array aq).any s=(c !=0):=by show g.toArray.any _=_;rw[List.any_toArray,RI,w]
set_option tactic.hygienic true in
def K9(R:lB i ac=I k):hQ C .In i ac k/\hQ C .NotIn i ac (!k):=by
 have M:∀{c:aE->Prop}{r:dI}{x:Nat}{j:ax}{t B:aq},bh C c r x j->Rz c j.heap t i->Rz c j.heap B ac->∀(p:aq->ax->Prop)(f:aq->ax->Prop),
   ((∀J,ak C j J->p (.bool k) J)->aB (aK C.prog C.w) r (si .In t B) p f j)/\((∀J,ak C j J->p (.bool<|!k) J)->aB (aK C.prog C.w) r (si .NotIn t B) p f j):=by
  intro c r x j t B V F G p f
  have T:=C.booked _ V.ok
  cases ac<;>try exact nS R
  obtain⟨ab,L,rfl⟩:=tq R
  cases G;rename_i ah ag af S D P
  obtain⟨O,K⟩:=Hs (A:=r.in1) (s:=j) T (V.wK z) F L P
  have N:=H' K
  exact⟨λq=>in_tupleAt _ (qk (X:=c) D) (λY H=>O Y<|Gi.mp H)<|N.symm▸q j (ak.refl j),
   λq=>notIn_tupleAt _ (qk (X:=c) D) (λY H=>O Y<|Gi.mp H)<|N.symm▸q j (ak.refl j)⟩
  obtain⟨ab,L,rfl⟩:=tq R
  cases G;rename_i ah ag af S D P
  obtain⟨O,K⟩:=Hs (A:=r.in1) (s:=j) T (V.wK z) F L P
  have N:=H' K
  exact⟨λq=>in_listAt _ (hG (X:=c) D) (λY H=>O Y<|Gi.mp H)<|N.symm▸q j (ak.refl j),
   λq=>notIn_listAt _ (hG (X:=c) D) (λY H=>O Y<|Gi.mp H)<|N.symm▸q j (ak.refl j)⟩
  cases i<;>try exact nS R
  obtain rfl:=aS R
  cases F
  refine Rz.dK G λd ad ab S W D aa N=>?_
  subst N
  refine⟨λq=>?_,λq=>?_⟩
  show aB _ _ (do return pz (<-xO (.ref d) _)) _ _ _
  exact av<|Jr (X:=c) (n:=x) W D aa<|aY<|q _ ak.tok
  show aB _ _ (do return pz (!(<-xO (.ref d) _))) _ _ _
  exact av<|Jr (X:=c) (n:=x) W D aa<|aY<|q _ ak.tok
  cases i<;>try exact nS R
  rename_i iA
  obtain rfl:=aS R
  cases F
  refine Rz.eH G λd ad ab ai S W D U ae P N=>?_
  subst N
  have L:=K7 (prog:=C.prog) (w:=C.w) U ae D
  have K:=(Ik (k:=iA) U.len P).2
  refine⟨λq=>?_,λq=>?_⟩
  show aB _ _ (do return pz (<-xO (.ref d) _)) _ _ _
  exact av<|Js L<|aY<|K▸q _ ak.tok
  show aB _ _ (do return pz (!(<-xO (.ref d) _))) _ _ _
  exact av<|Js L<|aY<|K▸q _ ak.tok
  cases i<;>try exact nS R
  obtain rfl:=aS R
  cases F
  refine Rz.aeF G λd aj ab S D T U N=>?_
  subst N
  have Z:=(U.kind C.prog C.w).setOf D T.2
  exact⟨λq=>ahR (Bw ..) rfl Z<|q _ ak.tok,λq=>wpAny_notInSet_of (Bw ..) rfl Z<|q _ ak.tok⟩
 exact⟨λc r x j t B V F G p f q=>(M V F G p f).1 q,λc r x j t B V F G p f q=>(M V F G p f).2 q⟩
def Jl(j:dQ 9 i p=I k)(d:∀F G,i=.float F->p=.float G->False):hQ C .Eq i p k:=λc r H l t J e B m D f q=>aco e j d B m C.prog C.w f D<|q l<|ak.refl l
def Uh(j:hh .Eq i p=I k):hQ C .Eq i p k:=by
 cases i<;>try exact Jl j λm d f c=>aa.noConfusion f
 cases p<;>first|exact Jl j (λm d c f=>aa.noConfusion f)|exact aS j▸Wa _ _
def Jm:∀x i p k,hh x i p=I k->hQ C x i p k:=by
 intro x i p k j;cases x;case Eq=>exact Uh j
 case NotEq=>exact eH j λc j f=>f▸λG r y l t d B w m F D q=>acn B j w m<|q l<|ak.refl l
 case Is=>cases p<;>first|exact nS j|exact Ul j
 case IsNot=>cases p<;>first|exact nS j|exact eH j λc j f=>f▸Um j
 case In=>exact(K9 j).1
 case NotIn=>exact eH j λc j f=>f▸(K9 j).2
 all_goals cases i<;>try exact nS j
 all_goals cases p<;>first|exact nS j|exact aS j▸Uk _ _|exact aS j▸Uj _ _|exact aS j▸Qc _ _|exact aS j▸Ui _ _|exact aS j▸Wc _ _|exact aS j▸Wb _ _
set_option tactic.hygienic true in
def NO:∀i k,t2 i=I k->vm C i k:=by
 intro i k j;cases i<;>try exact nS j
 exact aS j▸aem _;exact aS j▸aen _;obtain⟨y,rfl⟩:=cj j;intro G H F N O L w K J q;cases w;rename_i c T;have:=d0 y;refine PySem.P.truthy_str (F_.mpr<|n4 (hv.mpr this) z) ?_;have f:(((c.length:Nat):Int)!=0)=(c.length !=0):=by generalize c.length=F;cases F<;>rfl
 rw[f];exact q _ ak.tok;rename_i D;obtain⟨y,rfl⟩:=cj j;intro G H F N O L w K J q;cases w;rename_i R b S M d p;have B:=p.length;have:=d0 y;refine wpAny_truthy_list (hG (X:=G) d) (by show((b.length:Nat):Int)<_;rw[B];exact n4 (hv.mpr this) z) ?_;have f:(⟨b⟩:Array aq).isEmpty=D.isEmpty:=by show b.toArray.isEmpty=_;rw[List.isEmpty_toArray];cases p<;>rfl
 rw[f];exact q _ ak.tok
theorem RzL.pick(w:RzL c j x a):∀b:List Nat,RzL c j (b.filterMap (x[·]?)) (b.filterMap (a[·]?))
 |[]=>.nil
 |i::b=>by
  rw[Gb,Gb]
  induction f:a[i]?using b7 with
  |none=>
   have:x[i]?=none:=by rw[List.getElem?_eq_none_iff]at f ⊢;rw[w.length];exact f
   rw[this];exact w.pick b
  |some d=>
   obtain⟨t,e,p⟩:=w.get f;rw[e];exact .cons p<|w.pick b
def Dm(c:iO a y=I b):-1000000<=y/\y<=1000000/\qQ y a=I b:=
 have f:=gq c
 ⟨of_decide_eq_true (aM f.1).1,of_decide_eq_true (aM f.1).2,f.2⟩
def acU(e:qQ y c=I d)(g:y<0):(y+(c:Int)).toNat=d/\-(c:Int)<=y:=by unfold qQ at e;simp only[g,if_true]at e;obtain⟨f,p⟩:=cj e;simp only[c0,decide_eq_true_eq]at f;exact⟨p,Int.le_of_add_le_add_right (by rw[Int.add_left_neg];exact f.1)⟩
def acV(c:qQ y a=I b)(g:¬y<0):y.toNat=b:=by unfold qQ at c;simp only[g,if_false]at c;exact(cj c).2
set_option tactic.hygienic true in
def Qh(N:d3 (.list k) (.int y)=I d):dk C pB (.list k) (.int y) d:=by
 obtain⟨b,J,H⟩:=kT N;obtain⟨F,G,e⟩:=Dm J;intro L R Y M aa Z V w K T S q;cases K;cases w;rename_i U c W O t p;obtain⟨P,ae,r⟩:=p.get H;have D:=p.length;have ae:(⟨c⟩:Array aq)[b]?=I P:=by simpa using ae
 rw[<-D]at e;by_cases f:y<0;have B:=acU e f;exact wpAny_getItem_list_neg (hG (X:=L) t) f B.2 (jY z F) (B.1.symm▸ae)<|q _ _ (ak.refl M) r;exact wpAny_getItem_list (hG (X:=L) t) (g8.mp f) (n4 G z) ((acV e f).symm▸ae)<|q _ _ (ak.refl M) r
set_option tactic.hygienic true in
def Qj(K:d3 (.tuple k) (.int y)=I d):dk C pB (.tuple k) (.int y) d:=by obtain⟨b,G,F⟩:=kT K;obtain⟨B,D,e⟩:=Dm G;intro c N T M V U R w H O f q;cases H;cases w;rename_i P J S L t p;obtain⟨W,ae,r⟩:=p.get F;rw[<-p.length]at e;exact getItem_tuple (items:=⟨J⟩) ⟨_,t,rfl,_,rfl⟩ (jY z B) (n4 D z) e (by simpa using ae)<|q _ _ (ak.refl M) r
def Qi(H:d3 (.str m) (.int y)=I d):dk C pB (.str m) (.int y) d:=by obtain⟨b,p,a⟩:=kT H;obtain⟨k,B,e⟩:=Dm p;obtain⟨G,w,rfl⟩:=tq a;intro K r M l t N L D F J f q;cases D;cases F;refine PySem.P.getItem_str (i:=y) (c:=G) ?_ (by rw[e];exact w)<|q _ _ ak.tok<|.str _ _;have c9:¬y< -(2^63:Int):=g8.mpr<|jY z k;have dp:¬y>=(2^63:Int):=F_.mpr<|n4 B z;rw[decide_eq_false c9,decide_eq_false dp];rfl
def Qg(j:b.lookup k=I d):dk C pB (.dict b) (.str k) d:=by intro c r y M D N K w B J H q;cases B;refine Rz.dK w λi F L G l t x f=>?_;subst f;exact Xj (X:=c) t x j λD p=>q D _ ak.tok p
def YQ(j:od k c b=I d):dk C pB (.eb c b) (.int k) d:=by intro S O y N K V T F G R P q;cases G;refine Rz.eH F λi L U x M l t D p H f=>?_;subst f;have B:=(Ik (k:=k) D.len H).1;rw[j]at B;obtain⟨K,B,J⟩:=B;have r:N.heap.IntMap i (pE<|c.zip x):=K7 (prog:=C.prog) (w:=C.w) D p t;exact wpAny_getItem_intMap r B<|q K _ ak.tok J
def Lo:∀i p d,d3 i p=I d->wL i=ab/\dk C pB i p d:=by
 intro i p d j;cases i<;>try exact nS j
 cases p with|int=>exact⟨rfl,Qi j⟩|_=>exact nS j
 cases p with|int=>exact⟨rfl,Qj j⟩|_=>exact nS j
 cases p with|int=>exact⟨rfl,Qh j⟩|_=>exact nS j
 cases p with|str=>exact⟨rfl,Qg j⟩|_=>exact nS j
 cases p with|int=>exact⟨rfl,YQ j⟩|_=>exact nS j
def Mr{ao:cc}(i:oZ f=I k)(w:Rz c ao t f):IsPart t k:=by
 cases f<;>try exact nS i
 cases w;exact aS i▸.none;cases w;exact aS i▸.int _ _
set_option tactic.hygienic true in
def Fu:∀K ad W am d,o_ K ad W am=some d->wL K=ab/\yx C K ad W am d:=by
 intro K ad W am d B;obtain⟨lo,O,L⟩:=kT B;clear B;obtain⟨j,N,M⟩:=kT L;clear L;obtain⟨st,P,H⟩:=kT M;clear M;by_cases G:(st==some 0)=ab;exact nS<|(if_pos G).symm.trans H;have B:=(if_neg G).symm.trans H;clear H;replace G:st≠some 0:=λf=>G<|beq_iff_eq.mpr f;have y:∀{f:aa}{k:Option Int}{c:aE->Prop}{ao:cc}{p:aq},oZ f=some k->Rz c ao p f->IsPart p k:=Mr;cases K<;>try exact nS B
 rotate_left;rename_i w;obtain⟨ae,rfl⟩:=cj B;refine⟨rfl,λc as ay aj p af ac ap al V ai I T S U av au q=>?_⟩;cases ai;rename_i K b ax Y D J;have F:=J.length;have:=d0 ae;refine wpAny_getItem_list_slice (hG (X:=c) D) ⟨_,I,rfl,rfl⟩ (y O T) (y N S) (y P U) G ?_ (by show b.length<=_;rw[gw];exact aC (cL o)<|aC o z);refine q _ _ (ak.push (ey:=aj.toks)) ?_;refine .list (bl:=(P0 ⟨b⟩ lo j st).toList) V.fresh (dE _ rfl) ?_;have f:(P0 ⟨b⟩ lo j st).toList=(xV (j2 lo j st w.length).1 (j2 lo j st w.length).2.1 (j2 lo j st w.length).2.2).filterMap (b[·]?):=by unfold P0;show List.filterMap _ (xV (j2 lo j st b.length).1 (j2 lo j st b.length).2.1 (j2 lo j st b.length).2.2)=_;rw[F];congr 1;funext az;simp
 rw[f];exact(V.fR ak.push J).pick _;rename_i w;induction lo using b7 with
 |none=>exact nS B
 |some K=>
 induction j using b7 with
 |some aw=>exact nS B
 |none=>
 induction st using b7 with
 |some aw=>exact nS B
 |none=>
  obtain⟨ae,rfl⟩:=cj B;simp only[c0,decide_eq_true_eq]at ae;refine⟨rfl,λc as ay aj p af ac ap al V ai I T S U av au q=>?_⟩;have cE:=y O T;have ag:=y N S;have ah:=y P U;cases ag;cases ah;obtain⟨R,rfl⟩:∃R:Nat,K=R:=⟨K.toNat,(qA<|jY z ae.1.1).symm⟩;cases cE;cases ai;rename_i K b ax Y D J;have F:=J.length;have ar:=d0 ae.2;refine getItem_tuple_from (items:=⟨b⟩) ⟨_,D,rfl,_,rfl⟩ ⟨_,I,rfl,rfl⟩ (hv.mp ae.1.1) (by show R<=b.length;rw[F];exact hv.mp ae.1.2) ?_ (by show b.length<=_;rw[gw];exact aC (cL o)<|aC o z);refine q _ _ (ak.push (ey:=aj.toks))<|.tuple V.fresh (dE _ rfl) ?_;exact(V.fR ak.push J).drop _
def wm{T id:String}(k:∀F(l:ax) D,Rz F l.heap D i->l.TypeIs D T/\∀p,D=.ref p->∃J,l.heap.get? p=I J/\J.dict=ag)(x:PlainAttrs T)(B:Slot T c id)(j:typeOf (.builtin id)=bg (.type "method_descriptor"))(w:cM C (.builtin id) (i::e) t d):lA C i c e t d:=by refine⟨[i],λF L y l D cE M K h f q=>?_⟩;obtain⟨G,H⟩:=k F l D K;exact ahz G x B j H<|q _ _ l (ak.refl l) (ei.blt id) (.cons K .nil) w
def tr{n t:Type}{s:n->Option t}{i:n}{k:List n}{w:List t}(j:i0 s (i::k)=I w):∃m b,s i=I m/\i0 s k=I b/\w=m::b:=bK j λm g j=>eH j λb q c=>⟨m,b,g,q,c.symm⟩
def adS:∀{xs:List ar}{f:List aq},sy k=I xs->RzL c j f k->∃n:List (ar×iL),f=Hc n/\n.map (·.1)=xs:=by
 induction k with
 |nil=>exactλs w=>w.nK λq=>aS s▸⟨[],q,rfl⟩
 |cons d k B=>
  intro xs f s w;obtain⟨m,F,g,A,p⟩:=tr s;refine w.cK λG C i D q=>?_;obtain⟨n,ao,b5⟩:=B A D;cases d<;>try exact nS g
  exact i.sK λE y=>⟨(m,E)::n,by rw[q,y,ao,aS g];rfl,by rw[p,<-b5];rfl⟩
set_option tactic.hygienic true in
def aae{xs:List ar}(j:sy d=I xs)(B:JoinOk c xs=ab):lA C (.str c) "join" [.list d] t (.str<|GU c xs):=by
 refine wm (T:="str") (id:="str.join") (λL K Z O=>?_) Be PySem.F.slot_str_join PySem.F.type_str_join λL R K J W p U S q=>?_;cases O;exact⟨sm _ _ _,λV f=>by cases f⟩;cases p;rename_i w p;cases p with
 |cons G p=>
 cases p;cases w;cases G;rename_i i J Y M y H;obtain⟨n,rfl,ao⟩:=adS j H;exact hO (bM K.toks)<|SC.join (l:=n) (D:=i) ⟨_,y,rfl,_,rfl⟩ ao B λP k B=>q _ _ (ak.tok B)<|.str _ _
set_option tactic.hygienic true in
def aac(j:uC m d 0 m.length 1=c::a):lA C (.str m) "index" [.str d] t (.int c):=by
 refine wm (T:="str") (id:="str.index") (λn l L B=>?_) Be PySem.F.slot_str_index PySem.F.type_str_index λn G l D K p I H q=>?_;cases B;exact⟨sm _ _ _,λJ f=>by cases f⟩;cases p;rename_i w p;cases p with
 |cons k p=>
 cases p;cases w;cases k;exact SC.index j<|q _ _ ak.tok<|.int _ _
set_option tactic.hygienic true in
def aaf(j:Pf (xJ m).length=au):lA C (.str m) "lower" [] t (.str<|xJ m):=by refine wm (T:="str") (id:="str.lower") (λc l D a=>?_) Be PySem.F.slot_str_lower PySem.F.type_str_lower λc i l d B p n k q=>?_;cases a;exact⟨sm _ _ _,λy f=>by cases f⟩;cases p;rename_i w p;cases p;cases w;exact SC.lower j<|q _ _ ak.tok<|.str _ _
set_option tactic.hygienic true in
def aab:lA C (.int i) "bit_length" [] t (.int<|eU i):=by refine wm (T:="int") (id:="int.bit_length") (λc l y d=>?_) F.plainAttrs_int PySem.F.slot_int_bit_length PySem.F.type_int_bit_length λc j l x n p h k q=>?_;cases d;exact⟨P5 _ _ _,λm f=>by cases f⟩;cases p;rename_i w p;cases p;cases w;exact call_int_bit_length<|q _ _ ak.tok<|.int _ _
def aad{m b:ar}{d:aa}{t:Nat}(j:(match uC m b 0 m.length 1 with
   |i::k=>I<|aa.int (i:Nat)
   |[]=>ag)=I d):lA C (.str m) "index" [.str b] t d:=by
 induction q:uC m b 0 m.length 1 using a8 with|nil=>rw[q]at j;exact nS j|cons i w=>rw[q]at j;exact aS j▸aac q
def DR:∀i g q d,mM i g q=I d->lA C i g q c d:=by
 intro i g q d j;cases i<;>try exact nS j
 induction q using a8 with
 |cons=>exact nS j
 |nil=>
  have f:=cj j;rw[bL f.1];exact f.2▸aab
 induction q using a8 with
 |nil=>
  have f:=cj j;rw[bL (aM f.1).1];exact f.2▸aaf (ks (aM f.1).2)
 |cons p r=>
  cases p<;>try exact nS j
  induction r using a8 with
  |cons=>exact nS j
  |nil=>
   have f:=gq j;rw[bL f.1];exact aad f.2
  induction r using a8 with
  |cons=>exact nS j
  |nil=>
   have f:=gq j;rw[bL f.1];exact bK f.2 λxs ae j=>(cj j).2▸aae ae (cj j).1
end
section
variable{C:bC}{N:Nat}
set_option tactic.hygienic true in
def Tj(j:k.length<=1000000):cM C (.builtin "len") [.list k] N (.int k.length):=by
 intro c r G x D p B y q;cases p;rename_i w p;cases p;cases w;rename_i i x F n t d;have b:=d.length;refine call_len_list (hG (X:=c) t) (by show((x.length:Nat):Int)<_;rw[b];exact n4 (hv.mpr j) z) ?_;have f:(((⟨x⟩:Array aq).size:Nat):Int)=k.length:=by show((x.length:Nat):Int)=_;rw[b]
 rw[f];exact q _ _ ak.tok<|.int _ _
set_option tactic.hygienic true in
def To(j:k.length<=1000000):cM C (.builtin "len") [.tuple k] N (.int k.length):=by
 intro D r G x F p B y q;cases p;rename_i w p;cases p;cases w;rename_i i x c n t d;have b:=d.length;refine len_tuple ⟨_,t,rfl,c,rfl⟩ (by show((x.length:Nat):Int)<_;rw[b];exact n4 (hv.mpr j) z) ?_;have f:(((⟨x⟩:Array aq).size:Nat):Int)=k.length:=by show((x.length:Nat):Int)=_;rw[b]
 rw[f];exact q _ _ ak.tok<|.int _ _
set_option tactic.hygienic true in
def Tn(j:m.length<=1000000):cM C (.builtin "len") [.str m] N (.int m.length):=by intro c r l a e p b f q;cases p;rename_i w p;cases p;cases w;exact PySem.P.len_str (F_.mpr<|n4 (hv.mpr j) z)<|q _ _ ak.tok<|.int _ _
set_option tactic.hygienic true in
def TA:cM C (.builtin "ord") [.str ⟨#[a]⟩] N (.int a):=by intro b r l x e p h f q;cases p;rename_i w p;cases p;cases w;exact PySem.P.ord_of_char<|q _ _ ak.tok<|.int _ _
set_option tactic.hygienic true in
def Tg(c:0<=y)(a:y<0x110000):cM C (.builtin "chr") [.int y] N (.str ⟨#[y.toNat]⟩):=by intro b r l x e p h f q;cases p;rename_i w p;cases p;cases w;refine PySem.P.chr_of_int ?_<|q _ _ ak.tok<|.str _ _;have c9:¬y<0:=g8.mpr c;have dp:¬y>0x10FFFF:=g8.mpr<|Int.le_of_lt_add_one a;rw[decide_eq_false c9,decide_eq_false dp];rfl
set_option tactic.hygienic true in
def Tf:cM C (.builtin "abs") [.int i] N (.int<|if i<0 then -i else i):=by intro c r l x e p h f q;cases p;rename_i w p;cases p;cases w;exact hO (bM l.toks)<|call_abs_int λd k b=>q _ _ (ak.tok b)<|.int _ _
set_option tactic.hygienic true in
def Tp:cM C (.builtin "max") [.int i,.int p] N (.int<|if p>i then p else i):=by intro c r l x e d h f q;cases d;rename_i n d;cases d;rename_i t d;cases d;cases n;cases t;refine hO (bM l.toks)<|max_two_ints e.handled λy k m j=>?_;by_cases w:p>i;rw[if_pos w];rw[if_pos w]at q;exact q _ _ (ak.of_keep m j)<|.int _ _;rw[if_neg w];rw[if_neg w]at q;exact q _ _ (ak.of_keep m j)<|.int _ _
set_option tactic.hygienic true in
def Tu:cM C (.builtin "min") [.int i,.int p] N (.int<|if p<i then p else i):=by intro c r l x e d h f q;cases d;rename_i n d;cases d;rename_i t d;cases d;cases n;cases t;refine hO (bM l.toks)<|min_two_ints e.handled λy k m j=>?_;by_cases w:p<i;rw[if_pos w];rw[if_pos w]at q;exact q _ _ (ak.of_keep m j)<|.int _ _;rw[if_neg w];rw[if_neg w]at q;exact q _ _ (ak.of_keep m j)<|.int _ _
set_option tactic.hygienic true in
def Th(j:p≠0)(ao:pv i p=au):cM C (.builtin "divmod") [.int i,.int p] N (.tuple [.int<|i.fdiv p,.int<|i.fmod p]):=by intro c r l x e d h f q;cases d;rename_i w d;cases d;rename_i m d;cases d;cases w;cases m;exact divmod_int j (q _ _ (ak.push (ey:=l.toks+1+1))<|.tuple e.fresh (dE _ rfl)<|.cons (.int _ _)<|.cons (.int _ _) .nil)<|.inl ao
set_option tactic.hygienic true in
def Ti(d:ia a=.fin b c f):cM C (.type "int") [.float a] N (.int<|GL b c f):=by intro k r l i n p h j q;cases p;rename_i w p;cases p;cases w;exact call_int_float d<|q _ _ ak.tok<|.int _ _
set_option tactic.hygienic true in
def TK(j:k.length<=1000000):cM C (.type "tuple") [.list k] N (.tuple k):=by intro c r b x e p G f q;cases p;rename_i w p;cases p;cases w;rename_i i x H F t d;have D:=d.length;refine call_tuple_list (hG (X:=c) t) (λy B=>?_) (by show x.length<=_;rw[gw];exact aC (cL o)<|aC o z);have eo:ak C b {b with heap:=y}:=ak.of_keep (ey:=b.toks) B;have n:ak C {b with heap:=y} {b with heap:=y.push {cls:=.type "tuple",data:=.seq ⟨x⟩}}:=ak.push (s:={b with heap:=y}) (ey:=b.toks);exact q _ _ (eo.trans n)<|.tuple (e.ext eo).fresh (dE _ rfl)<|(e.ext eo).fR n<|e.fR eo d
def zz:∀{xs:List Int}{f:List aq},oe k=I xs->RzL c j f k->∃n:List (Int×iL),f=n.map (λs=>bE s.1 s.2)/\n.map (·.1)=xs:=by
 induction k with
 |nil=>exactλy w=>w.nK λq=>aS y▸⟨[],q,rfl⟩
 |cons d k D=>
  intro xs f y w;obtain⟨m,H,g,C,A⟩:=tr y;refine w.cK λJ E i F q=>?_;obtain⟨n,ao,b5⟩:=D C F;cases d<;>try exact nS g
  exact i.iK λG B=>⟨(m,G)::n,by rw[q,B,ao,aS g];rfl,by rw[A,<-b5];rfl⟩
def adY:∀xs:List Int,mX xs=xs.sum:=by
 intro xs;induction xs with
 |nil=>
  exact rfl
 |cons m w c=>
  exact by rw[mX,c,OT]
set_option tactic.hygienic true in
def TJ{xs:List Int}(j:oe k=I xs):cM C (.builtin "sum") [.list k] N (.int<|mX xs):=by intro L r F x e p K f q;cases p;rename_i w p;cases p;cases w;rename_i i x c H t d;obtain⟨n,rfl,rfl⟩:=zz j d;have y:F.heap.IsList i (jD n.toArray):=⟨_,t,rfl,c,by simp[jD]⟩;refine hO (bM F.toks)<|sum_intListG e.handled y λG J D B b=>?_;rw[preSum_eq,af2<|by simp];rw[adY]at q;simpa using q (.int (n.map (·.1)).sum D) _ (ak.of_keep B b)<|.int _ _
set_option tactic.hygienic true in
def TB(d:ia a=.fin b c f):cM C (.builtin "round") [.float a] N (.int<|xF b c f):=by intro D r l t n p B y q;cases p;rename_i w p;cases p;cases w;have i:PySem.Flt.toInt xF a=xF b c f:=PySem.Flt.toInt_fin d;refine PySem.Flt.call_round_float n.handled (λj=>?_) (λj=>?_) ?_;unfold agW at j;rw[d]at j;cases j;unfold n_ at j;rw[d]at j;cases j;rw[i];exactλk=>q _ _ ak.tok<|.int _ _
def Wn{c:Array aq}{q:Nat->UInt64}(D:∀(y:Nat)(a:aq),c[y]?=I a->∃k:iL,a=qL (q y) k):CmpOf d n r .Gt (λy a=>c[y]?=I a) (λy b=>eJ (q y) (q b)==I r6):=by intro y b e C l J H g p B;obtain⟨k,rfl⟩:=D y e g;obtain⟨G,rfl⟩:=D b C p;exact ahI (op:=.Gt) (He l _ k) (He l _ G) PySem.F.slot_float_gt PySem.F.entry_float_gt (PySem.F.args_float_gt_2 _ _) (ah4 _ k _ G) (λm=>nomatch m) B
def Wo{c:Array aq}{q:Nat->UInt64}(D:∀(y:Nat)(a:aq),c[y]?=I a->∃k:iL,a=qL (q y) k):CmpOf d n r .Lt (λy a=>c[y]?=I a) (λy b=>eJ (q y) (q b)==I lq):=by intro y b e C l J H g p B;obtain⟨k,rfl⟩:=D y e g;obtain⟨G,rfl⟩:=D b C p;exact ahI (op:=.Lt) (He l _ k) (He l _ G) PySem.F.slot_float_lt PySem.F.entry_float_lt (PySem.F.args_float_lt_2 _ _) (ah5 _ k _ G) (λm=>nomatch m) B
set_option tactic.hygienic true in
def Tq:cM C (.builtin "max") [.float x,.float p,.float y] N (.float<|eQ x p y<|fE (λi Z=>eJ (eQ x p y i) (eQ x p y Z)==I r6) 2):=by
 intro ae U l ab V J ad ac q;cases J;rename_i R J;cases J;rename_i S J;cases J;rename_i T J;cases J;cases R;rename_i b3 jn;cases S;rename_i cv jO;cases T;rename_i e_ tw;have D:∀(i:Nat)(B:aq),(#[qL x b3,.float p cv,.float y e_]:Array aq)[i]?=I B->∃F:iL,F≠0/\B=qL (eQ x p y i) F:=by intro i B k;match i,k with|0,k=>simp at k;exact⟨b3,jn,k.symm⟩|1,k=>simp at k;exact⟨cv,jO,k.symm⟩|2,k=>simp at k;exact⟨e_,tw,k.symm⟩|i+3,k=>simp at k
 have P:=λi B k=>(D i B k).imp λF W=>W.2;refine hO (bM l.toks) ?_;have K:(l.heap.push {cls:=.type "tuple",data:=.seq #[.float x b3,.float p cv,.float y e_]}).IsTuple l.heap.objs.size #[.float x b3,.float p cv,.float y e_]:=⟨_,dE _ rfl,rfl,0,rfl⟩;refine call_max_three<|Hk K ?_;have n:(l.heap.push {cls:=.type "tuple",data:=.seq #[.float x b3,.float p cv,.float y e_]}).objs.size=l.heap.objs.size+1:=i' ..;refine⟨_,[_,l.heap.objs.size],[_],_,_,_,_,rfl,Bn (A:=U.in1) V.handled _ l.heap.objs.size (by rw[n];exact fs<|e5 _) #[.float x b3,.float p cv,.float y e_],⟨⟨_,dE _ rfl,rfl,rfl⟩,K.push _⟩,λd w=>?_,by simp,Wn P,λB Y aa H m L=>?_⟩;show d<((l.heap.push _).push _).objs.size;rw[i',n];rcases cJ.mp w with rfl|w;rw[n];exact e5 _;rcases cJ.mp w with rfl|w;exact uu<|e5 _;cases w;obtain⟨F,M,rfl⟩:=D _ _ H;refine q _ _ (ak.of_keep (λd O f=>?_) L)<|.float _ _ M;refine m d O (λr=>?_)<|dS _<|dS _ f;rcases cJ.mp r with G|r;have:=fe f;rw[G,n]at this;exact jZ _<|O2 this;cases r
set_option tactic.hygienic true in
def Tv:cM C (.builtin "min") [.float x,.float p,.float y] N (.float<|eQ x p y<|fE (λi Z=>eJ (eQ x p y i) (eQ x p y Z)==I lq) 2):=by
 intro ae U l ab V J ad ac q;cases J;rename_i R J;cases J;rename_i S J;cases J;rename_i T J;cases J;cases R;rename_i b3 jn;cases S;rename_i cv jO;cases T;rename_i e_ tw;have D:∀(i:Nat)(B:aq),(#[qL x b3,.float p cv,.float y e_]:Array aq)[i]?=I B->∃F:iL,F≠0/\B=qL (eQ x p y i) F:=by intro i B k;match i,k with|0,k=>simp at k;exact⟨b3,jn,k.symm⟩|1,k=>simp at k;exact⟨cv,jO,k.symm⟩|2,k=>simp at k;exact⟨e_,tw,k.symm⟩|i+3,k=>simp at k
 have P:=λi B k=>(D i B k).imp λF W=>W.2;refine hO (bM l.toks) ?_;have K:(l.heap.push {cls:=.type "tuple",data:=.seq #[.float x b3,.float p cv,.float y e_]}).IsTuple l.heap.objs.size #[.float x b3,.float p cv,.float y e_]:=⟨_,dE _ rfl,rfl,0,rfl⟩;refine call_min_three<|Hk K ?_;have n:(l.heap.push {cls:=.type "tuple",data:=.seq #[.float x b3,.float p cv,.float y e_]}).objs.size=l.heap.objs.size+1:=i' ..;refine⟨_,[_,l.heap.objs.size],[_],_,_,_,_,rfl,Bn (A:=U.in1) V.handled _ l.heap.objs.size (by rw[n];exact fs<|e5 _) #[.float x b3,.float p cv,.float y e_],⟨⟨_,dE _ rfl,rfl,rfl⟩,K.push _⟩,λd w=>?_,by simp,Wo P,λB Y aa H m L=>?_⟩;show d<((l.heap.push _).push _).objs.size;rw[i',n];rcases cJ.mp w with rfl|w;rw[n];exact e5 _;rcases cJ.mp w with rfl|w;exact uu<|e5 _;cases w;obtain⟨F,M,rfl⟩:=D _ _ H;refine q _ _ (ak.of_keep (λd O f=>?_) L)<|.float _ _ M;refine m d O (λr=>?_)<|dS _<|dS _ f;rcases cJ.mp r with G|r;have:=fe f;rw[G,n]at this;exact jZ _<|O2 this;cases r
inductive vl:Nat->aa->PyData->Prop
 |bool (n b):vl n (.bool b) (.bool b)
 |int (n) {i} (h:i.natAbs<2^200):vl n (.int i) (.int i)
 |list {n l bP} (h:i0 (kQ n) l=some bP):vl (n+1) (.list l) (.list bP)
 |tuple {n l bP} (h:i0 (kQ n) l=some bP):vl (n+1) (.tuple l) (.tuple bP)
def Az(f:kQ y d=I s):vl y d s:=by induction y using cN<;>cases d<;>first|exact nS f|exact aS f▸.bool _ _|exact(cj f).2▸.int _ (of_decide_eq_true (cj f).1)|exact eH f λa j f=>f▸.list j|exact eH f λa j f=>f▸.tuple j
def MQ(C:∀d D t,s d=I D->Rz c j t d->∃b,Reads j t D b):∀{n:List Bi}{x:List aq},i0 s k=I n->RzL c j x k->∃b,ReadsAll j x n b:=by
 induction k with
 |nil=>exactλB E=>E.nK λq=>by subst q;exact aS B▸⟨[],.nil⟩
 |cons d k g=>
  exactλB E=>(tr B).elim λD i=>i.elim λG i=>E.cK λt x F m q=>(C _ _ _ i.1 F).elim λb y=>(g i.2.1 m).elim λA a=>by rw[i.2.2,q];exact⟨b++A,.cons y a⟩
def acr:∀{d:aa}{s:Bi}{t:aq},kQ y d=I s->Rz c j t d->∃b,Reads j t s b:=by
 induction y with
 |zero=>
  intro d s t f w;cases Az f with|bool=>cases w;exact⟨_,.bool _⟩|int=>cases w;exact⟨_,.int _ _⟩
 |succ y A=>
  intro d s t f w;cases Az f with|bool=>cases w;exact⟨_,.bool _⟩|int=>cases w;exact⟨_,.int _ _⟩|list g=>exact w.lK λi x C B k q f=>f▸(MQ (λd s t=>A) g q).elim λb l=>⟨_::b,.list k rfl rfl l⟩|tuple g=>exact w.tK λi x C B k q f=>f▸(MQ (λd s t=>A) g q).elim λb l=>⟨b,.tuple k rfl rfl l⟩
structure ya(n:Nat)(d:aa)(p:PyData):Prop where
 Ni:p.showable=true
 dict:p.hasDict=false
 deep:p.depth<=n
 len:p.shown.length<=ko n d
def aeg{s a h d c:Nat}(r:s<=d)(f:a+2*h+3<=c):s+a+2*(h+1)+3<=d+2+c:=aC (cL<|by grind)<|ll (jv r 2) f
def NM(w:∀d x,s d=I x->ya y d x):∀{k:List aa}{g:List Bi},i0 s k=I g->PA g=ab/\Px g=au/\Pw g<=y/\((GQ g).map (·.length)).sum+2*(GQ g).length+3<=o' (ko y) k:=by
 intro k;induction k with
 |nil=>
  exact @λg h=>by cases h;exact⟨by simp[PA],by simp[Px],by simp[Pw],by simp[GQ,o']⟩
 |cons d k j=>
  exact @λg h=>by obtain⟨x,C,m,q,rfl⟩:=tr h;obtain⟨i,A,B,h⟩:=j q;have r:=w _ _ m;refine⟨by simp[PA,i,r.Ni],by simp[Px,A,r.dict],?_,?_⟩;simp only[Pw];exact A_.mpr ⟨r.deep,B⟩;have:=r.len;simp only[GQ,e4,OT,gx,o'];exact aeg this h
def NL(j:y.natAbs<2^200)(g:202<=ko a d):ya a d (.int y):=by
 have b:y.natAbs.log2<201:=by by_cases c:y.natAbs=0;rw[c];decide;exact uu<|(Gr c).mpr j
 refine⟨by simp only[Pz,decide_eq_true_eq];exact du o z,rfl,dV _,?_⟩;have:=int_text_length_le (k:=201) z b;have f:(GP<|.int y).length=(pF y).length:=by show(bp<|pF y).length=_;exact PySem.ofString_length _
 rw[f];exact aC o o
def NK(a:202<=ko y d):ya y d (.bool p):=by
 refine⟨rfl,rfl,dV _,?_⟩;have:(GP<|.bool p).length<=5:=by cases p<;>decide
 exact aC this<|aC z a
def aeh:∀{d:aa}{s:Bi},kQ y d=I s->ya y d s:=by
 induction y with
 |zero=>
  intro d s f;cases Az f with|bool=>exact NK (bM 202)|int _ j=>exact NL j<|bM 202
 |succ y k=>
  intro d s f;cases Az f with
  |bool=>exact NK<|bM 202
  |int _ j=>exact NL j<|bM 202
  |list g=>
   obtain⟨i,l,m,f⟩:=NM (λd s=>k) g;refine⟨by simp[Pz,i],by simp[ag6,l],by simp only[ag5];exact jw o,?_⟩;simp only[GP];exact aC (PySem.listText_len_le _) f
  |tuple g=>
   obtain⟨i,l,m,f⟩:=NM (λd s=>k) g;refine⟨by simp[Pz,i],by simp[ag6,l],by simp only[ag5];exact jw o,?_⟩;simp only[GP];exact aC (PySem.tupleText_len_le _) f
set_option tactic.hygienic true in
def TH(j:kQ 6 (.list b)=I c)(M:ko 6 (.list b)<=16000000):cM C (.type "str") [.list b] N (.str c.shown):=by intro U R O x G n T S q;cases n;rename_i w n;cases n;obtain⟨J,y⟩:=acr j w;have r:=aeh j;cases w;rename_i i x V L B d;refine hO (bM O.toks)<|str_of_reads y r.Ni (PyData.noDict_hsm r.dict) G.guards ?_ (λH H f=>f) (λK W P D F=>q _ _ (ak.of_keep D F)<|.str _ _) ?_;have:=r.deep;exact cH (gy (aC (jv this 3) z) _)<|G.rG (k:=20) z;have:=r.len;rw[gw];exact aC o<|aC o z
structure jb(C:bC):Prop where
 len:b4 C "len" (.builtin "len")
 ord:b4 C "ord" (.builtin "ord")
 chr:b4 C "chr" (.builtin "chr")
 str:b4 C "str" (.type "str")
 sum:b4 C "sum" (.builtin "sum")
 max:b4 C "max" (.builtin "max")
 min:b4 C "min" (.builtin "min")
 abs:b4 C "abs" (.builtin "abs")
 round:b4 C "round" (.builtin "round")
 int:b4 C "int" (.type "int")
 tuple:b4 C "tuple" (.type "tuple")
 divmod:b4 C "divmod" (.builtin "divmod")
 range:b4 C "range" (.type "range")
 enum:b4 C "enumerate" (.type "enumerate")
 zip:b4 C "zip" (.type "zip")
 rev:b4 C "reversed" (.type "reversed")
 list:b4 C "list" (.type "list")
def kO(C:bC)(N:Nat)(s:ar×(List aa->Option aa)):Prop:=∀q d,s.2 q=I d->∃t,b4 C s.1 t/\ei C t/\cM C t q N d
def k5(id:String):ei C (.builtin id):=ei.blt id
def j6(y:String):ei C (.type y):=ei.typ y
def aaX(n:jb C):kO C N ("len",iR):=by
 intro q d j;induction q using a8 with
 |nil=>exact nS j
 |cons i r=>
 cases i<;>try exact nS j
 induction r using a8 with|cons=>exact nS j|nil=>have f:=cj j;exact⟨_,n.len,k5 _,f.2▸Tn (d0 f.1)⟩
 induction r using a8 with|cons=>exact nS j|nil=>have f:=cj j;exact⟨_,n.len,k5 _,f.2▸To (d0 f.1)⟩
 induction r using a8 with|cons=>exact nS j|nil=>have f:=cj j;exact⟨_,n.len,k5 _,f.2▸Tj (d0 f.1)⟩
set_option tactic.hygienic true in
def aa0(n:jb C):kO C N ("ord",Cs):=by
 intro q d j;induction q using a8 with
 |nil=>exact nS j
 |cons i r=>
 cases i<;>try exact nS j
 rename_i m;obtain⟨⟨k⟩⟩:=m;induction k using a8 with
 |nil=>exact nS j
 |cons g k=>
 induction k using a8 with
 |cons=>exact nS j
 |nil=>
 induction r using a8 with|cons=>exact nS j|nil=>exact⟨_,n.ord,k5 _,aS j▸TA⟩
def aaU(n:jb C):kO C N ("chr",yQ):=by
 intro q d j;induction q using a8 with
 |nil=>exact nS j
 |cons i r=>
 cases i<;>try exact nS j
 induction r using a8 with
 |cons=>exact nS j
 |nil=>
 have f:=cj j;exact⟨_,n.chr,k5 _,f.2▸Tg (of_decide_eq_true (aM f.1).1) (of_decide_eq_true (aM f.1).2)⟩
def aa2(n:jb C):kO C N ("str",u2):=by
 intro q d j;induction q using a8 with
 |nil=>exact nS j
 |cons i r=>
 cases i<;>try exact nS j
 induction r using a8 with
 |cons=>exact nS j
 |nil=>
 refine bK j λs ao j=>?_;have f:=cj j;exact⟨_,n.str,j6 _,f.2▸TH ao (d0 f.1)⟩
def aa3(n:jb C):kO C N ("sum",Ct):=by
 intro q d j;induction q using a8 with
 |nil=>exact nS j
 |cons i r=>
 cases i<;>try exact nS j
 induction r using a8 with
 |cons=>exact nS j
 |nil=>
 exact eH j λxs ae f=>⟨_,n.sum,k5 _,f▸TJ ae⟩
def aaY(n:jb C):kO C N ("max",mB):=by
 intro q d j;induction q using a8 with
 |nil=>exact nS j
 |cons i r=>
 cases i<;>try exact nS j
 ·induction r using a8 with
  |nil=>exact nS j
  |cons p r=>
  cases p<;>try exact nS j
  induction r using a8 with|cons=>exact nS j|nil=>exact⟨_,n.max,k5 _,aS j▸Tp⟩
 induction r using a8 with
 |nil=>exact nS j
 |cons p r=>
 cases p<;>try exact nS j
 induction r using a8 with
 |nil=>exact nS j
 |cons p r=>
 cases p<;>try exact nS j
 induction r using a8 with|cons=>exact nS j|nil=>exact⟨_,n.max,k5 _,aS j▸Tq⟩
def aaZ(n:jb C):kO C N ("min",vA):=by
 intro q d j;induction q using a8 with
 |nil=>exact nS j
 |cons i r=>
 cases i<;>try exact nS j
 ·induction r using a8 with
  |nil=>exact nS j
  |cons p r=>
  cases p<;>try exact nS j
  induction r using a8 with|cons=>exact nS j|nil=>exact⟨_,n.min,k5 _,aS j▸Tu⟩
 induction r using a8 with
 |nil=>exact nS j
 |cons p r=>
 cases p<;>try exact nS j
 induction r using a8 with
 |nil=>exact nS j
 |cons p r=>
 cases p<;>try exact nS j
 induction r using a8 with|cons=>exact nS j|nil=>exact⟨_,n.min,k5 _,aS j▸Tv⟩
def aaT(n:jb C):kO C N ("abs",Hr):=by
 intro q d j;induction q using a8 with
 |nil=>exact nS j
 |cons i r=>
 cases i<;>try exact nS j
 induction r using a8 with
 |cons=>exact nS j
 |nil=>
 exact⟨_,n.abs,k5 _,aS j▸Tf⟩
set_option tactic.hygienic true in
def aa1(n:jb C):kO C N ("round",vB):=by
 intro q d j;induction q using a8 with
 |nil=>exact nS j
 |cons i r=>
 cases i<;>try exact nS j
 induction r using a8 with
 |cons=>exact nS j
 |nil=>
 rename_i k;replace j:(match ia k with
  |.fin b c f=>I<|aa.int<|xF b c f
  |_=>ag)=I d:=j
 cases g:ia k with|fin=>rw[g]at j;exact⟨_,n.round,k5 _,aS j▸TB g⟩|_=>rw[g]at j;exact nS j
set_option tactic.hygienic true in
def aaW(n:jb C):kO C N ("int",yc):=by
 intro q d j;induction q using a8 with
 |nil=>exact nS j
 |cons i r=>
 cases i<;>try exact nS j
 induction r using a8 with
 |cons=>exact nS j
 |nil=>
 rename_i k;replace j:(match ia k with
  |.fin b c f=>I<|aa.int<|GL b c f
  |_=>ag)=I d:=j
 cases g:ia k with|fin=>rw[g]at j;exact⟨_,n.int,j6 _,aS j▸Ti g⟩|_=>rw[g]at j;exact nS j
def aa4(n:jb C):kO C N ("tuple",I6):=by
 intro q d j;induction q using a8 with
 |nil=>exact nS j
 |cons i r=>
 cases i<;>try exact nS j
 induction r using a8 with
 |cons=>exact nS j
 |nil=>
 have f:=cj j;exact⟨_,n.tuple,j6 _,f.2▸TK (d0 f.1)⟩
def aaV(n:jb C):kO C N ("divmod",I2):=by
 intro q d j;induction q using a8 with
 |nil=>exact nS j
 |cons i r=>
 cases i<;>try exact nS j
 induction r using a8 with
 |nil=>exact nS j
 |cons p r=>
 cases p<;>try exact nS j
 induction r using a8 with|cons=>exact nS j|nil=>have f:=cj j;exact⟨_,n.divmod,k5 _,f.2▸Th (bne_iff_ne.mp (aM f.1).1) (ks (aM f.1).2)⟩
def a6{n:Type}{r:n->Prop}{i:n}{b:List n}(j:r i)(k:∀m∈b,r m):∀m∈i::b,r m:=List.forall_mem_cons.mpr ⟨j,k⟩
def dC{n:Type}{r:n->Prop}:∀m∈([]:List n),r m:=λm j=>absurd j mn
def Te(n:jb C):∀s∈mE,kO C N s:=a6 (aaX n)<|a6 (aa0 n)<|a6 (aaU n)<|a6 (aa2 n)<|a6 (aa3 n)<|a6 (aaY n)<|a6 (aaZ n)<|a6 (aaT n)<|a6 (aa1 n)<|a6 (aaW n)<|a6 (aa4 n)<|a6 (aaV n) dC
def I7(n:jb C):∀s q d,fJ s q=I d->∃t,b4 C s t/\ei C t/\cM C t q N d:=by intro s q d j;exact bK j λe c j=>Te n _ (mem_of_lookup c) q d j
structure Hm(C:bC)(c:Addr)(rv:Str->Option Value):Prop where
 obj:∀h,C.ew h->∃nm q N bs sn sub col UY iA wc dR ti Y0 newId,h.get? c=some (excClassObj nm q c N bs [.type "object"] true sn sub false col UY iA wc dR ti Y0 newId)/\h.Ns N rv
 ga:rv "__getattribute__"=none
 ge:rv "__getattr__"=none
def QP(C:bC)(i:jF):Prop:=∀b m d,i.hk b m=I d->∃t,b4 C b t/\∀(c:aE->Prop)(r:dI)(y:Nat)(l:ax),bh C c r y l->∀(h:aq->ax->Prop)(a:aq->ax->Prop),(∀e J,ak C l J->Rz c J.heap e d->h e J)->aB (aK C.prog C.w) r (xQ t m ab) h a l
structure j9(C:bC)(L:jF)(N:Nat)(rv:Str->Option Value):Prop where
 blt:jb C
 cls:Hm C L.cls rv
 fns:∀f F,L.fns.lookup f=some F->∃a,b4 C f (.ref a)/\dA C a F.sc F.params F.body
 oT:∀m F,L.oT.lookup m=some F->∃a,rv m=some (.ref a)/\dA C a F.sc F.params F.body/\∃y,typeLookup (.type "object") m=pure y
 attrs:∀x,L.attrs.contains x=true->rv x=none/\typeLookup (.type "object") x=pure none
 hand:∀f ds d,L.hand f ds=some d->∃v,b4 C f v/\ei C v/\cM C v ds N d
 di:∀f l ds d,L.di f l ds=some d->∃v,b4 C f v/\ei C v/\vb C v l ds N d
 const:∀x d,L.const x=some d->∃v,b4 C x v/\∀X h,Rz X h v d
 hk:QP C L
def c4.find{C:aE->Prop}{j:cc}{x:ar}{b:List e6}{s:List (ar×aa)}(q:c4 C j b s):match s.lookup x with
  |some d=>∃f,(b.find? λk=>k.key.isStr x).map (·.val)=some f/\Rz C j f d
  |none=>(b.find? λk=>k.key.isStr x).map (·.val)=none:=by
 induction q using c4.ind with
 |n=>rfl
 |@c l a i f b d s w p g=>
  have m:(ahl a i).isStr x=(a==x):=rfl;by_cases k:a=x;subst k;simp only[ep,beq_self_eq_true,afN,m];exact⟨f,rfl,w⟩;have B:(a==x)=au:=by simpa using k
  have A:(x==a)=au:=by simpa usingλq=>k q.symm
  simp only[ep,A,afN,m,B];exact g
def c4.keys(q:c4 k j f s):(∀E∈f,∃n J,E.key=.str n J/\n∈s.map (·.1))/\(nI (s.map (·.1))=ab->f.Pairwise λK p=>∀n,K.key.isStr n=ab->p.key.isStr n=ab->False):=by
 induction q using c4.ind with
 |n=>exact⟨λE A=>(by cases A),λ_=>afF⟩
 |@c L g J N f d s w M I=>
  obtain⟨C,G⟩:=I;refine⟨λE A=>?_,λB=>?_⟩;rcases cJ.mp A with rfl|A;exact⟨g,J,rfl,by simp⟩;obtain⟨n,D,x,l⟩:=C E A;exact⟨n,D,x,by simp;exact .inr<|by simpa using l⟩;rw[e4]at B;unfold nI at B;simp only[c0,ez,hL,decide_eq_false_iff_not]at B;refine ah2 (λp H n x l=>?_)<|G B.2;obtain⟨i,D,F,b5⟩:=C p H;have x:(g==n)=ab:=x;rw[F]at l;have l:(i==n)=ab:=l;have:=bL x;have:=bL l;subst_vars;exact B.1 b5
def M1(p:d.get? i=I (mu g j))(A:d.get? j=I ⟨.type "dict",ag,.dict ⟨b⟩ y,#[]⟩)(w:c4 f d b s)(E:nI (s.map (·.1))=ab):d.Inst i g (λJ=>(b.find? λl=>l.key.isStr J).map (·.val)):=by obtain⟨C,q⟩:=w.keys;refine⟨_,p,rfl,λg l=>(by cases l),.inr ⟨j,rfl,λl=>?_,_,⟨b⟩,_,A,rfl,λl D=>?_,q E,λF=>?_⟩⟩;rw[l,p]at A;simp[mu]at A;obtain⟨G,H,B,k⟩:=C l (by simpa using D);exact⟨G,H,B⟩;unfold ie findBy;simp
def acN(w:Rz c j t d):handedOut t=bg t:=by cases w<;>rfl
set_option tactic.hygienic true in
def Im(K:j9 C i N al):∀B G d,Hq i B G=I d->pO C (λt=>xQ t G ab) B d:=by
 intro B G d J;cases B<;>try exact nS J
 rename_i W ad;obtain⟨w,y⟩:=gq J;clear J;simp only[c0]at w;have e:W=i.cls:=O0 w.1.1;subst e;intro ar ao av l t S am aq ap q;cases am with
 |@obj B aa as ac au U ah af M O F=>
 obtain⟨ai,aj,T,V,an,gA,f,Y,iA,ae,dR,ti,ag,j,k,P⟩:=K.cls.obj _ S.ok;obtain⟨H,b⟩:=K.attrs G w.1.2;have D:=F.find (x:=G);rw[y]at D;obtain⟨t,R,p⟩:=D;have eo:ak C l {l with toks:=l.toks+1}:=ak.tok;exact load_attr k P K.cls.ga H b (M1 M O F w.2) R (acN p)<|q t _ eo<|S.mono eo p
def cM.mono(j:cM C b a y d)(r:y<=c):cM C b a c d:=λw i l x e p t k q=>j w i l x (e.fuel r) p t k q
def vb.mono(j:vb C e i b y d)(r:y<=c):vb C e i b c d:=λJ G M K x F k L t B p w D I H q=>j J G M K x F k (L.fuel r) t B p w D I H q
def J'(K:j9 C c N y){aP:List aF}(f:dA C i b n aP):ei C (.ref i):=ei.fn λg j=>by obtain⟨d,e,s,l,k⟩:=f.cls g j;exact⟨d,e,s,l⟩
def Ac(K:j9 C i N y):cf C (tJ i) N where
 bin:=yL
 un:=NY
 cmp:=Jm
 truth:=NO
 item:=λg p d j=>(Lo g p d j).imp tP id
 slice:=λg k j r d m=>(Fu g k j r d m).imp tP id
 attr:=Im K
 en:=DR
 call:=λs c d j=>by have j:dj (fJ s c) (i.hand s c)=I d:=j;unfold dj at j;split at j;rename_i m;cases j;exact I7 K.blt s c _ m;exact K.hand s c d j
 const:=K.const
 aug:=Ir
 cat:=Jc
 move:=K.di
 hk:=K.hk
 range:=K.blt.range
 enum:=K.blt.enum
 zip:=K.blt.zip
 rev:=K.blt.rev
 list:=K.blt.list
def MX(K:j9 C i N a1)(M:cf C al k)(B:ym i al b ac e f j=I d):lA C (.obj ac e) f j (k+1) d:=by
 unfold ym at B;split at B;case isFalse=>cases B
 rename_i w;simp only[c0]at w;have D:ac=i.cls:=O0 w.1.1;subst D;rw[uz]at B;obtain⟨ai,S,B⟩:=B;obtain⟨aH,T,l,aL,W⟩:=K.oT f ai S;refine⟨[.obj i.cls e],λaF aC aI ah aJ cE ab ad aE aD q=>?_⟩;have Y:=ad;cases ad with
 |@obj aK ap aG ar au am ax af ae U H=>
 obtain⟨ay,aA,aj,an,aB,gA,aa,ao,iA,av,dR,ti,aw,J,R,V⟩:=K.cls.obj _ ab.ok;obtain⟨az,as,P,aq,p⟩:=l.cls _ ab.ok;have G:=H.find (x:=f);have t:e.lookup f=ag:=by simpa using w.1.2
 rw[t]at G;exact method_of R V K.cls.ga K.cls.ge T P p W (M1 ae U H w.2) G<|q _ _ ah (ak.refl ah) (J' K l) (.cons Y .nil)<|MW M l B
set_option tactic.hygienic true in
def Mj(K:j9 C i N y)(E:N<=k+1)(x:cf C n k):cf C (E1 i fuel n) (k+1)where
 bin:=yL
 un:=NY
 cmp:=Jm
 truth:=NO
 item:=λA p d q=>(Lo A p d q).imp tP id
 slice:=λA J q r d D=>(Fu A J q r d D).imp tP id
 attr:=Im K
 en:=λA Q g d q=>by
  cases A;case obj G P=>exact MX K x q
  all_goals exact DR _ Q g d q
 call:=λs g d q=>by have q:dj (fJ s g) (dj (i.hand s g)<|(i.fns.lookup s).bind λj=>k9 n j.own j.sc j.params j.body fuel g)=I d:=q;unfold dj at q;split at q;rename_i D;cases q;exact I7 K.blt s g _ D;split at q;rename_i D;cases q;obtain⟨M,A,p,G⟩:=K.hand s g _ D;exact⟨M,A,p,G.mono E⟩;rw[uz]at q;obtain⟨j,w,q⟩:=q;obtain⟨A,H,B⟩:=K.fns s j w;exact⟨.ref A,H,J' K B,MW x B q⟩
 const:=K.const
 aug:=Ir
 cat:=Jc
 move:=λs J g d q=>by obtain⟨M,A,p,G⟩:=K.di s J g d q;exact⟨M,A,p,G.mono E⟩
 hk:=K.hk
 range:=K.blt.range
 enum:=K.blt.enum
 zip:=K.blt.zip
 rev:=K.blt.rev
 list:=K.blt.list
def abn(K:j9 C i N y):∀k,cf C (E0 i b k) (N+k):=by
 intro k;induction k with
 |zero=>
  exact Ac K
 |succ k c=>
  exact Mj K (b_ N<|k+1)<|c
end
noncomputable abbrev cy:n':=aif
def aP:List aF:=cy.main.body
noncomputable def aJ(d:List aF)(y:Nat):aF:=(d.drop y).head?.getD<|Stmt.Pass h9
noncomputable def hX(f:aF):List aF:=if j:f.ctorIdx=2 then aij (motive_2:=λk=>List aF) f j λk k k p k k k k k k k=>p else[]
def kX(f:aF):Pc:=(AN f).elim h9 (·.2.1)
def bw(f:aF):List aF:=(AN f).elim [] (·.2.2.1)
def bY(f:aF):gQ:=(AN f).elim h9 (·.2.2.2.2.2.2.1)
def vG(st:aF):List (Option ai):=((i7 st).bind (AM ·.2.1)).elim [] (·.1)
def vH(st:aF):List ai:=((i7 st).bind (AM ·.2.1)).elim [] (·.2.1)
def Jx(f:aF):List ai:=(i7 f).elim [] (·.1)
def UX(f:aF):ai:=(i7 f).elim h9 (·.2.1)
noncomputable def vv(k:List Int):Bool:=(k.zip k.tail).all λs=>decide (s.1<s.2)
def Cg(j:vv (i::p::w)=ab):(decide (i<p)&&vv (p::w))=ab:=j
def Z1{k:List Int}:∀{i:Int},vv (i::k)=ab->∀p∈k,i<p:=by
 induction k with
 |nil=>exactλ_ p j=>nomatch j
 |cons n w d=>
  intro i m p j;have g:=of_decide_eq_true (aM<|Cg m).1;exact(cJ.mp j).elim (λf=>f▸g) λj=>uj g<|d (aM<|Cg m).2 p j
def aaL{l:List Int}(h:vv l=true):l.Nodup:=by
 induction l with
 |nil=>exact List.nodup_nil
 |cons a r tg=>
  refine List.nodup_cons.mpr ⟨λhm=>Int.lt_irrefl a<|Z1 h a hm,tg ?_⟩;clear tg;induction r using a8 with|nil=>rfl|cons b r=>exact(aM<|Cg h).2
def Y1(f:Option ai):Int:=(f.bind v').getD 0
def Qs(f:ai):ar:=(rM f).getD Str.empty
noncomputable def lV:Life:={}
def iT:aF:=aJ aP 23
def sW:List (Int×ar):=((vG iT).zip<|vH iT).map λm=>(Y1 m.1,Qs m.2)
def yd(y:Nat):List (Int×ar):=(sW.drop<|17*y).take 17
def q6:List (Int×ar):=yd 0
def jg:List (List<|Int×ar):=(bO 37).map λy=>yd<|y+1
def ny:List (Int×ar):=sW.drop 646
def jf(e:Nat->Option cC):dM:=((dM.mk (cO e 183<|b1 (el 535 q6) 17) 184 586 17<|el 535 q6).run 183 jg).last 183 ny
def sU:List e6:=(jf λ_=>ag).bf
def y2:cC:=b1 sU (jf λ_=>ag).k
def Jv(y:Nat):cC:=b1 (el (535+51*y)<|yd y) 17
def Jw:cC:=b1 (iD (535+51*38) ny) ny.length
noncomputable def dg(m:String)(r:Nat):aq:=.str (bp m) r
noncomputable def bB(i:Int):aq:=.int i 0
noncomputable def bk(i:Nat):aq:=.ref i
def cg(r:bR)(m:String)(a:Nat)(b:aq):e6:=.mk (Py r<|bp m) (dg m a) b
noncomputable def KO(k:Array aq):bR->cC:=λ_=>gP (gz "tuple") ag (GG k 0) #[]
noncomputable def Df(k:Array aq):bR->cC:=λ_=>gP dv ag (lr k) #[]
noncomputable def zj(k:Array aq):bR->cC:=λ_=>gP (gz "code") ag (lr k) #[]
noncomputable def De(k:Array e6)(y:Nat):cC:=gP (gz "dict") ag (Data.dict k y) #[]
def KJ(a:aq)(y q:String)(st:aF)(e:Nat)(b k:aq):bR->cC:=λ_=>gP a ag (Data.func {name:=bp y,qualname:=bp q,params:=kX st,body:=FuncBody.stmts<|bw st,scope:=bY st,globals:=e,closure:=[],defaults:=dv,kwdefaults:=dv,doc:=dv,pyModule:=b,annotations:=ag,code:=k,closureTuple:=dv,builtins:=0}) #[]
def eZ(y q:String)(st:aF):bR->cC:=KJ .none y q st 0 .none .none
def e0(y q:String)(st:aF)(c:aq)(k:Nat):bR->cC:=KJ (.type "function") y q st 3 c<|bk k
def vU(j:String)(e:Nat)(q:String)(p g:Nat)(k h s:Int)(A m:Nat)(B t C:aq)(D:Int)(d:Nat):bR->cC:=zj #[dg j e,dg q p,dg "/claim/cut.py" g,bB k,bB h,bB 0,bB 0,bB s,bk A,.bool ab,bB 181,bk m,.none,B,t,C,bB D,bB k,dg "/claim/cut.py" d]
def fP(e q:String)(c:Nat)(k d s:Int)(w b:Nat):bR->cC:=zj #[dg e c,dg q<|c+1,dg "/claim/cut.py"<|c+2,bB k,bB d,bB 0,bB 0,bB s,bk w,.bool ab,bB 181,bk<|w+1,.none,bk<|w+2,bk<|w+3,bk<|w+4,bB b,bB k,dg "/claim/cut.py"<|b+1]
def KP(y:Nat):List String->List aq|[]=>[]|x::k=>dg x y::KP (y+1) k
def fj(y:Nat)(k:List String):bR->cC:=KO (KP y k).toArray
def cD:=KO #[]
def eN:=Df #[]
def d1(y:Nat):bR->cC:=λ_=>Jv y
noncomputable def hC(d:cC):bR->cC:=λ_=>d
def XC:aq:=dg "__main__" 164
def ri:aq:=dg "cpy313.tabnanny" 194
def te:aq:=dg "cpy313._pylong" 299
def vW:aq:=dg "cpy313.colorsys" 381
def KN:aq:=dg "cpy313.stringprep" 466
def nD:aq:=dg "law_wb0107_01" 2494
def Xw(r:bR):List e6:=[cg r "__doc__" 166 dv,cg r "__package__" 167 dv,cg r "__loader__" 168<|qK "__main__.__loader__#opaque",cg r "__spec__" 169 dv,cg r "__annotations__" 170<|bk 6,cg r "__builtins__" 171<|bk 4,cg r "__file__" 173<|dg "/claim/cut.py" 172,cg r "__cached__" 174 dv,cg r "_wall" 193<|bk 21,cg r "Whitespace" 298<|bk 83,cg r "_DIV_LIMIT" 302<|bE 4000 301,cg r "_div2n1n" 319<|bk 94,cg r "_div3n2n" 333<|bk 101,cg r "_int2digits" 344<|bk 108,cg r "_digits2int" 355<|bk 115,cg r "_divmod_pos" 370<|bk 122,cg r "int_divmod" 380<|bk 129,cg r "ONE_THIRD" 386<|qL 4599676419421066581 385,cg r "ONE_SIXTH" 390<|qL 4595172819793696085 389,cg r "TWO_THIRD" 394<|qL 4604180019048437077 393,cg r "rgb_to_hls" 413<|bk 136,cg r "hls_to_rgb" 424<|bk 143,cg r "_v" 433<|bk 150,cg r "rgb_to_hsv" 451<|bk 157,cg r "hsv_to_rgb" 465<|bk 164,cg r "b1_set" 527<|bk 172,cg r "in_table_b1" 534<|bk 182,cg r "b3_exceptions" 2485<|bk 183,cg r "map_table_b3" 2493<|bk 228,cg r "_law_typed" 2501<|bk 233,cg r "_law_step" 2512<|bk 240,cg r "_law_mirrored" 2518<|bk 245,cg r "_law_word" 2526<|bk 252,cg r "_law_levels" 2532<|bk 257,cg r "_law_corners" 2541<|bk 264,cg r "_law_leads" 2552<|bk 271,cg r "_law_column" 2562<|bk 278,cg r "_law_borne" 2568<|bk 283,cg r "law" 2574<|bk 288]
def oJ(y:Nat)(t:aq):bR->cC:=λr=>De (cg r "__name__" 165 t::(Xw r).take (y -1)).toArray y
def oK(y:Nat):=Df ([bB 1,bB 0,bk 20,bB 5,bB 0,bk 27,bB 68,bB 0,bk 93,bB 84,bB 0,bk 100,bB 94,bB 0,bk 107,bB 110,bB 0,bk 114,bB 119,bB 0,bk 121,bB 130,bB 0,bk 128,bB 145,bB 0,bk 135,bB 168,bB 0,bk 142,bB 177,bB 0,bk 149,bB 186,bB 0,bk 156,bB 205,bB 0,bk 163,bB 228,bB 0,bk 181,bB 231,bB 0,bk 227,bB 237,bB 0,bk 232,bB 251,bB 0,bk 239,bB 254,bB 0,bk 244,bB 265,bB 0,bk 251,bB 270,bB 0,bk 256,bB 279,bB 0,bk 263,bB 281,bB 0,bk 270,bB 284,bB 0,bk 277,bB 289,bB 0,bk 282,bB 300,bB 0,bk 287].take y).toArray
noncomputable def ea:bR->BT:=λ_=>BT.nil
noncomputable def a'(d:bR->cC)(i p:bR->BT):bR->BT:=λr=>BT.node (d r) (i r)<|p r
def b'(d:bR->cC):=a' d ea ea
def e'(d i p:bR->cC):=a' d (b' i)<|b' p
noncomputable def Dd:BT->Nat->BT|.nil,_=>.nil|.node d k w,y=>bif y.beq 0 then .nil else .node d (Dd k<|y/2) (Dd w<|(y -1)/2)
def EO:=fP "__init__" "Whitespace.__init__" 213 8 2 3 32 225
def z9:=e0 "__init__" "Whitespace.__init__" (aJ (hX<|aJ aP 2) 1) ri 37
def EP:=fP "longest_run_of_spaces" "Whitespace.longest_run_of_spaces" 228 31 1 3 39 234
def ER:=e0 "longest_run_of_spaces" "Whitespace.longest_run_of_spaces" (aJ (hX<|aJ aP 2) 2) ri 44
def ES:=fP "indent_level" "Whitespace.indent_level" 237 35 2 3 46 246
def ET:=e0 "indent_level" "Whitespace.indent_level" (aJ (hX<|aJ aP 2) 3) ri 51
def EU:=fP "less" "Whitespace.less" 265 48 2 3 67 272
def EV:=e0 "less" "Whitespace.less" (aJ (hX<|aJ aP 2) 6) ri 72
def EW:=fP "not_less_witness" "Whitespace.not_less_witness" 275 59 2 3 74 283
def EX:=e0 "not_less_witness" "Whitespace.not_less_witness" (aJ (hX<|aJ aP 2) 7) ri 79
def tH:=λr=>De #[cg r "__module__" 203<|dg "cpy313.tabnanny" 194,cg r "__firstlineno__" 207<|bE 5 206,cg r "S" 211<|dg " " 209,cg r "T" 212<|dg "\t" 210,cg r "__init__" 227<|bk 38,cg r "longest_run_of_spaces" 236<|bk 45,cg r "indent_level" 248<|bk 52,cg r "equal" 256<|bk 59,cg r "not_equal_witness" 264<|bk 66,cg r "less" 274<|bk 73,cg r "not_less_witness" 285<|bk 80,cg r "__static_attributes__" 291<|bk 81,cg r "__dict__" 293<|bk 84,cg r "__weakref__" 295<|bk 85,cg r "__doc__" 296 dv] 4
def z_:=hC<|gP (gz "type") ag (Data.cls {name:=(bp "Whitespace"),bases:=[gz "object"],mro:=[bk 83,gz "object"],ns:=82,qualname:=(bp "Whitespace"),hasDict:=ab,slotNames:=[],subclasses:=[],abstract:=au,collection:=ag,hasDel:=au}) #[ag,ag,I<|dg "Whitespace" 196,I<|dg "Whitespace" 204,I<|qK "object.__new__",I<|pz ab]
def EY:=fP "_div2n1n" "_div2n1n" 303 68 3 3 88 317
def EZ:=e0 "_div2n1n" "_div2n1n" (aJ aP 5) te 93
def D_:=fP "_div3n2n" "_div3n2n" 320 84 6 3 95 331
def D':=e0 "_div3n2n" "_div3n2n" (aJ aP 6) te 100
def z7:=fP "_int2digits" "_int2digits" 334 94 2 3 102 342
def tE:=e0 "_int2digits" "_int2digits" (aJ aP 7) te 107
def z8:=fP "_digits2int" "_digits2int" 345 110 2 3 109 353
def tG:=e0 "_digits2int" "_digits2int" (aJ aP 8) te 114
def Ea:=fP "_divmod_pos" "_divmod_pos" 356 119 2 3 116 368
def Eb:=e0 "_divmod_pos" "_divmod_pos" (aJ aP 9) te 121
def Ec:=fP "int_divmod" "int_divmod" 371 130 2 3 123 378
def Ed:=e0 "int_divmod" "int_divmod" (aJ aP 10) te 128
def Ee:=fP "rgb_to_hls" "rgb_to_hls" 395 145 3 3 130 411
def Ef:=e0 "rgb_to_hls" "rgb_to_hls" (aJ aP 15) vW 135
def Eg:=fP "hls_to_rgb" "hls_to_rgb" 414 168 3 3 137 422
def Eh:=e0 "hls_to_rgb" "hls_to_rgb" (aJ aP 16) vW 142
def Ei:=fP "_v" "_v" 425 177 3 3 144 431
def Ej:=e0 "_v" "_v" (aJ aP 17) vW 149
def Ek:=fP "rgb_to_hsv" "rgb_to_hsv" 434 186 3 3 151 449
def El:=e0 "rgb_to_hsv" "rgb_to_hsv" (aJ aP 18) vW 156
def Em:=fP "hsv_to_rgb" "hsv_to_rgb" 452 205 3 3 158 463
def En:=e0 "hsv_to_rgb" "hsv_to_rgb" (aJ aP 19) vW 163
def nQ:=λ(r:bR)=>gP (gz "set") ag (Data.set #[(65024,bE 65024 484),(65025,bE 65025 485),(65026,bE 65026 486),(65027,bE 65027 487),(65028,bE 65028 488),(65029,bE 65029 489),(6150,bE 6150 470),(65030,bE 65030 490),(65031,bE 65031 491),(65032,bE 65032 492),(65033,bE 65033 493),(6155,bE 6155 471),(6156,bE 6156 472),(6157,bE 6157 473),(8203,bE 8203 474),(8204,bE 8204 475),(8205,bE 8205 476),(65034,bE 65034 494),(65035,bE 65035 495),(65036,bE 65036 496),(65037,bE 65037 497),(65038,bE 65038 498),(65039,bE 65039 499),(173,bE 173 468),(847,bE 847 469),(8288,bE 8288 477),(65279,bE 65279 478)] 29 {mask:=127,place:=#[0,1,2,3,4,5,6,7,8,9,10,11,12,13,14,15,16,17,18,19,20,21,22,45,79,96,127],dummies:=#[],finger:=0,led:=!(r.followText "set-order"),moves:=2,plain:=ab}) #[]
def Eo:=fP "in_table_b1" "in_table_b1" 528 228 1 3 176 532
def Ep:=e0 "in_table_b1" "in_table_b1" (aJ aP 22) KN 181
def rA:=oJ 40<|dg "law_wb0107_01" 2494
def Er:=fP "map_table_b3" "map_table_b3" 2486 231 1 3 222 2491
def Es:=e0 "map_table_b3" "map_table_b3" (aJ aP 24) KN 227
def Et:=vU "_law_typed" 2496 "_law_typed" 2497 2498 237 2 3 229 230 dv dv (bk 231) 2499 2500
def Eu:=e0 "_law_typed" "_law_typed" (aJ aP 26) nD 232
def Ew:=fP "_law_step" "_law_step" 2502 251 2 3 234 2510
def Ex:=e0 "_law_step" "_law_step" (aJ aP 27) nD 239
def Ey:=vU "_law_mirrored" 2513 "_law_mirrored" 2514 2515 254 4 3 241 242 dv dv (bk 243) 2516 2517
def Ez:=e0 "_law_mirrored" "_law_mirrored" (aJ aP 28) nD 244
def EA:=fP "_law_word" "_law_word" 2519 265 1 3 246 2524
def EB:=e0 "_law_word" "_law_word" (aJ aP 29) nD 251
def EC:=vU "_law_levels" 2527 "_law_levels" 2528 2529 270 1 3 253 254 dv dv (bk 255) 2530 2531
def ED:=e0 "_law_levels" "_law_levels" (aJ aP 30) nD 256
def EE:=fP "_law_corners" "_law_corners" 2533 279 3 3 258 2539
def EF:=e0 "_law_corners" "_law_corners" (aJ aP 31) nD 263
def EG:=fP "_law_leads" "_law_leads" 2542 281 4 3 265 2550
def EH:=e0 "_law_leads" "_law_leads" (aJ aP 32) nD 270
def EI:=fP "_law_column" "_law_column" 2553 284 2 3 272 2560
def EJ:=e0 "_law_column" "_law_column" (aJ aP 33) nD 277
def EK:=vU "_law_borne" 2563 "_law_borne" 2564 2565 289 3 3 279 280 dv dv (bk 281) 2566 2567
def EL:=e0 "_law_borne" "_law_borne" (aJ aP 34) nD 282
def EM:=vU "law" 2569 "law" 2570 2571 300 1 3 284 285 dv dv (bk 286) 2572 2573
def EN:=e0 "law" "law" (aJ aP 35) nD 287
def Xu(g d:bR->cC):bR->BT:=a' uL (a' GW (a' g (a' boot_o_7 (a' cD (a' (hC<|gP (gz "StopIteration") ag (lr #[bk 30,dv,dv,dv,pz au,dv]) #[]) (a' cD (a' (eZ "int_divmod" "int_divmod"<|aJ aP 10) (b'<|eZ "_law_levels" "_law_levels"<|aJ aP 30) ea)<|b'<|d1 8)<|a' cD (a' eN (b' EM) ea)<|b' eN)<|a' eN (a' EW (a' Eh (b' EH) ea)<|b'<|d1 24)<|e' (fj 348 ["digits","n"]) (hC<|gP (gz "StopIteration") ag (lr #[bk 174,dv,dv,dv,pz au,dv]) #[]) Ew)<|a' (hC<|gP (gz "builtin_function_or_method") ag (lr #[qK "type.__prepare__",gz "type"]) #[]) (a' cD (a' (eZ "less" "Whitespace.less"<|aJ (hX<|aJ aP 2) 6) (a' Ee (b' EE) ea)<|b'<|d1 16)<|e' eN (hC<|gP (gz "list") ag (GG #[bE 65024 484,bE 65025 485,bE 65026 486,bE 65027 487,bE 65028 488,bE 65029 489,bE 65030 490,bE 65031 491,bE 65032 492,bE 65033 493,bE 65034 494,bE 65035 495,bE 65036 496,bE 65037 497,bE 65038 498,bE 65039 499] 18) #[])<|eZ "_law_typed" "_law_typed"<|aJ aP 26)<|a' (fj 252 ["self","other"]) (a' (hC<|gP (gz "builtin_function_or_method") ag (lr #[qK "object.__init_subclass__",bk 83]) #[]) (a' cD (b' cD) ea)<|b'<|d1 32)<|e' cD (hC y2) eN)<|a' cD (a' (eZ "_wall" "_wall"<|aJ aP 0) (a' cD (a' cD (a' eN (b' eN) ea)<|b'<|d1 12)<|e' (eZ "_div3n2n" "_div3n2n"<|aJ aP 6) Em Er)<|a' ES (a' z_ (a' cD (b' cD) ea)<|b'<|d1 28)<|e' tG cD<|eZ "_law_mirrored" "_law_mirrored"<|aJ aP 28)<|a' (zj #[dg "Whitespace" 198,dg "Whitespace" 199,dg "/claim/cut.py" 200,bB 5,bB 0,bB 0,bB 0,bB 0,bk 25,pz au,bB 181,bk 26,dv,dv,dv,dv,bB 201,bB 5,dg "/claim/cut.py" 202]) (a' (eZ "longest_run_of_spaces" "Whitespace.longest_run_of_spaces"<|aJ (hX<|aJ aP 2) 2) (a' eN (a' (fj 417 ["h","l","s","m2","m1"]) (b'<|fj 2545 ["front","high","low","more","blanks"]) ea)<|b'<|d1 20)<|e' z7 (hC<|gP (gz "list") ag (GG #[bE 173 468,bE 847 469,bE 6150 470,bE 6155 471,bE 6156 472,bE 6157 473,bE 8203 474,bE 8204 475,bE 8205 476,bE 8288 477,bE 65279 478,bE 65024 484,bE 65025 485,bE 65026 486,bE 65027 487,bE 65028 488,bE 65029 489,bE 65030 490,bE 65031 491,bE 65032 492,bE 65033 493,bE 65034 494,bE 65035 495,bE 65036 496,bE 65037 497,bE 65038 498,bE 65039 499] 0) #[]) eN)<|a' (e0 "equal" "Whitespace.equal" (aJ (hX<|aJ aP 2) 4) ri 58) (a' cD (a' (eZ "rgb_to_hsv" "rgb_to_hsv"<|aJ aP 18) (b' EL) ea)<|b'<|d1 36)<|e' cD (d1 4) EA)<|a' boot_o_5 (a' boot_o_9 (a' (fj 190 ["k"]) (a' eN (a' (fP "not_equal_witness" "Whitespace.not_equal_witness" 257 45 2 3 60 262) (a' Ed (b' ED) ea)<|b'<|d1 10)<|e' (fj 323 ["a12","a3","b","b1","b2","n","q","r"]) cD cD)<|a' cD (a' (fj 286 ["is_simple","n","norm","nt","raw"]) (a' eN (b' eN) ea)<|b'<|d1 26)<|e' (eZ "_digits2int" "_digits2int"<|aJ aP 8) eN cD)<|a' cD (a' (fj 231 ["self","count","trailing"]) (a' EV (a' cD (b' cD) ea)<|b'<|d1 18)<|e' (fj 339 ["n","a_digits","inner"]) cD Eu)<|a' (eZ "equal" "Whitespace.equal"<|aJ (hX<|aJ aP 2) 4) (a' eN (a' (fj 437 ["r","g","b","maxc","minc","rangec","v","s","rc","gc","bc","h"]) (b'<|eZ "_law_borne" "_law_borne"<|aJ aP 34) ea)<|b'<|d1 34)<|e' Ea (d1 2) cD)<|a' (zj #[dg "<module>" 182,dg "<module>" 183,dg "/claim/cut.py" 184,bB 1,bB 0,bB 0,bB 0,bB 0,bk 11,pz au,bB 181,bk 12,dv,dv,dv,dv,bB 185,bB 1,dg "/claim/cut.py" 186]) (a' (e0 "_wall" "_wall" (aJ aP 0) XC 20) (a' EO (a' (fj 268 ["self","other","n","ts"]) (a' cD (b' cD) ea)<|b'<|d1 14)<|e' D' (hC<|gP (gz "list") ag (GG #[bE 173 468,bE 847 469,bE 6150 470,bE 6155 471,bE 6156 472,bE 6157 473,bE 8203 474,bE 8204 475,bE 8205 476,bE 8288 477,bE 65279 478] 0) #[]) cD)<|a' cD (a' (hC<|gP (gz "getset_descriptor") ag (lr #[dg "__weakref__" 294,bk 83,qK "ExceptionGroup.__weakref__",dv]) #[]) (a' Ei (b' EI) ea)<|b'<|d1 30)<|e' eN Eo Ez)<|a' (hC<|gP (gz "str_ascii_iterator") ag (lr #[dv,bB 2]) #[]) (a' ER (a' cD (a' (eZ "hls_to_rgb" "hls_to_rgb"<|aJ aP 16) (b'<|eZ "_law_leads" "_law_leads"<|aJ aP 32) ea)<|b'<|d1 22)<|e' cD (hC<|gP (gz "list_iterator") ag (lr #[dv,bB 27]) #[]) cD)<|a' eN (a' EY (a' El (b' eN) ea)<|b'<|hC Jw)<|e' (fj 374 ["a","b","q","r"]) (d1 6) cD)<|a' sb (a' boot_o_4 (a' boot_o_8 (a' eN (a' cD (a' (eZ "not_equal_witness" "Whitespace.not_equal_witness"<|aJ (hX<|aJ aP 2) 5) (a' Ec (b' EC) ea)<|b'<|d1 9)<|a' eN (a' (fj 455 ["h","s","v","i","f","p","q","t"]) (b' EN) ea)<|b'<|fj 2489 ["code","r"])<|a' (fj 240 ["self","tabsize","count","trailing","il","i"]) (a' EX (a' cD (b' cD) ea)<|b'<|d1 25)<|e' (fj 350 ["digits","n","inner"]) cD Ex)<|a' (λr=>De #[cg r "__module__" 203<|dg "cpy313.tabnanny" 194,cg r "__qualname__" 205<|dg "Whitespace" 204,cg r "__firstlineno__" 207<|bE 5 206,cg r "S" 211<|dg " " 209,cg r "T" 212<|dg "\t" 210,cg r "__init__" 227<|bk 38,cg r "longest_run_of_spaces" 236<|bk 45,cg r "indent_level" 248<|bk 52,cg r "equal" 256<|bk 59,cg r "not_equal_witness" 264<|bk 66,cg r "less" 274<|bk 73,cg r "not_less_witness" 285<|bk 80,cg r "__static_attributes__" 291<|bk 81] 13) (a' eN (a' EU (a' Ef (b' EF) ea)<|b'<|d1 17)<|e' (fj 337 ["a","n"]) (hC<|gP (gz "range_iterator") ag (lr #[bB 65040,bB 0,bB 1]) #[]) Et)<|a' cD (a' cD (a' eN (b' eN) ea)<|b'<|d1 33)<|e' (eZ "_divmod_pos" "_divmod_pos"<|aJ aP 9) (d1 1)<|fj 2522 ["place","letter"])<|a' d (a' (fP "_wall" "_wall" 187 1 1 3 15 191) (a' (eZ "__init__" "Whitespace.__init__"<|aJ (hX<|aJ aP 2) 1) (a' eN (a' (fj 398 ["r","g","b","maxc","minc","sumc","rangec","l","s","rc","gc","bc","h"]) (b'<|fj 2536 ["a","b","c"]) ea)<|b'<|d1 13)<|e' D_ En Es)<|a' ET (a' (hC<|gP (gz "getset_descriptor") ag (lr #[dg "__dict__" 292,bk 83,qK "function.__dict__",qK "function.__dict__#set"]) #[]) (a' (eZ "_v" "_v"<|aJ aP 17) (b'<|eZ "_law_column" "_law_column"<|aJ aP 33) ea)<|b'<|d1 29)<|e' cD (eZ "in_table_b1" "in_table_b1"<|aJ aP 22) Ey)<|a' (hC<|gP (gz "frame") ag agA #[I<|bk 27,I<|bk 3,I<|bk 24,ag,I<|dg "cpy313.tabnanny" 194,ag,I<|bk 0]) (a' EP (a' (fj 278 ["self","other","n","a","ts"]) (a' cD (b' cD) ea)<|b'<|d1 21)<|e' tE nQ<|fj 2505 ["place","letter","a","b","c"])<|a' cD (a' (eZ "_div2n1n" "_div2n1n"<|aJ aP 5) (a' Ek (b' cD) ea)<|b'<|d1 37)<|e' eN (d1 5) EB)<|a' boot_o_6 (a' boot_o_10 (a' cD (a' (fj 216 ["self","ws","S","T","count","b","n","nt","ch"]) (a' (e0 "not_equal_witness" "Whitespace.not_equal_witness" (aJ (hX<|aJ aP 2) 5) ri 65) (a' cD (b' cD) ea)<|b'<|d1 11)<|e' cD (eZ "hsv_to_rgb" "hsv_to_rgb"<|aJ aP 19)<|eZ "map_table_b3" "map_table_b3"<|aJ aP 24)<|a' (eZ "indent_level" "Whitespace.indent_level"<|aJ (hX<|aJ aP 2) 3) (a' tH (a' (fj 428 ["m1","m2","hue"]) (b'<|fj 2556 ["lead","size","column","sign"]) ea)<|b'<|d1 27)<|e' z8 (fj 531 ["code"]) eN)<|a' (Df #[bB 8,bB 4,bk 37,bB 31,bB 4,bk 44,bB 35,bB 4,bk 51,bB 42,bB 4,bk 58,bB 45,bB 4,bk 65,bB 48,bB 4,bk 72,bB 59,bB 4,bk 79]) (a' cD (a' cD (a' eN (b' eN) ea)<|b'<|d1 19)<|e' (eZ "_int2digits" "_int2digits"<|aJ aP 7) (hC<|gP (gz "StopIteration") ag (lr #[bk 169,dv,dv,dv,pz au,dv]) #[]) cD)<|a' (fP "equal" "Whitespace.equal" 249 42 2 3 53 254) (a' (fj 306 ["a","b","n","pad","half_n","mask","b1","b2","q1","r","q2"]) (a' cD (b' EK) ea)<|b'<|d1 35)<|e' Eb (d1 3)<|eZ "_law_word" "_law_word"<|aJ aP 29)<|a' (hC<|gP (gz "frame") ag agA #[I<|bk 13,I<|bk 3,I<|bk 3,ag,I<|dg "__main__" 164,ag,I<|bk 0]) (a' cD (a' z9 (a' cD (a' (eZ "rgb_to_hls" "rgb_to_hls"<|aJ aP 15) (b'<|eZ "_law_corners" "_law_corners"<|aJ aP 31) ea)<|b'<|d1 15)<|e' cD (hC<|gP (gz "range") ag (lr #[bE 65024 479,bE 65040 480,bE 1 481]) #[]) eN)<|a' eN (a' (hC<|gP (gz "super") ag (lr #[bk 83,bk 83,bk 83]) #[]) (a' Ej (b' EJ) ea)<|b'<|d1 31)<|e' (fj 359 ["a","b","n","a_digits","r","q_digits","a_digit","q_digit","q"]) Ep cD)<|a' cD (a' cD (a' (eZ "not_less_witness" "Whitespace.not_less_witness"<|aJ (hX<|aJ aP 2) 7) (a' Eg (b' EG) ea)<|b'<|d1 23)<|e' eN cD<|eZ "_law_step" "_law_step"<|aJ aP 27)<|a' (fj 260 ["self","other"]) (a' EZ (a' cD (b'<|eZ "law" "law"<|aJ aP 35) ea)<|b' cD)<|e' cD (d1 7) eN
def nE(y:Nat)(g d:bR->cC):bR->BT:=λr=>Dd (Xu g d r) y
def u0:bR->BT:=nE 15 boot_o_3 eN
def yz:bR->BT:=nE 22 (oJ 10<|dg "cpy313.tabnanny" 194)<|oK 3
def vj:bR->BT:=nE 88 (oJ 11<|dg "cpy313.tabnanny" 194)<|oK 6
def Q_:bR->BT:=nE 130 (oJ 19<|dg "cpy313.colorsys" 381)<|oK 24
def Q':bR->BT:=nE 165 (oJ 26<|dg "cpy313.stringprep" 466)<|oK 39
def Ra:bR->BT:=nE 176 (oJ 27<|dg "cpy313.stringprep" 466)<|oK 39
def my:bR->BT:=nE 183 (oJ 28<|dg "cpy313.stringprep" 466)<|oK 42
def Rb:bR->BT:=nE 222 (oJ 29<|dg "cpy313.stringprep" 466)<|oK 42
def gD:bR->BT:=nE 289 rA<|oK 75
def sF:bR->BT:=nE 222 (oJ 28<|dg "cpy313.stringprep" 466)<|oK 42
noncomputable def MB:Nat:=12
noncomputable def MC:a7:=⟨0,0,0,0⟩
noncomputable def hj:a7:=⟨0,0,0,0⟩
def gE:Option aq:=(I<|bk 6)
noncomputable def gC:Nat:=11
def eh:kK:={scope:=cy.main.scope,locals:=mainNs,globals:=mainNs,cells:=[],code:=(bk 13),frame:=(I 14)}
noncomputable def IL:Nat:=0
noncomputable def IM:a7:=⟨0,0,0,0⟩
def B2(n:a4)(os:j0):pA:=⟨u0 n.params,15,lV,#[],iM,187,os⟩
def vi(n:a4)(os:j0):pA:=⟨yz n.params,22,lV,#[],iM,196,os⟩
noncomputable def jn:Nat:=38
noncomputable def dZ:a7:=⟨4,0,4,8⟩
def dd:List aF:=(aP.drop 0).take 2
def vk(n:a4)(os:j0):pA:=⟨vj n.params,88,lV,#[],iM,299,os⟩
noncomputable def jO:Nat:=495
noncomputable def fa:a7:=⟨5,0,65,16⟩
def cp:List aF:=(aP.drop 2).take 1
def HS(n:a4)(os:j0):pA:=⟨Q_ n.params,130,lV,#[],iM,387,os⟩
noncomputable def tw:Nat:=252
noncomputable def Aj:a7:=⟨142,0,142,9⟩
def gg:List aF:=(aP.drop 3).take 10
def q0(n:a4)(os:j0):pA:=⟨Q' n.params,165,lV,#[],iM,468,os⟩
noncomputable def LY:Nat:=220
noncomputable def rD:a7:=⟨226,0,226,8⟩
def gK:List aF:=(aP.drop 13).take 8
def q1(n:a4)(os:j0):pA:=⟨Ra n.params,176,lV,#[],iM,528,os⟩
noncomputable def rz:Nat:=998
noncomputable def rE:a7:=⟨227,0,227,6⟩
def oH:List aF:=(aP.drop 21).take 1
def B3(n:a4)(os:j0):pA:=⟨my n.params,183,lV,#[],iM,535,os⟩
noncomputable def LZ:Nat:=29
noncomputable def Fh:a7:=⟨228,0,229,30⟩
def vO:List aF:=(aP.drop 22).take 1
def B4(n:a4)(os:j0):pA:=⟨Rb n.params,222,lV,#[],iM,2486,os⟩
noncomputable def DY:Nat:=12524
noncomputable def Fi:a7:=⟨230,0,230,13⟩
def ze:List aF:=(aP.drop 23).take 1
def HT(n:a4)(os:j0):pA:=⟨gD n.params,289,lV,#[],iM,2575,os⟩
noncomputable def L0:Nat:=328
noncomputable def MG:a7:=⟨300,0,344,15⟩
def Kr:List aF:=(aP.drop 24).take 12
noncomputable def J5:Nat:=1
def dP:Code:=Code.body (GV cy) eh
noncomputable def HO(n:a4)(os:j0):ax:=⟨sa n.params,#[],iM,boot_toks,os⟩
def ab9(n:a4):(λos=>topGo hb cy n gC gE MB (HO n os)<|topStub cy)=λos=>I ((⟨⟨(BT.list (u0 n.params) 15).toArray,lV⟩,#[],iM,187,os⟩:ax),(⟨G2 hb dP,dP,MC,[hN hj]⟩:GS)):=by kernel_rfl
def SK(n:a4):(λos=>segRun hb cy n gC gE 1 (IL+1) (B2 n os).abs<|blockOf (GV cy) eh dP MC [hN hj])=λos=>I (f',(B2 n os).abs,dP,IM):=by kernel_rfl
def abG(n:a4):(λos=>se hb cy n gC gE 1 (jn+1) (B2 n os)<|jB dd eh dP IM [hN hj])=λos=>I (f',vi n os,dP,dZ):=by kernel_rfl
def B0(n:a4):Prop:=(λos=>r9 r_ cy n gC gE 1 (jO+1) (vi n os)<|jB cp eh dP dZ [hN hj])=λos=>I (f',vk n os,dP,fa)
def abI(n:a4):(λos=>r9 r_ cy (e7 n "special-get-raises" au) gC gE 1 (jO+1) (vi (e7 n "special-get-raises" au) os)<|jB cp eh dP dZ [hN hj])=λos=>I (f',vk (e7 n "special-get-raises" au) os,dP,fa):=by kernel_rfl
def abJ(n:a4):(λos=>r9 r_ cy (e7 n "special-get-raises" ab) gC gE 1 (jO+1) (vi (e7 n "special-get-raises" ab) os)<|jB cp eh dP dZ [hN hj])=λos=>I (f',vk (e7 n "special-get-raises" ab) os,dP,fa):=by kernel_rfl
def abU(n:a4):B0 n:=Bk "special-get-raises" (P:=B0) (λn=>abI n) (λn=>abJ n) n
def abH(n:a4):(λos=>se hb cy n gC gE 1 (jO+1) (vi n os)<|jB cp eh dP dZ [hN hj])=λos=>I (f',vk n os,dP,fa):=by have j:=abU n;unfold B0 at j;rw[<-aho,<-ahn]at j;exact j
def abK(n:a4):(λos=>se hb cy n gC gE 1 (tw+1) (vk n os)<|jB gg eh dP fa [hN hj])=λos=>I (f',HS n os,dP,Aj):=by kernel_rfl
def abL(n:a4):(λos=>se hb cy n gC gE 1 (LY+1) (HS n os)<|jB gK eh dP Aj [hN hj])=λos=>I (f',q0 n os,dP,rD):=by kernel_rfl
def vf(n:a4):Prop:=(λos=>r9 r_ cy n gC gE 1 (rz+1) (q0 n os)<|jB oH eh dP rD [hN hj])=λos=>I (f',q1 n os,dP,rE)
def abN(n:a4):(λos=>r9 r_ cy (e7 (e7 n "special-get-raises" au) "set-order" au) gC gE 1 (rz+1) (q0 (e7 (e7 n "special-get-raises" au) "set-order" au) os)<|jB oH eh dP rD [hN hj])=λos=>I (f',q1 (e7 (e7 n "special-get-raises" au) "set-order" au) os,dP,rE):=by kernel_rfl
def abP(n:a4):(λos=>r9 r_ cy (e7 (e7 n "special-get-raises" au) "set-order" ab) gC gE 1 (rz+1) (q0 (e7 (e7 n "special-get-raises" au) "set-order" ab) os)<|jB oH eh dP rD [hN hj])=λos=>I (f',q1 (e7 (e7 n "special-get-raises" au) "set-order" ab) os,dP,rE):=by kernel_rfl
def abO(n:a4):(λos=>r9 r_ cy (e7 (e7 n "special-get-raises" ab) "set-order" au) gC gE 1 (rz+1) (q0 (e7 (e7 n "special-get-raises" ab) "set-order" au) os)<|jB oH eh dP rD [hN hj])=λos=>I (f',q1 (e7 (e7 n "special-get-raises" ab) "set-order" au) os,dP,rE):=by kernel_rfl
def abQ(n:a4):(λos=>r9 r_ cy (e7 (e7 n "special-get-raises" ab) "set-order" ab) gC gE 1 (rz+1) (q0 (e7 (e7 n "special-get-raises" ab) "set-order" ab) os)<|jB oH eh dP rD [hN hj])=λos=>I (f',q1 (e7 (e7 n "special-get-raises" ab) "set-order" ab) os,dP,rE):=by kernel_rfl
def abV(n:a4):vf n:=Bk "set-order" (P:=vf) (λn=>Bk "special-get-raises" (P:=λn=>vf<|e7 n "set-order" au) (λn=>abN n) (λn=>abO n) n) (λn=>Bk "special-get-raises" (P:=λn=>vf<|e7 n "set-order" ab) (λn=>abP n) (λn=>abQ n) n) n
def abM(n:a4):(λos=>se hb cy n gC gE 1 (rz+1) (q0 n os)<|jB oH eh dP rD [hN hj])=λos=>I (f',q1 n os,dP,rE):=by have j:=abV n;unfold vf at j;rw[<-aho,<-ahn]at j;exact j
def abR(n:a4):(λos=>se hb cy n gC gE 1 (LZ+1) (q1 n os)<|jB vO eh dP rE [hN hj])=λos=>I (f',B3 n os,dP,Fh):=by kernel_rfl
def B5(n:a4)(os:j0):pA:=⟨sF n.params,222,lV,#[],iM,2485,os⟩
def nz:a7:=((i7 iT).bind (AM ·.2.1)).elim h9 (·.2.2)
def JE:sW=q6++(jg.flatten++ny):=by kernel_rfl
def U':vv (sW.map (·.1))=ab:=by kernel_rfl
def Va:(sW.all λm=>decide (0<=m.1)&&decide (m.1<2^31))=ab:=by kernel_rfl
def UR:q6.length=17:=by kernel_rfl
def UU:(jg.all λg=>g.length==17)=ab:=by kernel_rfl
def CM:ny.length=4:=by kernel_rfl
def YS:(G6 (vG iT) eh).zip ((sj (vH iT) eh).map λt=>do let m<-t;fG nz;bg m)=sW.map (nH nz):=by kernel_rfl
def UM(e):(jf e).n=222:=by kernel_rfl
def UN(e):(jf e).t=2485:=by kernel_rfl
def UT(r:bR):(bO 183).map (my r).get=(bO 183).map (sF r).get:=by kernel_rfl
def UW(r:bR):(bO 37).map (λb=>(sF r).get<|184+b)=(bO 37).map (λb=>I<|Jv<|b+1):=by kernel_rfl
def UI(r:bR):(sF r).get 221=I Jw:=by kernel_rfl
def UJ(r:bR):(sF r).get 183=I y2:=by kernel_rfl
def CN:jg.length=37:=by show((bO 37).map _).length=_;simp
def Il{s j:Nat->Option cC}(b:(bO a).map s=(bO a).map j)(g:y<a):s y=j y:=by have:=congrArg (λk=>k[y]?) b;simpa[g]using this
def pe(e:Nat->Option cC):dM:=dM.mk (cO e 183<|b1 (el 535 q6) 17) 184 586 17<|el 535 q6
def acK(d:Nat):∀(s:List (List<|Int×ar))(m b:dM),m.bf=b.bf->m.t=b.t->m.k=b.k->(m.run d s).bf=(b.run d s).bf/\(m.run d s).k=(b.run d s).k/\(m.run d s).t=(b.run d s).t:=by
 intro s;induction s with
 |nil=>
  exact @λm b g q e=>⟨g,e,q⟩
 |cons f s a=>
  exact @λm b g q e=>a (m.next d f) (b.next d f) (by show m.bf++el m.t f=b.bf++el b.t f;rw[g,q]) (by show m.t+51=b.t+51;rw[q]) (by show m.k+17=b.k+17;rw[e])
def UK(e j):(jf e).bf=(jf j).bf/\(jf e).k=(jf j).k:=by obtain⟨i,p,d⟩:=acK 183 jg (pe e) (pe j) rfl rfl rfl;refine⟨?_,?_⟩;show((pe e).run 183 jg).bf++iD ((pe e).run 183 jg).t ny=((pe j).run 183 jg).bf++iD ((pe j).run 183 jg).t ny;rw[i,d];show((pe e).run 183 jg).k+_=((pe j).run 183 jg).k+_;rw[p]
def UL(r:bR):ao (jf (my r).get).g 222=ao (sF r).get 222:=by refine dM.R_ (x:=pe (my r).get) (by show 183<184;decide) (by rw[CN];rfl) ?_ ?_ ?_ ?_;intro y d n;have d:y<184:=d;show cO _ _ _ y=_;rw[n1 n];exact Il (UT r)<|xy (m9 d) n;intro c p;rw[CN]at p;have:=Il (UW r) p;refine this.trans ?_;show I (b1 (el (535+51*(c+1))<|yd<|c+1) 17)=I (b1 (el (586+51*c) jg[c]) 17);rw[show 535+51*(c+1)=586+51*c from(congrArg (535+·)<|fU (51*c) 51).trans (hy 535 51<|51*c).symm];simp[jg];rw[CN];exact UI r;refine(UJ r).trans ?_;obtain⟨e,f⟩:=UK (my r).get λ_=>ag;show I (b1 (jf λ_=>ag).bf (jf λ_=>ag).k)=I (b1 (jf (my r).get).bf (jf (my r).get).k);rw[e,f]
def UQ:gd [] (q6++(jg.flatten++ny)):=by rw[<-JE];refine⟨by simpa using aaL U',λm ae=>?_⟩;have:=bZ.mp Va m ae;simpa using this
def y3(t:aq):ct mq:=do PK eh t (<-qR (Jx iT) (UX iT) eh) ((uN (Jx iT) eh).map (·.2))
def UP:dm ze eh=(fG (iT.pos)>>=λ_=>fG nz>>=λ_=>(Bs ((G6 (vG iT) eh).zip ((sj (vH iT) eh).map λt=>do let m<-t;fG nz;bg m))>>=y3))>>=λf=>match f with|.next=>dm [] eh|f=>bg f:=by kernel_rfl
def UO:dm ze eh=((fG (iT.pos)>>=λ_=>fG nz>>=λ_=>Bs ((G6 (vG iT) eh).zip ((sj (vH iT) eh).map λt=>do let m<-t;fG nz;bg m)))>>=λt=>y3 t>>=λf=>match f with|.next=>dm [] eh|f=>bg f):=by rw[UP];simp only[r0]
def US(n:a4):(λos=>se hb cy n gC gE 1 8 (B5 n os) ⟨(y3 (.ref 183)>>=λf=>match f with|.next=>dm [] eh|f=>bg f).wrap doneF deadEnd id id,dP,nz,[hN hj]⟩)=λos=>I (f',B4 n os,dP,Fi):=by kernel_rfl
def abS(a:a4)(os:j0):segRun hb cy a gC gE 1 (DY+1) (B3 a os).abs (jB ze eh dP Fh [hN hj])=I (f',(B4 a os).abs,dP,Fi):=by
 have j:ay cy a gC gE (fG (iT.pos)>>=λ_=>fG nz>>=λ_=>Bs ((G6 (vG iT) eh).zip ((sj (vH iT) eh).map λb=>do let m<-b;fG nz;bg m)))
   (B3 a os).abs Fh (.ref 183) (B5 a os).abs nz (1+(1+(223+(330*jg.length+(6+19*ny.length))))):=by
  refine ay.bind (n:=1) ay.at_<|ay.bind (n:=1) ay.at_ ?_
  rw[YS,JE]
  have r:(B5 a os).abs=⟨ao (jf (my a.params).get).g (jf (my a.params).get).n,#[],iM,(jf (my a.params).get).t,os⟩:=by rw[UM,UN,UL a.params];rfl
  rw[r]
  exact ay.display (p:=cy) (g:=(my a.params).get) (n:=183) (t:=535) (by decide) (by decide) UR (λq i=>by simpa using bZ.mp UU q i) (by rw[CM];decide) (by intro j;have:=CM;rw[j]at this;cases this)
   UQ (by show 17*((bO 37).map _).length<_;simp) rfl
 have y:=j (λb=>(y3 b>>=λf=>match f with|.next=>dm [] eh|f=>bg f).wrap doneF deadEnd id id) deadEnd id id dP<|hN hj;have k:=congrFun (US a) os;have A:=seg_go y<|sf k;unfold jB;rw[UO,ag7,GR];have d:DY+1=1+(1+(223+(330*jg.length+(6+19*ny.length))))+8:=by rw[CM];show 12524+1=1+(1+(223+(330*((bO 37).map _).length+_)))+8;simp
 rw[d];exact A
def abT(n:a4):(λos=>se hb cy n gC gE 1 (L0+1) (B4 n os)<|jB Kr eh dP Fi [hN hj])=λos=>I (f',HT n os,dP,MG):=by kernel_rfl
def hR(r:bR):cc:=absHeap (gD r) 289 lV
def Wj(n:a4):(λos=>topRun hb cy n gC gE (J5+1) (HT n os).abs ⟨doneF .next,dP,MG,[hN hj]⟩)=λos=>I (⟨hR n.params,#[],iM,2575,os⟩:ax):=by kernel_rfl
def SY:GV cy=dd++(cp++(gg++(gK++(oH++(vO++(ze++(Kr++[]))))))):=by kernel_rfl
def yp:Nat:=MB+((IL+1)+((jn+1)+((jO+1)+((tw+1)+((LY+1)+((rz+1)+((LZ+1)+((DY+1)+((L0+1)+(J5+1))))))))))
def acL(n:a4)(os:j0):topRun hb cy n gC gE yp (HO n os) (topStub cy)=I ⟨hR n.params,#[],iM,2575,os⟩:=by refine go_top (congrFun (ab9 n) os) ?_;refine piece_block (b:=GV cy) (congrFun (SK n) os) ?_;rw[SY];refine sd (sf<|congrFun (abG n) os) ?_;refine sd (sf<|congrFun (abH n) os) ?_;refine sd (sf<|congrFun (abK n) os) ?_;refine sd (sf<|congrFun (abL n) os) ?_;refine sd (sf<|congrFun (abM n) os) ?_;refine sd (sf<|congrFun (abR n) os) ?_;refine sd (abS n os) ?_;refine sd (sf<|congrFun (abT n) os) ?_;exact piece_nil<|congrFun (Wj n) os
def Ak:n':={cy with main:={cy.main with body:=[aJ aP 35]}}
def zO:List ar:=cy.boundNames.filter λy=>y !=("law":ar)
def abm:∀n:a4,(fencedOpening hb cy n<|yp+600).map (λl=>(l.heap,l.gens,l.drawn,l.toks))=I (sa n.params,#[],iM,boot_toks):=boot_open (by kernel_rfl) (by kernel_rfl) (λl=>by kernel_rfl)
def ac_(n:a4):((sa n.params).isNs xR&&(#[]:Array GenState).size==0,(sa n.params).objs.size,(sa n.params).nsMap xR "__annotations__")=(ab,gC,gE):=by kernel_rfl
def ZD(n:a4):(λos=>(staticsOk (ahA cy.main.body) (sa n.params) (hR n.params)&&namesBound cy (hR n.params)&&gensDone ⟨hR n.params,#[],iM,2575,os⟩&&laidKept (sa n.params) (hR n.params)))=λ(os:j0)=>ab:=by kernel_rfl
def ZE(n:a4):(λos=>openSeen Ak zO (ahA cy.main.body) (λ_=>ab) ab ⟨hR n.params,#[],iM,2575,os⟩)=λ(os:j0)=>openGood Ak zO:=by kernel_rfl
noncomputable def vq(l:ax):cc×Nat:=(l.heap,l.toks)
def vp(n:a4):cc×Nat:=(hR n.params,2575)
def Zh:LeftO cy Ak zO (λ_=>ab) vq vp (yp+600):=LeftO.of_pieces (H₀:=sa) (H₁:=hR) (gs₁:=#[]) (d₁:=iM) (k₁:=2575) abm ac_ acL (by kernel_rfl) λn=>funext λos=>Prod.ext (congrFun (ZD n) os)<|Prod.ext (congrFun (ZE n) os) rfl
def jE(i:aE):Prop:=i=103\/i=110
def rP(a:cc)(j:a7)(q:ar)(n:Array aq):Prop:=TriplesOk n.toList/\(codeAmong j n.toList=ag\/∃g d x r,codeAmong j n.toList=I (.ref g)/\a.get? g=I d/\fz d/\d.data=.fields x/\x[1]?=I (.str q r))
def CO(f:aF):a7:=(AN f).elim ⟨0,0,0,0⟩ (·.2.2.2.2.2.2.2.2.2)
def zv(y b:Nat):aF:=aJ (bw<|aJ aP y) b
def Fb:a7:=CO<|zv 7 1
def Fc:a7:=CO<|zv 8 0
def e3(b:a4)(j:cc):Prop:=(∀i d,i<289->¬jE i->(hR b.params).get? i=I d->j.get? i=I d)/\(∃n,j.get? 103=I (r' n)/\rP j Fb "_int2digits.<locals>.inner" n)/\(∃n,j.get? 110=I (r' n)/\rP j Fc "_digits2int.<locals>.inner" n)
def rP.lb{q:ar}(k:∀m f,fz f->d.get? m=I f->y.get? m=I f)(e:rP d j q n):rP y j q n:=by obtain⟨i,m⟩:=e;refine⟨i,m.imp id ?_⟩;rintro⟨w,f,x,r,s,l,p,b5⟩;exact⟨w,f,x,r,s,k _ _ p l,p,b5⟩
def zh(j:a<289)(e:(gD r).get a=I d):(hR r).get? a=mr d:=abs_get j e
def u4(d:cC):Array e6:=match d.data with|.dict b _=>b|_=>#[]
def adO(j:(b.all λf=>uP f.key)=ab):StrKeys b:=by
 intro f i;have:=afm.mp j f i;obtain⟨l,d,t⟩:=f;cases d<;>try exact fT this
 exact⟨_,_,rfl⟩
def z5{j:cc}(f:j.get? i=I b)(d:b.data=.dict bf n)(k:(bf.all λf=>uP f.key)=ab):j.Ns i (λm=>ie bf m):=⟨b,bf,n,f,d,adO k,λc=>rfl⟩
def y_(r:bR):Array e6:=u4<|uL r
def vN(r:bR):Array e6:=u4<|sb r
def lP(r:bR):Array e6:=u4<|rA r
def nh(r:bR):(gD r).get 0=I (uL r):=z
def b3(r:bR):(gD r).get 1=I (GW r):=z
def cv(r:bR):(gD r).get 2=I (sb r):=z
def e_(r:bR):(gD r).get 3=I (rA r):=z
def iA(r:bR):((y_ r).all λf=>uP f.key)=ab:=z
def dR(r:bR):((vN r).all λf=>uP f.key)=ab:=z
def ti(r:bR):((lP r).all λf=>uP f.key)=ab:=z
def y7(d:cC):Nat:=match d.data with|.dict _ y=>y|_=>0
def bA(r:bR):(uL r).data=.dict (y_ r) (y7<|uL r):=z
def eF(r:bR):(sb r).data=.dict (vN r) (y7<|sb r):=z
def UH(r:bR):(rA r).data=.dict (lP r) (y7<|rA r):=z
def Rm(r:bR):mr (uL r)=I (uL r):=z
def c9(r:bR):mr (GW r)=I (GW r):=z
def dp(r:bR):mr (sb r)=I (sb r):=z
def gh(r:bR):mr (rA r)=I (rA r):=z
section
variable{w:a4}{h:cc}
def gF{a:Nat}(r:e3 w h)(p:a<289)(i:(pq a 103||pq a 110)=au)(e:(gD w.params).get a=I d)(y:mr d=I d):h.get? a=I d:=by refine r.1 a d p (λq=>?_)<|(zh p e).trans y;rcases q with rfl|rfl<;>simp at i
def aaM(r:e3 w h):h.Ns 0 (λm=>ie (y_ w.params) m):=z5 (gF r z rfl (nh _)<|Rm _) (bA _)<|iA _
def Ma(r:e3 w h):h.Ns 2 (λm=>ie (vN w.params) m):=z5 (gF r z rfl (cv _)<|dp _) (eF _)<|dR _
def wA(r:e3 w h):h.Ns 3 (λm=>ie (lP w.params) m):=z5 (gF r z rfl (e_ _)<|gh _) (UH _)<|ti _
def aaI(r:bR):ie (vN r) sharingNotToldKey=ag:=z
def aaJ(r:bR):ie (vN r) "sys.recursionlimit"=ag:=z
def S0(r:e3 w h):uJ h:=⟨_,Ma r,aaI _⟩
def D5(r:e3 w h):h.NoLimit:=⟨_,Ma r,aaJ _⟩
end
noncomputable def Hy(r:BT)(i:Nat):Bool:=match r.get i with|some d=>(mr d).isSome|none=>au
def RC(r:bR):((bO 289).all λi=>Hy (gD r) i)=ab:=z
def Rw(j:mr a=I w):w=a:=by obtain⟨g,d,k,p⟩:=a;cases k<;>first|exact nS j|exact(aS j).symm
def Sm{i:Nat}(r:e3 n j)(p:i<289)(b:¬jE i):∃d,j.get? i=some d:=by
 have:=bZ.mp (RC n.params) i<|ee.mpr p;unfold Hy at this;induction c:(gD n.params).get i using b7 with
 |none=>rw[c]at this;cases this
 |some d=>
  rw[c]at this;dsimp only at this;induction q:mr d using b7 with
  |none=>rw[q]at this;cases this
  |some e=>
   have:=Rw q;subst this;exact⟨_,r.1 i _ p b<|(zh p c).trans q⟩
def az(n:a4):bC where
 prog:=cy
 w:=n
 T:=jE
 P:=λi=>i<289/\¬jE i
 G:=3
 B:=0
 ew:=e3 n
 lb:=λj y r k=>by obtain⟨b3,⟨C,s,dd⟩,⟨q,l,cp⟩⟩:=r;refine⟨λi d m x f=>k i d (.inr<|.inl ⟨m,x⟩)<|b3 i d m x f,⟨C,k _ _ (.inl<|.inl rfl) s,dd.lb λA d g f=>k A d (.inr<|.inr g) f⟩,⟨q,k _ _ (.inl<|.inr rfl) l,cp.lb λA d g f=>k A d (.inr<|.inr g) f⟩⟩
 Ag:=λj i r D=>Sm r D.1 D.2
 booked:=λj r=>S0 r
 w8:=λj r=>⟨_,gF r z rfl (b3 _)<|c9 _⟩
def fi(f:ie (lP n.params) m=I a):b4 (az n) m a:=λj r=>⟨_,wA r,.inl f⟩
def ix(y:ie (lP a.params) m=ag)(f:ie (y_ a.params) m=I b):b4 (az a) m b:=λj r=>⟨_,wA r,.inr ⟨y,_,aaM r,f⟩⟩
def sL(n:a4):jb (az n)where
 len:=ix z z
 ord:=ix z z
 chr:=ix z z
 str:=ix z z
 sum:=ix z z
 max:=ix z z
 min:=ix z z
 abs:=ix z z
 round:=ix z z
 int:=ix z z
 tuple:=ix z z
 divmod:=ix z z
 range:=ix z z
 enum:=ix z z
 zip:=ix z z
 rev:=ix z z
 list:=ix z z
def bt(l:aF):List ar:=(kX l).args.map (·.arg)
def eY(l:aF)(c:List ar):uW:=⟨bY l,bt l,bw l,c⟩
def eM(d:cC):Bh:=match d.data with|.func e=>e|_=>h9
def fw(d:cC):Array aq:=match d.data with|.fields x=>x|_=>#[]
def fx{a cd:Nat}(p:a<289)(i:(pq a 103||pq a 110)=au)(G:(gD c.params).get a=I aQ)(y:mr aQ=I aQ)(d:aQ.data=.func fd)(m:aQ.cls=.type "function")(E:cd<289)(s:(pq cd 103||pq cd 110)=au)(A:(gD c.params).get cd=I eP)(x:mr eP=I eP)(l:fd.code=.ref cd)(r:eP.data=.fields bl)(F:bl[1]?=I (.str fd.qualname t))(B:fd.scope=b)(q:fd.body=.stmts f)(e:fd.closure=[])(C:fd.globals=3)(D:fd.builtins=0)(j:∀k:List aq,k.length=n.length->Bp fd ⟨k,[]⟩=bg (n.zip k)):dA (az c) a b n f:=⟨⟨aQ,fd,d,λH t=>⟨gF t p i G y,cd,eP,bl,_,l,gF t E s A x,r,F⟩,B,q,e,C,D,j⟩,λH t=>D5 t,λH t=>⟨aQ,fd,gF t p i G y,d,m⟩⟩
def tn{b:Type}{k:List b}(j:k.length=y+1):∃i r,k=i::r/\r.length=y:=by induction k using a8 with|nil=>exact Nat.noConfusion j|cons i r=>exact⟨i,r,rfl,agj j⟩
def ro{n:Type}{k:List n}(j:k.length=1):∃i,k=[i]:=by obtain⟨i,r,rfl,q⟩:=tn j;exact⟨i,congrArg _<|OK.mp q⟩
def lU{n:Type}{k:List n}(j:k.length=2):∃i p,k=[i,p]:=by obtain⟨i,r,rfl,q⟩:=tn j;exact(ro q).elim λp f=>⟨i,p,congrArg _ f⟩
def oR{n:Type}{k:List n}(j:k.length=3):∃i p g,k=[i,p,g]:=by obtain⟨i,r,rfl,q⟩:=tn j;obtain⟨p,g,f⟩:=lU q;exact⟨i,p,g,congrArg _ f⟩
def Dz{n:Type}{k:List n}(j:k.length=4):∃i p g d,k=[i,p,g,d]:=by obtain⟨i,r,rfl,q⟩:=tn j;obtain⟨p,g,d,f⟩:=oR q;exact⟨i,p,g,d,congrArg _ f⟩
def Zi{n:Type}{k:List n}(j:k.length=6):∃i p g d m s,k=[i,p,g,d,m,s]:=by obtain⟨i,A,rfl,q⟩:=tn j;obtain⟨p,B,rfl,x⟩:=tn q;obtain⟨g,d,m,s,y⟩:=Dz x;exact⟨i,p,g,d,m,s,by rw[y]⟩
def md:aF:=(aJ (hX<|aJ aP 2) 1)
def V4(n:a4):dA (az n) 38 (bY md) (bt md) (bw md):=by refine fx (a:=38) (cd:=37) (aQ:=z9 n.params) (eP:=EO n.params) (fd:=eM<|z9 n.params) (bl:=fw<|EO n.params) (t:=214) z rfl z z z z z rfl z z z z z z z z z z λk e=>?_;have y:(bt md).length=2:=z;obtain⟨i,p,rfl⟩:=lU<|e.trans y;kernel_rfl
def me:aF:=(aJ (hX<|aJ aP 2) 2)
def V5(n:a4):dA (az n) 45 (bY me) (bt me) (bw me):=by refine fx (a:=45) (cd:=44) (aQ:=ER n.params) (eP:=EP n.params) (fd:=eM<|ER n.params) (bl:=fw<|EP n.params) (t:=229) z rfl z z z z z rfl z z z z z z z z z z λk e=>?_;have y:(bt me).length=1:=z;obtain⟨i,rfl⟩:=ro<|e.trans y;kernel_rfl
def mf:aF:=(aJ (hX<|aJ aP 2) 3)
def V6(n:a4):dA (az n) 52 (bY mf) (bt mf) (bw mf):=by refine fx (a:=52) (cd:=51) (aQ:=ET n.params) (eP:=ES n.params) (fd:=eM<|ET n.params) (bl:=fw<|ES n.params) (t:=238) z rfl z z z z z rfl z z z z z z z z z z λk e=>?_;have y:(bt mf).length=2:=z;obtain⟨i,p,rfl⟩:=lU<|e.trans y;kernel_rfl
def w1:aF:=(aJ (hX<|aJ aP 2) 6)
def V7(n:a4):dA (az n) 73 (bY w1) (bt w1) (bw w1):=by refine fx (a:=73) (cd:=72) (aQ:=EV n.params) (eP:=EU n.params) (fd:=eM<|EV n.params) (bl:=fw<|EU n.params) (t:=266) z rfl z z z z z rfl z z z z z z z z z z λk e=>?_;have y:(bt w1).length=2:=z;obtain⟨i,p,rfl⟩:=lU<|e.trans y;kernel_rfl
def mg:aF:=(aJ (hX<|aJ aP 2) 7)
def V8(n:a4):dA (az n) 80 (bY mg) (bt mg) (bw mg):=by refine fx (a:=80) (cd:=79) (aQ:=EX n.params) (eP:=EW n.params) (fd:=eM<|EX n.params) (bl:=fw<|EW n.params) (t:=276) z rfl z z z z z rfl z z z z z z z z z z λk e=>?_;have y:(bt mg).length=2:=z;obtain⟨i,p,rfl⟩:=lU<|e.trans y;kernel_rfl
def w2:aF:=(aJ aP 5)
def V9(n:a4):dA (az n) 94 (bY w2) (bt w2) (bw w2):=by refine fx (a:=94) (cd:=93) (aQ:=EZ n.params) (eP:=EY n.params) (fd:=eM<|EZ n.params) (bl:=fw<|EY n.params) (t:=304) z rfl z z z z z rfl z z z z z z z z z z λk e=>?_;have y:(bt w2).length=3:=z;obtain⟨i,p,g,rfl⟩:=oR<|e.trans y;kernel_rfl
def Xd(n:a4):b4 (az n) "_div2n1n" (.ref 94):=fi z
def wV:aF:=(aJ aP 6)
def VQ(n:a4):dA (az n) 101 (bY wV) (bt wV) (bw wV):=by refine fx (a:=101) (cd:=100) (aQ:=D' n.params) (eP:=D_ n.params) (fd:=eM<|D' n.params) (bl:=fw<|D_ n.params) (t:=321) z rfl z z z z z rfl z z z z z z z z z z λk h=>?_;have y:(bt wV).length=6:=z;obtain⟨i,p,g,d,j,s,rfl⟩:=Zi<|h.trans y;kernel_rfl
def WR(n:a4):b4 (az n) "_div3n2n" (.ref 101):=fi z
def mS:aF:=(aJ aP 7)
def JW(n:a4):dA (az n) 108 (bY mS) (bt mS) (bw mS):=by refine fx (a:=108) (cd:=107) (aQ:=tE n.params) (eP:=z7 n.params) (fd:=eM<|tE n.params) (bl:=fw<|z7 n.params) (t:=335) z rfl z z z z z rfl z z z z z z z z z z λk e=>?_;have y:(bt mS).length=2:=z;obtain⟨i,p,rfl⟩:=lU<|e.trans y;kernel_rfl
def WS(n:a4):b4 (az n) "_int2digits" (.ref 108):=fi z
def mT:aF:=(aJ aP 8)
def JX(n:a4):dA (az n) 115 (bY mT) (bt mT) (bw mT):=by refine fx (a:=115) (cd:=114) (aQ:=tG n.params) (eP:=z8 n.params) (fd:=eM<|tG n.params) (bl:=fw<|z8 n.params) (t:=346) z rfl z z z z z rfl z z z z z z z z z z λk e=>?_;have y:(bt mT).length=2:=z;obtain⟨i,p,rfl⟩:=lU<|e.trans y;kernel_rfl
def WT(n:a4):b4 (az n) "_digits2int" (.ref 115):=fi z
def wW:aF:=(aJ aP 9)
def VR(n:a4):dA (az n) 122 (bY wW) (bt wW) (bw wW):=by refine fx (a:=122) (cd:=121) (aQ:=Eb n.params) (eP:=Ea n.params) (fd:=eM<|Eb n.params) (bl:=fw<|Ea n.params) (t:=357) z rfl z z z z z rfl z z z z z z z z z z λk e=>?_;have y:(bt wW).length=2:=z;obtain⟨i,p,rfl⟩:=lU<|e.trans y;kernel_rfl
def WU(n:a4):b4 (az n) "_divmod_pos" (.ref 122):=fi z
def wX:aF:=(aJ aP 10)
def VS(n:a4):dA (az n) 129 (bY wX) (bt wX) (bw wX):=by refine fx (a:=129) (cd:=128) (aQ:=Ed n.params) (eP:=Ec n.params) (fd:=eM<|Ed n.params) (bl:=fw<|Ec n.params) (t:=372) z rfl z z z z z rfl z z z z z z z z z z λk e=>?_;have y:(bt wX).length=2:=z;obtain⟨i,p,rfl⟩:=lU<|e.trans y;kernel_rfl
def WV(n:a4):b4 (az n) "int_divmod" (.ref 129):=fi z
def l7:aF:=(aJ aP 15)
def VT(n:a4):dA (az n) 136 (bY l7) (bt l7) (bw l7):=by refine fx (a:=136) (cd:=135) (aQ:=Ef n.params) (eP:=Ee n.params) (fd:=eM<|Ef n.params) (bl:=fw<|Ee n.params) (t:=396) z rfl z z z z z rfl z z z z z z z z z z λk e=>?_;have y:(bt l7).length=3:=z;obtain⟨i,p,g,rfl⟩:=oR<|e.trans y;kernel_rfl
def WW(n:a4):b4 (az n) "rgb_to_hls" (.ref 136):=fi z
def l8:aF:=(aJ aP 16)
def VU(n:a4):dA (az n) 143 (bY l8) (bt l8) (bw l8):=by refine fx (a:=143) (cd:=142) (aQ:=Eh n.params) (eP:=Eg n.params) (fd:=eM<|Eh n.params) (bl:=fw<|Eg n.params) (t:=415) z rfl z z z z z rfl z z z z z z z z z z λk e=>?_;have y:(bt l8).length=3:=z;obtain⟨i,p,g,rfl⟩:=oR<|e.trans y;kernel_rfl
def WX(n:a4):b4 (az n) "hls_to_rgb" (.ref 143):=fi z
def l9:aF:=(aJ aP 17)
def VV(n:a4):dA (az n) 150 (bY l9) (bt l9) (bw l9):=by refine fx (a:=150) (cd:=149) (aQ:=Ej n.params) (eP:=Ei n.params) (fd:=eM<|Ej n.params) (bl:=fw<|Ei n.params) (t:=426) z rfl z z z z z rfl z z z z z z z z z z λk e=>?_;have y:(bt l9).length=3:=z;obtain⟨i,p,g,rfl⟩:=oR<|e.trans y;kernel_rfl
def WY(n:a4):b4 (az n) "_v" (.ref 150):=fi z
def l_:aF:=(aJ aP 18)
def VW(n:a4):dA (az n) 157 (bY l_) (bt l_) (bw l_):=by refine fx (a:=157) (cd:=156) (aQ:=El n.params) (eP:=Ek n.params) (fd:=eM<|El n.params) (bl:=fw<|Ek n.params) (t:=435) z rfl z z z z z rfl z z z z z z z z z z λk e=>?_;have y:(bt l_).length=3:=z;obtain⟨i,p,g,rfl⟩:=oR<|e.trans y;kernel_rfl
def WZ(n:a4):b4 (az n) "rgb_to_hsv" (.ref 157):=fi z
def l':aF:=(aJ aP 19)
def VX(n:a4):dA (az n) 164 (bY l') (bt l') (bw l'):=by refine fx (a:=164) (cd:=163) (aQ:=En n.params) (eP:=Em n.params) (fd:=eM<|En n.params) (bl:=fw<|Em n.params) (t:=453) z rfl z z z z z rfl z z z z z z z z z z λk e=>?_;have y:(bt l').length=3:=z;obtain⟨i,p,g,rfl⟩:=oR<|e.trans y;kernel_rfl
def W0(n:a4):b4 (az n) "hsv_to_rgb" (.ref 164):=fi z
def nZ:aF:=(aJ aP 22)
def JY(n:a4):dA (az n) 182 (bY nZ) (bt nZ) (bw nZ):=by refine fx (a:=182) (cd:=181) (aQ:=Ep n.params) (eP:=Eo n.params) (fd:=eM<|Ep n.params) (bl:=fw<|Eo n.params) (t:=529) z rfl z z z z z rfl z z z z z z z z z z λk e=>?_;have y:(bt nZ).length=1:=z;obtain⟨i,rfl⟩:=ro<|e.trans y;kernel_rfl
def W3(n:a4):b4 (az n) "in_table_b1" (.ref 182):=fi z
def fm:aF:=(aJ aP 24)
def JZ(n:a4):dA (az n) 228 (bY fm) (bt fm) (bw fm):=by refine fx (a:=228) (cd:=227) (aQ:=Es n.params) (eP:=Er n.params) (fd:=eM<|Es n.params) (bl:=fw<|Er n.params) (t:=2487) z rfl z z z z z rfl z z z z z z z z z z λk e=>?_;have y:(bt fm).length=1:=z;obtain⟨i,rfl⟩:=ro<|e.trans y;kernel_rfl
def W5(n:a4):b4 (az n) "map_table_b3" (.ref 228):=fi z
def ma:aF:=(aJ aP 26)
def VY(n:a4):dA (az n) 233 (bY ma) (bt ma) (bw ma):=by refine fx (a:=233) (cd:=232) (aQ:=Eu n.params) (eP:=Et n.params) (fd:=eM<|Eu n.params) (bl:=fw<|Et n.params) (t:=2497) z rfl z z z z z rfl z z z z z z z z z z λk e=>?_;have y:(bt ma).length=2:=z;obtain⟨i,p,rfl⟩:=lU<|e.trans y;kernel_rfl
def W6(n:a4):b4 (az n) "_law_typed" (.ref 233):=fi z
def rJ:aF:=(aJ aP 27)
def J0(n:a4):dA (az n) 240 (bY rJ) (bt rJ) (bw rJ):=by refine fx (a:=240) (cd:=239) (aQ:=Ex n.params) (eP:=Ew n.params) (fd:=eM<|Ex n.params) (bl:=fw<|Ew n.params) (t:=2503) z rfl z z z z z rfl z z z z z z z z z z λk e=>?_;have y:(bt rJ).length=2:=z;obtain⟨i,p,rfl⟩:=lU<|e.trans y;kernel_rfl
def Kl(n:a4):b4 (az n) "_law_step" (.ref 240):=fi z
def mb:aF:=(aJ aP 28)
def J1(n:a4):dA (az n) 245 (bY mb) (bt mb) (bw mb):=by refine fx (a:=245) (cd:=244) (aQ:=Ez n.params) (eP:=Ey n.params) (fd:=eM<|Ez n.params) (bl:=fw<|Ey n.params) (t:=2514) z rfl z z z z z rfl z z z z z z z z z z λk e=>?_;have y:(bt mb).length=4:=z;obtain⟨i,p,g,d,rfl⟩:=Dz<|e.trans y;kernel_rfl
def W8(n:a4):b4 (az n) "_law_mirrored" (.ref 245):=fi z
def wY:aF:=(aJ aP 29)
def VZ(n:a4):dA (az n) 252 (bY wY) (bt wY) (bw wY):=by refine fx (a:=252) (cd:=251) (aQ:=EB n.params) (eP:=EA n.params) (fd:=eM<|EB n.params) (bl:=fw<|EA n.params) (t:=2520) z rfl z z z z z rfl z z z z z z z z z z λk e=>?_;have y:(bt wY).length=1:=z;obtain⟨i,rfl⟩:=ro<|e.trans y;kernel_rfl
def W9(n:a4):b4 (az n) "_law_word" (.ref 252):=fi z
def mV:aF:=(aJ aP 30)
def J2(n:a4):dA (az n) 257 (bY mV) (bt mV) (bw mV):=by refine fx (a:=257) (cd:=256) (aQ:=ED n.params) (eP:=EC n.params) (fd:=eM<|ED n.params) (bl:=fw<|EC n.params) (t:=2528) z rfl z z z z z rfl z z z z z z z z z z λk e=>?_;have y:(bt mV).length=1:=z;obtain⟨i,rfl⟩:=ro<|e.trans y;kernel_rfl
def W_(n:a4):b4 (az n) "_law_levels" (.ref 257):=fi z
def wZ:aF:=(aJ aP 31)
def V0(n:a4):dA (az n) 264 (bY wZ) (bt wZ) (bw wZ):=by refine fx (a:=264) (cd:=263) (aQ:=EF n.params) (eP:=EE n.params) (fd:=eM<|EF n.params) (bl:=fw<|EE n.params) (t:=2534) z rfl z z z z z rfl z z z z z z z z z z λk e=>?_;have y:(bt wZ).length=3:=z;obtain⟨i,p,g,rfl⟩:=oR<|e.trans y;kernel_rfl
def W'(n:a4):b4 (az n) "_law_corners" (.ref 264):=fi z
def w0:aF:=(aJ aP 32)
def V1(n:a4):dA (az n) 271 (bY w0) (bt w0) (bw w0):=by refine fx (a:=271) (cd:=270) (aQ:=EH n.params) (eP:=EG n.params) (fd:=eM<|EH n.params) (bl:=fw<|EG n.params) (t:=2543) z rfl z z z z z rfl z z z z z z z z z z λk e=>?_;have y:(bt w0).length=4:=z;obtain⟨i,p,g,d,rfl⟩:=Dz<|e.trans y;kernel_rfl
def Xa(n:a4):b4 (az n) "_law_leads" (.ref 271):=fi z
def mc:aF:=(aJ aP 33)
def V2(n:a4):dA (az n) 278 (bY mc) (bt mc) (bw mc):=by refine fx (a:=278) (cd:=277) (aQ:=EJ n.params) (eP:=EI n.params) (fd:=eM<|EJ n.params) (bl:=fw<|EI n.params) (t:=2554) z rfl z z z z z rfl z z z z z z z z z z λk e=>?_;have y:(bt mc).length=2:=z;obtain⟨i,p,rfl⟩:=lU<|e.trans y;kernel_rfl
def Xb(n:a4):b4 (az n) "_law_column" (.ref 278):=fi z
def mW:aF:=(aJ aP 34)
def J3(n:a4):dA (az n) 283 (bY mW) (bt mW) (bw mW):=by refine fx (a:=283) (cd:=282) (aQ:=EL n.params) (eP:=EK n.params) (fd:=eM<|EL n.params) (bl:=fw<|EK n.params) (t:=2564) z rfl z z z z z rfl z z z z z z z z z z λk e=>?_;have y:(bt mW).length=3:=z;obtain⟨i,p,g,rfl⟩:=oR<|e.trans y;kernel_rfl
def Xc(n:a4):b4 (az n) "_law_borne" (.ref 283):=fi z
def jT:aF:=(aJ aP 35)
def V3(n:a4):dA (az n) 288 (bY jT) (bt jT) (bw jT):=by refine fx (a:=288) (cd:=287) (aQ:=EN n.params) (eP:=EM n.params) (fd:=eM<|EN n.params) (bl:=fw<|EM n.params) (t:=2570) z rfl z z z z z rfl z z z z z z z z z z λk e=>?_;have y:(bt jT).length=1:=z;obtain⟨i,rfl⟩:=ro<|e.trans y;kernel_rfl
noncomputable def vF:List (ar×aa):=[("ONE_THIRD",.float 4599676419421066581),("ONE_SIXTH",.float 4595172819793696085),("TWO_THIRD",.float 4604180019048437077),("_DIV_LIMIT",.int 4000)]
def CH:∀m d,vF.lookup m=I d->∃t,b4 (az n) m t/\∀c j,Rz c j t d:=by
 intro m d j;have r:=mem_of_lookup j;have all:∀s∈vF,∃t,b4 (az n) s.1 t/\∀c j,Rz c j t s.2:=by intro s ao;unfold vF at ao;simp only[cJ,mn,or_false]at ao;rcases ao with rfl|rfl|rfl|rfl;exact⟨.float 4599676419421066581 385,fi z,λc j=>.float _ _ z⟩;exact⟨.float 4595172819793696085 389,fi z,λc j=>.float _ _ z⟩;exact⟨.float 4604180019048437077 393,fi z,λc j=>.float _ _ z⟩;exact⟨.int 4000 301,fi z,λc j=>.int _ _⟩
 exact all _ r
def rx(r:bR)(m:ar):Option aq:=ie (u4<|tH r) m
def Cz(c:a4):Hm (az c) 83 (rx c.params)where
 obj:=λj r=>by have f:=gF (a:=83) r z rfl (show(gD c.params).get 83=I (z_ c.params)by kernel_rfl) z;have b:=gF (a:=82) r z rfl (show(gD c.params).get 82=I (tH c.params)by kernel_rfl) z;exact⟨_,_,82,_,_,_,_,_,_,_,_,_,_,_,f,z5 (bf:=u4<|tH c.params) (n:=y7<|tH c.params) b z z⟩
 ga:=by show ie _ _=ag;kernel_rfl
 ge:=by show ie _ _=ag;kernel_rfl
def zK:jF:={fns:=[],oT:=[],attrs:=[],cls:=83,hand:=λ_ _=>ag,di:=λ_ _ _=>ag,const:=λm=>vF.lookup m,hk:=λ_ _=>ag}
def LI(n:a4)(t:Nat):j9 (az n) zK t (rx n.params)where
 blt:=sL n
 cls:=Cz n
 fns:=λs a j=>by cases j
 oT:=λs a j=>by cases j
 attrs:=λm j=>by cases j
 hand:=λs q d j=>by cases j
 di:=λs k q d j=>by cases j
 const:=CH
 hk:=λs m d j=>by cases j
def d8:b0:=tJ zK
def eX(n:a4)(t:Nat):cf (az n) d8 t:=Ac<|LI n t
def wM(d:cC):Array (Int×aq):=match d.data with|.set b _ _=>b|_=>#[]
def ac0(d:cC):Nat:=match d.data with|.set _ t _=>t|_=>0
def ac2(d:cC):SetTable:=match d.data with|.set _ _ r=>r|_=>SetTable.fresh 0 0 au
noncomputable def v_(t:aq):Option Int:=if j:t.ctorIdx=4 then ahi (motive:=λ_=>Option Int) t j λy _=>I y else ag
def K_(j:v_ a=I k):∃r,a=.int k r:=by by_cases w:a.ctorIdx=4;exact ahi (motive:=λa=>v_ a=I k->∃r,a=.int k r) a w (λy r j=>aS j▸⟨r,rfl⟩) j;exact nS<|(dif_neg w).symm.trans j
noncomputable def ou:List Int:=[65024,65025,65026,65027,65028,65029,6150,65030,65031,65032,65033,6155,6156,6157,8203,8204,8205,65034,65035,65036,65037,65038,65039,173,847,8288,65279]
def Sf(r:bR):((wM<|nQ r).all λf=>(v_ f.2).elim au λt=>f.1==hashInt t&&f.2.scannable)=ab:=z
def Sg(r:bR):(wM<|nQ r).toList.filterMap (λf=>v_ f.2)=ou:=z
def Sh(n:a4)(r:e3 n j):j.SetOf (iN cy n) 172 (λk=>ou.contains k) 27:=by
 have f:=gF (a:=172) r z rfl (show(gD n.params).get 172=I (nQ n.params)by kernel_rfl) z;have c:=afm.mp<|Sf n.params;have b:∀d∈(wM<|nQ n.params).toList,∃i r,d.2=.int i r/\d.1=hashInt i/\d.2.scannable=ab:=by intro d ae;obtain⟨i,g,q⟩:=fh<|c d<|F4.mp ae;obtain⟨r,f⟩:=K_ g;exact⟨i,r,f,bL (aM q).1,(aM q).2⟩
 refine⟨nQ n.params,wM<|nQ n.params,ac0<|nQ n.params,ac2<|nQ n.params,f,⟨z,z,z⟩,z,λd ae=>?_,λk=>?_,by rw[(z:(wM<|nQ n.params).size=27)];decide,?_,z⟩;obtain⟨i,r,s,l,p⟩:=b d ae;exact⟨⟨i,by rw[s];simp[iN,qM],l⟩,p⟩;show ou.contains k=ab↔_;rw[<-Sg n.params,hL,decide_eq_true_eq,afX];constructor;rintro⟨d,ae,m⟩;obtain⟨i,r,s,y⟩:=b d ae;rw[s]at m;obtain rfl:=aS (m:I i=I k);exact⟨d,ae,by rw[s];simp[iN,qM]⟩;rintro⟨d,ae,m⟩;obtain⟨i,r,s,y⟩:=b d ae;refine⟨d,ae,?_⟩;rw[s]at m ⊢;simp[iN,qM]at m;exact congrArg I m;kernel_rfl
def a3(f:aF):ai:=((xh f).bind (·.1)).getD (((i7 f).map (·.2.1)).getD ((pf f).elim (.Constant .none 0 ⟨0,0,0,0⟩) (·.1)))
def eu(f:aF):a7:=((xh f).map (·.2)).getD (((i7 f).map (·.2.2)).getD ((pf f).elim ⟨0,0,0,0⟩ (·.2.2.2)))
def CA(f:ai):ai:=(rV f).elim f (·.1)
def CB(f:ai):ai:=((rV f).bind (·.2.2.1.head?)).getD f
def gk(f:ai):a7:=((rV f).map (·.2.2.2)).getD (((fp f).map (·.2)).getD (((kD f).map (·.2.2.2)).getD ((t9 f).elim ⟨0,0,0,0⟩ (·.2.2))))
def q_:ai:=a3<|aJ (bw nZ) 0
def SW:bw nZ=[.Return (I<|.Compare (CA q_) [.In] [.Name "b1_set"<|gk<|CB q_]<|gk q_)<|eu<|aJ (bw nZ) 0]:=z
def Q0:aZ:=aZ.fn<|bY nZ
def Vv(g:Nat):bc d8 9 Q0 [("code",.str ⟨#[g]⟩)] (CA q_)=I (.int g):=z
def W2(n:a4):b4 (az n) "b1_set" (.ref 172):=fi z
set_option tactic.hygienic true in
def X_(d:a4)(b:Nat):cM (az d) (.ref 182) [.str ⟨#[b]⟩] (N+1) (.bool<|ou.contains (b:Int)):=by refine Cv (r:=.ret<|.bool<|ou.contains (b:Int)) (JY d) z z (.inl rfl) λi y j f A=>?_;rw[SW];refine bV.ret<|Nu λD l ah=>?_;intro J m e C B q;have a:=ah.ev (eX d N) (rwL y<|bM _)<|show bc d8 9 (aZ.fn<|bY nZ) (aG.plus<|cT (bt nZ) [.str ⟨#[b]⟩]) (CA q_)=I (.int b)from Vv b;rw[ahs];refine av<|a J m e _ _ λG n h p=>?_;rw[show sj [Pk "b1_set"<|gk<|CB q_] i.env=[cn (.Name "b1_set"<|gk<|CB q_) i.env]from rfl,zT rfl];rw[Jk];refine av<|c6<|kZ ah.borrow z (W2 d) n (e.ext h) _ _<|av<|dc<|qv ?_;cases p;rename_i F;exact ahR (knd:=iN cy d) (k:=(b:Int)) (by simp[iN,qM]) rfl (Sh d (e.ext h).ok)<|q _ _ (h.trans ak.tok)<|.bool _
noncomputable def w6(t:aq):Option ar:=if j:t.ctorIdx=6 then ahm (motive:=λ_=>Option ar) t j λm _=>I m else ag
def adN(j:w6 a=I m):∃r,a=.str m r:=by by_cases w:a.ctorIdx=6;exact ahm (motive:=λa=>w6 a=I m->∃r,a=.str m r) a w (λm r j=>aS j▸⟨r,rfl⟩) j;exact nS<|(dif_neg w).symm.trans j
def vy(g:Int):Option ar:=(sU.find? λf=>qM g f.key).bind λf=>w6 f.val
def Iy:(sU.all λf=>(v_ f.key).elim au λt=>f.hash==hashInt t&&(w6 f.val).isSome)=ab:=z
def Iz(n:a4)(r:e3 n j):j.MapOf (iN cy n) 183 (λk=>(sU.find? λf=>qM k f.key).map (·.val)):=by have f:=gF (a:=183) r z rfl (show(gD n.params).get 183=I y2 by kernel_rfl) z;refine⟨y2,sU.toArray,_,f,⟨rfl,rfl,rfl⟩,rfl,λm ae=>?_,λk=>?_⟩;obtain⟨y,g,q⟩:=fh<|bZ.mp Iy m<|F4.mpr ae;obtain⟨r,f⟩:=K_ g;exact⟨y,by rw[f];simp[iN,qM],bL (aM q).1⟩;unfold findBy;simp[iN]
def tu(f:ai):ai:=(pg f).elim f (·.1)
def DP(f:ai):a7:=(pg f).elim ⟨0,0,0,0⟩ (·.2.2.1)
def vu(f:ai):ai:=((kD f).bind (·.2.1.head?)).getD f
def FG(st:aF):a7:=(((i7 st).bind (·.1.head?)).bind fp).elim ⟨0,0,0,0⟩ (·.2)
def K4(f:aF):List aF:=(pf f).elim [] (·.2.1)
def kV:ai:=a3<|aJ (bw fm) 0
def SX:bw fm=[.Assign [.Name "r"<|FG<|aJ (bw fm) 0] (.Call (.Attribute (.Name "b3_exceptions"<|gk<|tu kV) "get"<|DP kV) [vu kV] []<|gk kV)<|eu<|aJ (bw fm) 0,.If (a3<|aJ (bw fm) 1) (K4<|aJ (bw fm) 1) []<|eu<|aJ (bw fm) 1,.Return (I<|a3<|aJ (bw fm) 2)<|eu<|aJ (bw fm) 2]:=z
def qZ:aZ:=aZ.fn<|bY fm
def Vw(g:Nat):bc d8 9 qZ (aG.plus<|cT (bt fm) [.str ⟨#[g]⟩]) (vu kV)=I (.int g):=z
def Nv:fX (vu kV)=au:=z
def Zx:((DP kV).endLine==(gk kV).line)=ab:=z
def W4(n:a4):b4 (az n) "b3_exceptions" (.ref 183):=fi z
def ov(g:Nat):aa:=match vy g with|some m=>.str m|none=>.none
def Nk(g:Nat):aG:=aG.vals (cT (bt fm) [.str ⟨#[g]⟩]) [(bp "r",ov g)]
def SE(d:aa):dq qZ (.Name "r"<|FG<|aJ (bw fm) 0) d []=I [(bp "r",d)]:=z
def lX(g:Nat):Option aa:=match vy g with|some m=>some (.str m)|none=>if !Pf (xJ ⟨#[g]⟩).length then some (.str<|xJ ⟨#[g]⟩)else none
def aec(g:Nat)(m:ar):fW d8 9 qZ (aG.plus<|aG.vals (cT (bt fm) [.str ⟨#[g]⟩]) [(bp "r",.str m)]) (a3<|aJ (bw fm) 1)=I ab:=z
def aeb(g:Nat):fW d8 9 qZ (aG.plus<|aG.vals (cT (bt fm) [.str ⟨#[g]⟩]) [(bp "r",.none)]) (a3<|aJ (bw fm) 1)=I au:=z
def aef(g:Nat)(m:ar):xs d8 qZ [] 9 (aG.vals (cT (bt fm) [.str ⟨#[g]⟩]) [(bp "r",.str m)]) (K4<|aJ (bw fm) 1)=I (.ret<|.str m):=z
def ZW(g:Nat):bc d8 9 qZ (aG.plus<|aG.vals (cT (bt fm) [.str ⟨#[g]⟩]) [(bp "r",.none)]) (a3<|aJ (bw fm) 2)=mM (.str ⟨#[g]⟩) "lower" []:=z
set_option tactic.hygienic true in
def Z8(n:a4)(a:Nat)(d:aa)(B:lX a=some d):cM (az n) (.ref 228) [.str ⟨#[a]⟩] (N+1) d:=by
 refine Cv (r:=.ret d) (JZ n) z z (.inl rfl) λb P R an am=>?_;have A:N<=b.fuel:=rwL P<|bM _;rw[SX];have first:bV (az n) b qZ (c3 (.Assign [.Name "r"<|FG<|aJ (bw fm) 0] (.Call (.Attribute (.Name "b3_exceptions"<|gk<|tu kV) "get"<|DP kV) [vu kV] []<|gk kV)<|eu<|aJ (bw fm) 0) b.env) (cT (bt fm) [.str ⟨#[a]⟩]) (.next<|Nk a):=by
  refine adw (d:=ov a) (f_:=[(bp "r",ov a)]) rfl (λas av ah=>?_) (by unfold ov;cases vy a<;>rfl)<|SE _;intro J m H ar aq q;have D:=ah.ext m;refine xZ (T:="dict") (id:="dict.get") rfl (by rw[qp Nv];rfl) Zx F.plainAttrs_dict agQ PySem.F.type_dict_get ?_;refine kZ D.borrow z (W4 n) J H _ _ ?_;obtain⟨Y,aj,ai,G,l,I,K⟩:=Iz n H.ok;refine⟨⟨Y,G,l.1⟩,λag L=>by cases L;exact⟨Y,G,l.2.1⟩,?_⟩;have p:e9 (az n) b [vu kV] J [.int a]:=pR (D.ev (eX n N) A<|Vw a) Nv;refine sO (p _).2 (p _).1 (ak.refl J) H λap af C ad=>?_;cases ad;rename_i ab ac;cases ac;cases ab;rename_i ao;refine call_meetsIn agQ ⟨Y,C.keep _ _ G (λh=>by rcases h with h|h<;>cases h),l.1⟩ PySem.F.entry_dict_get (PySem.F.args_dict_get_2 _ _) (meets_dict_get (iN cy n) (k:=(a:Int)) 183 (by simp[iN,qM]) rfl) ?_;refine⟨_,Iz n (H.ext C).ok,?_⟩;refine q _ _ (C.trans ak.tok) ?_;unfold ov vy;induction S:sU.find? λf=>qM (a:Int) f.key using b7 with
  |none=>exact .none
  |some f=>
   have V:=List.mem_of_find?_eq_some S;obtain⟨au,K,O⟩:=fh<|bZ.mp Iy f V;obtain⟨m,ae⟩:=uA.mp (aM O).2;obtain⟨ao,X⟩:=adN ae;show Rz _ _ f.val (match w6 f.val with|some m=>aa.str m|none=>.none);rw[ae,X];exact .str _ _
 refine bV.cons first ?_
 unfold lX at B;unfold Nk;induction j:vy a using b7 with
 |some al=>
  rw[j]at B;cases B;have f:ov a=.str al:=by unfold ov;rw[j]
  rw[f];exact bV.ret<|tV (eX n N) A (aec a al) (λK=>bV.qf (M:=[]) (eX n N) A<|aef a al) λq=>nomatch q
 |none=>
  rw[j]at B;have f:ov a=.none:=by unfold ov;rw[j]
  rw[f];dsimp only at B;split at B;rename_i U;cases B;refine bV.cons (aW:=aG.vals (cT (bt fm) [.str ⟨#[a]⟩]) [(bp "r",.none)]) (tV (eX n N) A (aeb a) (λq=>nomatch q) λK=>bV.nil)<|bV.ret<|Fw (eX n N) A<|(ZW a).trans ?_;unfold mM;simp only[beq_self_eq_true,aft];rw[if_pos U];cases B
def rb(r:bR):Frag:=[(83,z_ r),(82,tH r),(2,sb r)]
def H7{t:Type}:∀{k:List (aE×t)}{i:aE}{p:t},k.lookup i=I p->(i,p)∈k:=by
 intro k;induction k with
 |nil=>
  exact @λg f j=>by cases j
 |cons e k c=>
  obtain⟨m,n⟩:=e;exact @λi p j=>by rw[ep]at j;induction d:i==m using cq with|true=>rw[d]at j;cases j;rw[bL d];exact eB .. |false=>rw[d]at j;exact eA _<|c j
def Kf(b:e3 n j):(rb n.params).In j:=by intro i d f;have r:=H7 f;unfold rb at r;simp only[cJ,mn,or_false]at r;rcases r with r|r|r<;>injection r with g q<;>subst g<;>subst q;exact gF (a:=83) b z rfl z z;exact gF (a:=82) b z rfl z z;exact gF (a:=2) b z rfl (cv _)<|dp _
noncomputable def zg(s m:ar):Option aa:=if s==("Whitespace":ar)then(if m==("S":ar)then I (.str " ")else if m==("T":ar)then I (.str "\t")else ag)else ag
def Ks(n:a4):b4 (az n) "Whitespace" (.ref 83):=fi z
def MP(r:bR):readsIn (rb r) 83 (.type "type")=ab:=z
def Qe(r:bR):findCls (rb r) (.ref 83) (.type "type") "S"=I (.val<|.str " " 209):=z
def Wl(r:bR):findCls (rb r) (.ref 83) (.type "type") "T"=I (.val<|.str "\t" 210):=z
def Kv(i:a4):∀k m d,zg k m=I d->∃t,b4 (az i) k t/\∀(c:aE->Prop)(r:dI)(y:Nat)(l:ax),bh (az i) c r y l->∀(a:aq->ax->Prop)(b:aq->ax->Prop),(∀B J,ak (az i) l J->Rz c J.heap B d->a B J)->aB (aK (az i).prog (az i).w) r (xQ t m ab) a b l:=by
 intro k m d j;unfold zg at j;split at j;case isFalse=>cases j
 rename_i p;rw[bL p];refine⟨_,Ks i,λc r y l e a b q=>?_⟩;split at j;rename_i ae;cases j;rw[bL ae];exact cls_value (Kf e.ok) (MP _) (Qe _) rfl<|q _ _ ak.tok<|.str _ _;split at j;rename_i ae;cases j;rw[bL ae];exact cls_value (Kf e.ok) (MP _) (Wl _) rfl<|q _ _ ak.tok<|.str _ _;cases j
def s6{n:Model}{i:dI}{m:aq->ax->Prop}{c:kK}{p:List aF}{t:mq->ax->Prop}:∀{a:List aF}{l:ax},aB n i (dm a c) (λf J=>match f with|.next=>aB n i (dm p c) t m J|f=>t f J) m l->aB n i (dm (a++p) c) t m l:=by
 intro a;have d:dm (a++p) c=(dm a c>>=λf=>match f with|.next=>dm p c|f=>bg f):=by
  induction a with
  |nil=>show dm p c=(bg f'>>=_);rw[uk]
  |cons st w g=>
   show(c3 st c>>=λf=>match f with|.next=>dm (w++p) c|f=>bg f)=((c3 st c>>=λf=>match f with|.next=>dm w c|f=>bg f)>>=_);rw[r0];congr 1;funext f;cases f<;>first|(dsimp only;exact g)|(dsimp only;rw[uk])
 intro l j;rw[d];refine av<|ff j (λf J q=>?_) λk k x=>x;cases f<;>first|exact q|exact aY q
def mI(r:bR):Frag:=(38,z9 r)::rb r
def s'(b:e3 n j):(mI n.params).In j:=by intro i d f;have r:=H7 f;unfold mI rb at r;simp only[cJ,mn,or_false]at r;rcases r with r|r|r|r<;>injection r with g q<;>subst g<;>subst q;exact gF (a:=38) b z rfl z z;exact gF (a:=83) b z rfl z z;exact gF (a:=82) b z rfl z z;exact gF (a:=2) b z rfl (cv _)<|dp _
def aap(r:bR):makesIn (mI r) 83=ab:=z
def X'(r:bR):GX (mI r) (.ref 83) "__init__"=I (I<|.ref 38):=z
def Wt(r:bR):typeIn (mI r) (.ref 38)=I (.type "function"):=z
def acO(r:bR):GX (mI r) (.ref 83) "__setattr__"=I (I<|.builtin "object.__setattr__"):=z
def ab6(r:bR):PG (mI r) 83=ab:=z
def XN(r:bR):PF (mI r) 83=ab:=z
def Y4(n:a4):ei (az n) (.ref 83):=λj a=>by refine⟨.machine,.inr rfl,(ahp (part:=ag)<|s' a 83 (z_ n.params) z).andThen ?_⟩;exact(looks_specialIn (K:=mI n.params) (r:=I<|.builtin "type.__call__") (s' a) z).andThen .now
def DB:jF:={zK with attrs:=["raw"],hk:=zg}
def Zw(n:a4)(t:Nat):j9 (az n) DB t (rx n.params)where
 blt:=sL n
 cls:=Cz n
 fns:=λs a j=>by cases j
 oT:=λs a j=>by cases j
 attrs:=λm j=>by
  have:m=("raw":ar):=by simpa[DB]using j
  subst this;exact⟨z,z⟩
 hand:=λs q d j=>by cases j
 di:=λs k q d j=>by cases j
 const:=CH
 hk:=Kv n
def pN:b0:=tJ DB
def HJ(n:a4)(t:Nat):cf (az n) pN t:=Ac<|Zw n t
def sH(f:aF):ai:=(i7 f).elim h9 (·.2.1)
def sI(st:aF):a7×a7×a7:=((i7 st).bind λi=>(i.1.head?.bind t9).bind λx=>(fp x.1).map λy=>(y.2,x.2.2,i.2.2)).getD (⟨0,0,0,0⟩,⟨0,0,0,0⟩,⟨0,0,0,0⟩)
def tN(st:aF)(p:ar):aF:=.Assign [.Attribute (.Name "self" (sI st).1) p (sI st).2.1] (sH st) (sI st).2.2
def il(y:Nat):aF:=aJ (bw md) y
def zV:List aF:=[il 1,il 2,il 3,il 4]
def SQ:bw md=tN (il 0) "raw"::(zV++[tN (il 5) "n",tN (il 6) "nt",tN (il 7) "norm",tN (il 8) "is_simple"]):=z
def kR:aZ:={aZ.fn (bY md)with own:=(aZ.fn<|bY md).own.filter λm=>!(m==("self":ar))}
def cE(σ:aG):aG:=σ.filter λs=>Ft s.2
noncomputable def wQ(l:ar):aG:=[("self",.val<|.obj 83 []),("ws",.val<|.str l)]
noncomputable def Aq(l:ar):aG:=[("self",.val<|.obj 83 [("raw",.str l)]),("ws",.val<|.str l)]
def ac7:Option fH->Option aG|some (.next σ)=>some σ|_=>ag
def sX(σ:aG)(y:Nat):Option aa:=(bc pN 20 kR σ.plus<|sH<|il y).bind λd=>if fu d then I d else ag
def t8(l:ar):Option aa:=(ac7<|xs pN kR ["count"] 4000 (Aq l) zV).bind λσ=>(sX σ 5).bind λc=>(sX (cE σ) 6).bind λd=>(sX (cE<|cE σ) 7).bind λe=>(sX (cE<|cE<|cE σ) 8).bind λh=>
  I (.obj 83 [("raw",.str l),("n",c),("nt",d),("norm",e),("is_simple",h)])
def Wh:∀{σ:aG},dG (σ.map (·.1))=true->(σ.filter s).lookup m=I t->σ.lookup m=I t:=by
 intro σ;induction σ with
 |nil=>
  exact @λl b=>b
 |cons a w c=>
  obtain⟨i,d⟩:=a;exact @λj b=>by
   rw[e4]at j;unfold dG at j;simp only[c0,ez,hL,decide_eq_false_iff_not]at j;rw[kG]at b;rw[ep];induction g:m==i using cq with
   |true=>
    have k:=bL g;subst k;split at b;rw[ep,g]at b;exact b;have:=c j.2 b;exact absurd (mm (f:=(·.1))<|mem_of_lookup this) j.1
   |false=>
    split at b;rw[ep,g]at b;exact c j.2 b;exact c j.2 b
def ab3(j:dG (σ.map (·.1))=ab):∀m t,(cE σ).lookup m=I t->σ.lookup m=I t:=λm t f=>Wh j f
def ab0(j:dG (σ.map (·.1))=ab):dG ((cE σ).map (·.1))=ab:=yD j
def ab1(σ:aG):u6 (cE σ)=ab:=bZ.mpr λs ao=>(lk.mp ao).2
def y'(j:sX σ y=I d):bc pN 20 kR σ.plus (sH<|il y)=I d/\fu d=ab:=by unfold sX at j;rw[uz]at j;obtain⟨b,g,q⟩:=j;split at q;cases q;exact⟨g,by assumption⟩;cases q
def wH(G:hT (az w) g kR "self" B j 83 n σ r b D a l)(C:bc pN 20 kR σ.plus (sH<|il y)=I d)(N:fu d=ab)(F:ja (sH<|il y) (I<|.Attribute (.Name "self" (sI<|il y).1) p (sI<|il y).2.1) (sI<|il y).2.2.line g.env=bg au)(P:takerIn (mI w.params) 83 p=I ag)(L:b.any (·.key.isStr p)=au)(M:b.any (·.refKey)=au)(R:b.length<1000)(q:∀O T U S J,hT (az w) g kR "self" B j 83 n (cE σ) r (b++[⟨O,.str p T,U⟩]) S (a++[(p,d)]) J->aB (aK cy w) g.A (dm e g.env) k f J):aB (aK cy w) g.A (dm (tN (il y) p::e) g.env) k f l:=d6<|G.put (K:=mI w.params) (λV T=>s' T) (G.sim.ev (HJ w 0) (dV _) C) N F z (acO _) (ab6 _) P (XN _) L M R (ab3 G.sim.keys) (ab0 G.sim.keys) (ab1 σ) q
def Ai:bt md=[("self":ar),("ws":ar)]:=z
def ack(l:ar):bc pN 20 kR (wQ l).plus (sH<|il 0)=I (.str l):=z
def ab2(l:ar):(cE<|wQ l).set "self" (.val<|.obj 83<|([]:List (ar×aa))++[(bp "raw",aa.str l)])=Aq l:=z
set_option tactic.hygienic true in
set_option maxHeartbeats 1000000 in
def aeS(n:a4)(as:t8 f=some d):cM (az n) (.ref 83) [.str f] 2 d:=by
 intro aG a1 l br S aX bu bs q;cases aX;rename_i aW aE;cases aE;cases aW;rename_i k;simp only[t8,uz,Pb]at as;obtain⟨σ,I,a_,an,a',ao,ba,ap,bb,aq,rfl⟩:=as;have I:xs pN kR ["count"] 4000 (Aq f) zV=some (.next σ):=by induction aC:xs pN kR ["count"] 4000 (Aq f) zV using b7 with|none=>rw[aC]at I;exact nS I|some aW=>rw[aC]at I;cases aW<;>first|exact nS I|exact congrArg _<|congrArg _<|aS I
 refine BF ?_;have aU:=makes_of (M:=aK cy n) (s' S.ok)<|aap n.params;refine make_core (h:=l.heap) (g:=l.gens) (d:=l.drawn) (t:=l.toks) (os:=l.os) aU (looks_findIn (s' S.ok)<|X' _) (λav=>bind_fn (s' S.ok) av<|Wt _) (.inl rfl) ?_;have m:ak (az n) l {l with heap:=(l.heap.push Bl).push (mu 83 l.heap.objs.size)}:=ak.of_keep λx aD R=>dS _<|dS _ R;have O:((l.heap.push Bl).push<|mu 83 l.heap.objs.size).get? (l.heap.objs.size+1)=some (mu 83 l.heap.objs.size):=by heap_get
 have N:((l.heap.push Bl).push<|mu 83 l.heap.objs.size).get? l.heap.objs.size=some (PySem.W.dictOf [] 0):=by heap_get
 have V:∀x,l.heap.get? x=none->¬aG x:=λx R J=>by obtain⟨aD,F,a0⟩:=S.cA x J;rw[R]at F;cases F
 have ae:l.heap.get? (l.heap.objs.size+1)=none:=iB<|lp _;have K:l.heap.get? l.heap.objs.size=none:=iB<|bM _;have aQ:=S.gm K;have am:bh (az n) aG (a1.under<|.builtin "type.__call__" ⟨.ref 83::[.str f k],[]⟩) (0+1) {l with heap:=(l.heap.push Bl).push (mu 83 l.heap.objs.size)}:=by have G:=S.ext m;have as:=G.depth;have bd:=G.units;exact⟨G.handled,by show a1.depth+1+1<1000;assumption,cH (gy (z:1+4<=4*2) a1.units) o,G.guards,G.cA,G.aT,G.ok,G.tok⟩
 have ac:hu (bY md) (bt md)=ab:=z;refine Kg (C:=az n) (V4 n) ac (by rw[Ai];rfl) am λj B D a9=>?_;have aF:RzL aG ((l.heap.push Bl).push<|mu 83 l.heap.objs.size) [.ref<|l.heap.objs.size+1,.str f k] [.obj 83 [],.str f]:=
  .cons (.obj (V _ ae) (V _ K) O N .nil) (.cons (.str _ _) .nil)
 have ah:=D.sim ac (by rw[Ai];rfl) am aF;have L:∀x,j.X x↔aG x\/j.Y x:=λx=>by rw[D.xs]
 have U:bH (az n) B.heap j.env "self" (.ref<|l.heap.objs.size+1):=D.vars "self" _ (by rw[Ai];rfl);rw[show cT (bt md) [.obj 83 [],.str f]=wQ f by rw[Ai];rfl]at ah;have aw:=ah.E' (p:=λi=>if i==("self":ar)then some (.ref<|l.heap.objs.size+1)else none) (Af:=kR.own) (λi bw R=>by
  split at R;rename_i P;cases R;rw[bL P];exact U;cases R) λi P=>by
  unfold kR at P;rw[hL]at P;have:=lk.mp<|of_decide_eq_true P;refine⟨by rw[hL];exact decide_eq_true this.1,?_⟩;have ay:=this.2;simp only[ez]at ay;simp only[ay,g7,if_false]
 have af:¬j.X (l.heap.objs.size+1):=λaa=>((L _).mp aa).elim (V _ ae) λi=>by have:=D.fresh _ i;dsimp only at this;rw[O]at this;cases this
 have ad:¬j.X l.heap.objs.size:=λaa=>((L _).mp aa).elim (V _ K) λi=>by have:=D.fresh _ i;dsimp only at this;rw[N]at this;cases this
 have bW:∀x,¬j.X x->¬(az n).T x:=λx aa k=>aa<|(L x).mpr<|.inl<|S.aT x k;have ag:hT (az n) {j with pin:=λi=>if i==("self":ar)then some (.ref<|l.heap.objs.size+1)else none} kR "self" (l.heap.objs.size+1) l.heap.objs.size 83 B (wQ f) [] [] 0 [] B:=
  ⟨aw,rfl,D.ext.keep _ _ O<|bW _ af,D.ext.keep _ _ N<|bW _ ad,af,ad,aQ.2.1,.nil,(ak.refl B).bx,λbv bc=>by cases bc⟩
 obtain⟨H,au,aR,aA,aB,ag⟩:∃H:bX,H.env=j.env/\H.A=j.A/\H.X=j.X/\H.Y=j.Y/\hT (az n) H kR "self" (l.heap.objs.size+1) l.heap.objs.size 83 B (wQ f) [] [] 0 [] B:=⟨{j with pin:=λi=>if i==("self":ar)then some (.ref<|l.heap.objs.size+1)else none},rfl,rfl,rfl,rfl,ag⟩;rw[<-au,<-aR,SQ];refine wH (w:=n) ag (ack f) rfl (by rfl) z rfl rfl z λa3 b3 bm be fg hR=>?_;have hR:=hR.set;rw[ab2]at hR;refine s6 ?_;refine bV.qf (HJ n 0) (dV _) I [] fg hR.sim _ _ λa2 b8 ax cp=>?_;have aH:=hR.Kx ax cp;obtain⟨an,aM⟩:=y' an;obtain⟨ao,aN⟩:=y' ao;obtain⟨ap,aO⟩:=y' ap;obtain⟨aq,aP⟩:=y' aq;refine wH aH an aM (by rfl) z rfl rfl (by simp) λa5 bl bn bf j8 aI=>?_;refine wH aI ao aN (by rfl) z rfl rfl (by simp) λa6 FC bo qa bj aJ=>?_;refine wH aJ ap aO (by rfl) z rfl rfl (by simp) λa7 w9 bp bg bk aL=>?_;refine wH aL aq aP (by rfl) z rfl rfl (by simp) λa8 FD bq bi aY ai=>?_;refine hc ?_;refine⟨rfl,q _ _ ?_<|ai.obj.less λx J=>.inl<|rwL aA<|(L x).mpr<|.inl J⟩;have aZ:cu (az n) H (l.heap.objs.size::a2) l aY:=(m.trans D.ext).bx.trans ai.bx;have aj:∀x,B.heap.get? x=none->l.heap.get? x=none:=λx R=>by
  induction al:l.heap.get? x using b7 with
  |none=>rfl
  |some aD=>
   by_cases k:(az n).T x;obtain⟨aV,F,a0⟩:=D.good.cA x<|(L x).mpr<|.inl<|S.aT x k;rw[R]at F;cases F;have:=(m.trans D.ext).keep x aD al k;rw[R]at this;cases this
 refine aZ.ext (λx i=>?_) λx J=>?_;rw[aB]at i;induction al:l.heap.get? x using b7 with
 |none=>rfl
 |some aD=>
  have:=m.keep x aD al λk=>by have aa:=D.fresh x i;obtain⟨aV,F,a0⟩:=am.cA x<|S.aT x k;rw[aa]at F;cases F
  have aa:=D.fresh x i;rw[aa]at this;cases this
 rcases cJ.mp J with rfl|J;exact K;exact aj x<|ai.new x J
structure yq(w:World)(c P:Addr)(pos:Pos)(qual:Str):Prop where
 wb:jE P
 hd:∀h,e3 w h->CodeHd h c P
 tab:∀h,e3 w h->∃bP,h.get? P=some (tableObj bP)/\rP h pos qual bP
 put:∀h hl bP,e3 w h->(∀b aQ,b≠P->h.get? b=some aQ->hl.get? b=some aQ)->hl.get? P=some (tableObj bP)->rP hl pos qual bP->e3 w hl
def NH{j:cc}(l:j.get? r=I (r' n))(w:j.get? g=I d)(b:fz d):g≠r:=λq=>by rw[q,l]at w;cases w;obtain⟨a,k⟩:=b;cases a
def D3(A:a4):yq A 107 103 Fb "_int2digits.<locals>.inner"where
 wb:=.inl rfl
 hd:=λj r=>by have f:=gF (a:=107) r z rfl (show(gD A.params).get 107=I (z7 A.params)by kernel_rfl) z;exact⟨_,_,_,_,_,_,_,_,_,f,rfl,rfl,rfl,rfl,rfl,rfl,rfl,rfl,z⟩
 tab:=λj r=>r.2.1
 put:=λj y n r k f E=>by obtain⟨b3,⟨F,s,dd⟩,⟨m,l,cp⟩⟩:=r;refine⟨λB d p i q=>k B d (λx=>i<|.inl x)<|b3 B d p i q,⟨n,f,E⟩,⟨m,k _ _ z l,?_⟩⟩;exact cp.lb λC d D q=>k C d (NH s q D) q
def D4(A:a4):yq A 114 110 Fc "_digits2int.<locals>.inner"where
 wb:=.inr rfl
 hd:=λj r=>by have f:=gF (a:=114) r z rfl (show(gD A.params).get 114=I (z8 A.params)by kernel_rfl) z;exact⟨_,_,_,_,_,_,_,_,_,f,rfl,rfl,rfl,rfl,rfl,rfl,rfl,rfl,z⟩
 tab:=λj r=>r.2.2
 put:=λj y n r k f E=>by obtain⟨b3,⟨m,s,dd⟩,⟨F,l,cp⟩⟩:=r;refine⟨λB d p i q=>k B d (λx=>i<|.inr x)<|b3 B d p i q,⟨m,k _ _ z s,?_⟩,⟨n,f,E⟩⟩;exact dd.lb λC d D q=>k C d (NH l q D) q
def S9(b:e3 n j)(l:jE r):j.BuiltinsAt (λm=>ie (lP n.params) m) r:=by have f:=gF (a:=4) b z rfl (show(gD n.params).get 4=I (boot_o_4 n.params)by kernel_rfl) z;refine⟨4,_,z,z,z,?_,f,rfl,rfl,rfl⟩;rcases l with rfl|rfl<;>decide
structure lD(h:Heap)(f:Addr)(name qual:Str)(params:Arguments)(aP:List Stmt)(scope:Scope)(T9:List (Str×Addr)):Prop where
 obj:∃doc pm IZ UD,h.get? f=some ⟨.type "function",none,.func<|fnX name qual params aP scope T9 .none .none doc pm none (.ref IZ) UD,#[]⟩/\∃aQ bl t,h.get? IZ=some aQ/\fz aQ/\aQ.data=.fields bl/\bl[1]?=some (.str qual t)
def Ka(r:e3 n j)(f:j.get? p=I d)(a:d.cls≠.none):¬jE p:=λq=>by obtain⟨k,⟨c,s,k⟩,⟨g,l,k⟩⟩:=r;rcases q with rfl|rfl;rw[s]at f;cases f;exact a rfl;rw[l]at f;cases f;exact a rfl
def gB(j y:cc):Prop:=∀p d,j.get? p=I d->¬jE p->(∀x a,d.data≠.seq x a)->y.get? p=I d
def gB.trans(m:gB j a)(g:gB a i):gB j i:=λp d f r c=>g p d (m p d f r c) r c
def gB.jR(m:ak (az n) l J):gB l.heap J.heap:=λp d f r k=>m.keep p d f r
def HE(j y:cc):Prop:=∀p d,j.get? p=I d->¬jE p->((∃e,d.data=.func e)\/fz d)->y.get? p=I d
def gB.iA(m:gB j y):HE j y:=λp d f r a=>m p d f r λg k q=>by rcases a with⟨c,a⟩|⟨_,s,a⟩<;>(rw[a]at q;cases q)
def lD.Ly{aP:List aF}(c:lD j s p g a aP i d)(r:e3 n j)(I:HE j y):lD y s p g a aP i d:=by obtain⟨b,D,k,A,G,H,F,E,B,l,C,b5⟩:=c.obj;have jn:H.cls≠.none:=rwL l.1 (λq=>by cases q);exact⟨b,D,k,A,I _ _ G (Ka r G λq=>by cases q)<|.inl ⟨_,rfl⟩,H,F,E,I _ _ B (Ka r B jn)<|.inr l,l,C,b5⟩
def lD.kept{aP:List aF}(c:lD j s p g a aP i d)(r:e3 n j)(b:gB j y):lD y s p g a aP i d:=c.Ly r b.iA
def q5(r:e3 n j)(f:j.IsCell p a):¬jE p:=λq=>by obtain⟨k,⟨c,s,k⟩,⟨m,l,k⟩⟩:=r;obtain⟨d,g,i⟩:=f;rcases q with rfl|rfl;rw[s]at g;cases g;cases i;rw[l]at g;cases g;cases i
def sR(r:e3 c j)(f:j.IsCell p a)(m:gB j y):y.IsCell p a:=by have i:=q5 r f;obtain⟨d,k,g⟩:=f;exact⟨d,m _ _ k i (λl s q=>by rw[g]at q;cases q),g⟩
set_option maxHeartbeats 1000000 in
def Z5(as:yq ac bi a1 j g){aP:List aF}(aS:e3 ac l.heap)(ag:xM i y=bg (x::n))(ai:y.globals=xR)(L:y.code=.ref bi)(a9:∀aX J,ak (az ac) l J->l.heap.get? aX=none->lD J.heap aX p g m aP i (x::n)->be (.ref aX) J):aB (aK cy ac) bs (makeFunction p g m (.stmts aP) i y [] [] [] j bn) be bv l:=by
 refine hO (bM l.toks) ?_;obtain⟨bd,K,W,aJ⟩:=as.tab _ aS;obtain⟨aV,a6,ab,T,ay,U,ad,S,O,M⟩:=S9 aS as.wb;have aD:xR≠a1:=by rcases as.wb with rfl|rfl<;>decide
 have C:=as.hd _ aS;rw[makeFunction_eq];simp only[List.zip_nil_right,List.filterMap_nil,List.isEmpty_nil,if_true,uk];rcases aJ with aj|⟨k,a5,aU,a7,a0,aI,an,aA,aL⟩;unfold makeTail;rw[ag,ai];refine av<|aY ?_;simp only[List.isEmpty_cons,g7,if_false];refine av<|wpAny_newTextTuple ?_;refine av<|wpAny_functionCodeX L ((C.keeps λq G H=>dS _ H).code (dS _ K) W) ((C.keeps λq G H=>dS _ H).tab<|dS _ K) aj λk R B ae aE aH aG ap aN ao=>?_;have ah:=((wA aS).push _).extBut ae aD;have am:∀q G,q≠a1->l.heap.get? q=some G->R.get? q=some G:=λq G ax H=>ae q G ax<|dS _ H;refine av<|wpAny_builtinsFor ah ab T (am _ _ U ad) S O M ?_;refine av<|wpAny_nsGet ah ?_;have aa:∀(r a:aq)(B:iL),l.toks<=B->be (.ref R.objs.size) {l with heap:=R.push<|GY p g m aP i (x::n) r ((ie (lP ac.params) "__name__").getD .none) k a,toks:=B}:=by
  intro r a B aO;obtain⟨bf,a_,a2,ar⟩:=ao;obtain⟨⟨aQ,aT,al,af,D,F⟩,F⟩:=ar;obtain⟨bh,gY,bc,cv,aW,cp,Y,aR⟩:=ap;cases aW;rw[al]at cp;cases(cp);have I:TriplesOk (bd++#[rawInt j.line,rawInt j.col,Bj k]).toList:=by obtain⟨F,F,F,F,F,F,F,F,F,F,F,F,F,F,F,F,F,a',ba,I,F⟩:=aG;exact I
  have kp:∀q G,q≠a1->l.heap.get? q=some G->(R.push<|GY p g m aP i (x::n) r ((ie (lP ac.params) "__name__").getD .none) k a).get? q=some G:=λq G X H=>dS _<|am q G X H;have aw:=dS (GY p g m aP i (x::n) r ((ie (lP ac.params) "__name__").getD .none) k a) aN.2;have au:=dS (GY p g m aP i (x::n) r ((ie (lP ac.params) "__name__").getD .none) k a) al;refine a9 _ _ ⟨⟨_,_,rfl⟩,λq G H a4=>kp q G (λbk=>a4<|bk▸as.wb) H,λq bj bb H=>?_,λa8=>as.put _ _ _ a8 kp aw ⟨I,.inr ⟨k,aQ,aT,cv,?_,au,⟨af,_,D⟩,D,?_⟩⟩,aO⟩ ?_ ⟨_,_,k,_,dE _ rfl,aQ,aT,cv,au,⟨af,_,D⟩,D,?_⟩;by_cases X:q=a1;subst X;rw[K]at H;cases H;exact⟨_,aw⟩;exact⟨#[],by simpa using kp q _ X H⟩;rw[Ol];exact codeAmong_snoc _ W aj;rw[D]at Y;cases Y;exact aR;exact iB (c2<|cH (aC (by rw[i'];exact lp _) aE) aH);rw[D]at Y;cases Y;exact aR
 induction aZ:docOf aP using b7 with|none=>exact av (aY<|BG (λV=>aa .none _ _ V)<|by size_fits)|some d=>exact av (uS<|BG (λV=>aa _ _ _ V)<|by size_fits)
 refine makeTail_hit ag ai (wA aS) L C K W a0 ⟨aV,a6,ab,T,ay,U,ad,S,O,M⟩ λa r R B a3 aM V=>?_;have kp:∀q G,l.heap.get? q=some G->(R.push {cls:=.type "function",data:=.func (fnX p g m aP i (x::n) .none .none r ((ie (lP ac.params) "__name__").getD .none) none (.ref k) a)}).get? q=some G:=λq G H=>dS _<|a3 q G H;exact a9 _ _ (ak.of_keep (C:=az ac) kp V) (iB aM) ⟨_,_,k,_,dE _ rfl,a5,aU,a7,kp _ _ aI,an,aA,aL⟩
def zw{m k:Nat}(j:m<2^k):eU (m:Int)<=k:=by
 unfold eU;split;exact dV _;rename_i ae;have ae:m≠0:=by simpa using ae
 have:=(Gr ae).mpr j;simp only[AV];exact GA o
def LO(m:Nat):m<2^eU (m:Int):=by
 unfold eU;split;rename_i ae;have ae:m=0:=by simpa using ae
 subst ae;decide;rename_i ae;have ae:m≠0:=by simpa using ae
 exact(Gr ae).mp (by simp)
def Nj(m k:Nat):(if((k:Nat):Int)>=((eU (m:Int):Nat):Int)then(if(m:Int)<0 then(-1:Int)else 0)else(m:Int).fdiv (2^((k:Nat):Int).toNat))=((m/2^k:Nat):Int):=by
 split;rename_i j;have j:eU (m:Int)<=k:=by omega
 have:=du (LO m)<|ps z j;rw[af7 this,if_neg<|by omega];rfl;rw[n5,Ot _<|hK<|Int.pow_pos z];rw[Ox];simp
def RE(m k:Nat):m&&&(m/2^k*2^k)=m/2^k*2^k:=by rw[<-Nat.shiftLeft_eq,<-Nat.shiftRight_eq_div_pow];apply af8;intro y;rw[Nat.testBit_and,Nat.testBit_shiftLeft,Nat.testBit_shiftRight];by_cases j:y>=k;simp only[j,decide_true,aft];rw[show k+(y -k)=y by exact r3 o];simp;simp[j]
def RD(i p:Nat):GD (i:Int) (p:Int)=((i&&&p:Nat):Int):=by unfold GD;simp
def afh(m k:Nat):Pg (m:Int) (((m/2^k*2^k:Nat)):Int)=((m%2^k:Nat):Int):=by rw[ah3];rw[RD,RE];exact(congrArg (λc:Nat=>(c:Int)+_ -_)<|Nat.div_add_mod' m<|2^k).symm.trans ((λi p=>by omega:∀i p:Nat,((i+p:Nat):Int)+i -2*i=p) _ _)
def aas(m:Nat)(j:p+g<=d):m%2^d/2^p%2^g=m/2^p%2^g:=by apply af8;intro y;simp only[Nat.testBit_mod_two_pow,Nat.testBit_div_two_pow];by_cases e:y<g;have:y+p<d:=du (fU y p▸OW e p) j;simp[e,this];simp[e]
noncomputable def kh(y m i h:Nat)(q:List aa):List aa:=q.mapIdx λb d=>if i<=b/\b<h then .int ((m/2^(y*(b -i))%2^y:Nat):Int)else d
def Wd:(kh y m i h a).length=a.length:=by simp[kh]
def We(d:m<2^y):a.set i (.int (m:Nat))=kh y m i (i+1) a:=by apply OF;intro b;rw[A1,List.getElem?_set];by_cases p:i=b;subst p;simp only[if_true,bM,e5,and_self,Nat.sub_self,age,Nat.pow_zero,Nat.div_one,Nat.mod_eq_of_lt d];split;rename_i c;rw[n6 c];rfl;rename_i c;rw[A0<|Gn o];rfl;rw[if_neg p];have:¬(i<=b/\b<i+1):=λq=>p<|ur q.1<|m9 q.2;simp only[this,if_false];cases a[b]?<;>rfl
def Wf(g:i<=c)(r:c<=h):kh y (b/2^((c -i)*y)) c h (kh y (b%2^((c -i)*y)) i c a)=kh y b i h a:=by
 apply OF;intro f;rw[A1,A1,A1];induction a[f]?using b7 with
 |none=>rfl
 |some d=>
  simp only[Bb,Pb];by_cases p:c<=f/\f<h;rw[if_pos p,if_pos ⟨aC g p.1,p.2⟩];rw[Nat.div_div_eq_div_mul,<-Gv,qG (c -i) y,<-xA,fU<|c -i,Gy p.1 g];rw[if_neg p];by_cases e:i<=f/\f<c;rw[if_pos e,if_pos ⟨e.1,du e.2 r⟩];rw[aas];rw[<-Gu,qG (c -i) y];exact kJ _<|Gz e.1 e.2;rw[if_neg e,if_neg λq=>(Nat.lt_or_ge f c).elim (λk=>e ⟨q.1,k⟩) λk=>p ⟨k,q.2⟩]
def a5(r:Nat->Nat->Prop):Prop:=∃t,∀l y,t<=l->t<=y->r l y
def a5.mono(j:a5 r)(k:∀l y,r l y->c l y):a5 c:=j.imp λt j l y i p=>k l y<|j l y i p
def a5.and(j:a5 r)(k:a5 c):a5 λl y=>r l y/\c l y:=by obtain⟨t,j⟩:=j;obtain⟨d,k⟩:=k;exact⟨c1 t d,λl y i p=>⟨j l y (aC (xx _ _) o)<|aC (xx _ _) o,k l y (aC (A7 _ _) o)<|aC (A7 _ _) o⟩⟩
def a5.succ(j:a5 r)(k:∀l y,r l y->c l (y+1)):a5 c:=by obtain⟨t,j⟩:=j;refine⟨t+1,λl y i p=>?_⟩;obtain⟨d,rfl⟩:∃d,y=d+1:=⟨y -1,(n9<|aC (dU ..) ‹t+1<=y›).symm⟩;exact k l d<|j l d (A8 o)<|Nat.le_of_succ_le_succ o
def a5.of(K:Nat)(j:∀l y,r (l+K)<|y+K):a5 r:=⟨K,λl y i p=>by
 obtain⟨c,rfl⟩:∃c,y=c+K:=⟨y -K,by exact(n9 o).symm⟩;obtain⟨d,rfl⟩:∃d,l=d+K:=⟨l -K,by exact(n9 o).symm⟩;exact j d c⟩
def a5.all{b:Type}{k:List b}{d:b->Nat->Nat->Prop}(j:∀i∈k,a5<|d i):a5 λc y=>∀i∈k,d i c y:=by
 induction k with
 |nil=>exact⟨0,λc y e e i p=>by cases p⟩
 |cons m w g=>
  refine((j m eB).and<|g λi p=>j i<|eA _ p).mono λc y q i p=>?_;rcases cJ.mp p with rfl|p;exact q.1;exact q.2 i p
section
variable(O:Nat->b0)
def aj(a:aZ)(w:bQ)(f:ai)(d:aa):Prop:=a5 λl y=>bc (O l) y a w f=I d
def aL(a:aZ)(w:bQ)(b:List ai)(q:List aa):Prop:=a5 λl y=>fv (O l) y a w b=I q
def bS(a:aZ)(w:bQ)(f:ai)(k:Bool):Prop:=a5 λl y=>fW (O l) y a w f=I k
def gc(a:aZ)(w:bQ)(c:uB)(b:List ai)(k:Bool):Prop:=a5 λl y=>ow (O l) y a w c b=I k
def dw(a:aZ)(w:bQ)(r f:ai)(q:List aa):Prop:=a5 λl y=>fI (O l) y a w r f=I q
def gU(a:aZ)(w:bQ)(d r:ai)(p:List ai)(f:List m')(q s:List aa):Prop:=a5 λl y=>oh (O l) y a w d r p f q=I s
def aI(a:aZ)(c:List ar)(σ:aG)(aP:List aF)(w:fH):Prop:=a5 λl y=>xs (O l) a c y σ aP=I w
def aH(a:aZ)(c:List ar)(σ:aG)(st:aF)(w:fH):Prop:=a5 λl y=>eo (O l) a c y σ st=I w
def hW(a:aZ)(c:List ar)(σ:aG)(d:ai)(p:List aF)(q:List aa)(w:fH):Prop:=a5 λl y=>ub (O l) a c y σ d p q=I w
end
def La(c:iJ)(f:ai):Bool:=(qw f).elim au λx=>x.2.1==c
def ih(f:ai):List ai:=(((qw f).map λx=>[x.1,x.2.2.1]).or<|((rV f).map λx=>x.1::x.2.2.1).or<|((m2 f).map λx=>[x.2.1,x.2.2.1,x.1]).or<|((kF f).map λx=>[x.1,x.2.1]).or<|((AP f).map λx=>[x.2.1]).or<|((t9 f).map λx=>[x.1]).or<|((js f).map λx=>x.1).or<|((t' f).map λx=>x.1).or<|((kD f).map λx=>x.2.1).or<|(qx f).map λx=>[x.1]).getD []
noncomputable def dT(f:ai):ai:=(ih f).head?.getD f
def ek(f:ai):ai:=(ih f)[1]?.getD f
def Sk(f:ai):ai:=(ih f)[2]?.getD f
def Hu(f:ai):Bool:=(m2 f).isSome
def Lb(c:qJ)(f:ai):Bool:=(rV f).elim au λx=>(ec x.2.1).elim au λd=>(ec x.2.2.1).elim au λw=>d==c&&!nd d w
def BN(f:ai):Bool:=(qm f).isSome
def Li(f:ai):Bool:=(kF f).elim au λx=>!BN x.2.1
def ft(f:ai):List ai:=ih f
def Lj(f:ai):Bool:=(js f).isSome
def Hv(f:ai):Bool:=(t' f).isSome
def wa(f:ai):Bool:=(qx f).elim au λx=>x.2.1.head?.elim au λa=>a.is_async==0
def fZ(f:ai):ai:=dT f
def d_(f:ai):m':=((qx f).bind (·.2.1.head?)).getD ⟨f,f,[],1⟩
def vE(f:ai):List m':=(qx f).elim [] (·.2.1.tail)
def hY(f:ai):gQ:=(qx f).elim h9 (·.2.2.1)
def CU(f:ai):Option (ar×List ai):=(kD f).bind λx=>(fp x.1).bind λy=>if x.2.2.1.isEmpty=ab then I (y.1,x.2.1)else ag
def J4(j:CU f=I x):∃q s,f=.Call (.Name x.1 q) x.2 [] s:=bK j λg w j=>bK j λy a j=>⟨y.2,g.2.2.2,by
  rw[AK w,jW a,pn.mp (cj j).1,<-(cj j).2]⟩
def yh(f:ai):Bool:=(CU f).elim au λx=>(rF x.1 x.2).isNone&&(qo x.2).isNone
def lI(f:ai):ar:=((kD f).bind λx=>fp x.1).elim "" (·.1)
def bD(f:ai):List ai:=ih f
section
variable{O:Nat->b0}{S sD:aZ}{aO:bQ}
theorem aj.of(K:Nat)(j:∀l y,bc (O<|l+K) (y+K) S aO f=I d):aj O S aO f d:=a5.of K j
def Yu(j:La c f=ab):∃k a s,f=.BinOp k c a s:=(fh j).elim λx n=>⟨_,_,_,bL n.2▸N7 n.1⟩
def Yz(j:Hu f=ab):∃r i c s,f=.IfExp r i c s:=(mK j).elim λx n=>⟨_,_,_,_,N_ n⟩
def YI(j:Li f=ab):∃t y s,f=.Subscript t y s/\BN y=au:=(fh j).elim λx n=>⟨_,_,_,F0 n.1,ks n.2⟩
def aaK(j:BN y=au):qm y=ag:=agq.mp<|oU j
def Yx(j:wa f=ab):∃d r g a k b l m,f=.ListComp d (⟨r,g,a,k⟩::b) l m/\(k==0)=ab:=by obtain⟨x,i,j⟩:=fh j;obtain⟨⟨r,g,a,k⟩,c,j⟩:=fh j;obtain⟨b,s⟩:=List.head?_eq_some_iff.mp c;exact⟨_,r,g,a,k,b,_,_,s▸ae_ i,j⟩
def YJ(j:Lj f=ab):∃b k s,f=.Tuple b k s:=(mK j).elim λx n=>⟨_,_,_,ua n⟩
def YC(j:Hv f=ab):∃b s,f=.List b s:=(mK j).elim λx n=>⟨_,_,N' n⟩
def Dq(j:yh a=ab):∃b q y s,a=.Call (.Name b q) y [] s/\rF b y=ag/\qo y=ag:=(fh j).elim λx n=>(J4 n.1).elim λq c=>c.elim λs a=>⟨x.1,q,x.2,s,a,L2 (aM n.2).1,L2 (aM n.2).2⟩
def Yw(j:Lb c f=ab):∃a w s,f=.Compare a [c] [w] s/\nd c w=au:=by obtain⟨x,k,j⟩:=fh j;obtain⟨d,q,j⟩:=fh j;obtain⟨w,i,j⟩:=fh j;obtain rfl:=bL (aM j).1;exact⟨_,w,_,oX q▸oX i▸ae9 k,ks (aM j).2⟩
theorem aj.bin(i:La op f=ab)(y:aj O S aO (dT f) a)(m:aj O S aO (ek f) b)(g:∀c,(O c).bin op a b=I d):aj O S aO f d:=by obtain⟨k,w,s,rfl⟩:=Yu i;exact(y.and m).succ λc q j=>bF j.1<|bF j.2<|g c
def aj.ite(i:Hu f=true)(c:bS O S aO (Sk f) k)(g:k=true->aj O S aO (dT f) d)(m:k=false->aj O S aO (ek f) d):aj O S aO f d:=by obtain⟨r,q,w,s,rfl⟩:=Yz i;induction k using cq with|true=>exact(c.and<|g rfl).succ λl y j=>bF j.1 j.2|false=>exact(c.and<|m rfl).succ λl y j=>bF j.1 j.2
def aj.sub(g:Li f=ab)(y:aj O S aO (dT f) a)(k:aj O S aO (ek f) b)(c:∀l,(O l).item a b=I d):aj O S aO f d:=by obtain⟨t,q,s,rfl,m⟩:=YI g;exact(y.and k).succ λl r j=>vL (aaK m)<|bF j.1<|bF j.2<|c l
theorem aj.comp(i:wa f=ab)(q:S.comp (hY f)=I sD)(g:dw O S aO (d_ f).target (d_ f).iter ds)(b:gU O sD (h2 (hY f) aO) (fZ f) (d_ f).target (d_ f).ifs (vE f) ds s)(y:s.length<=1000000):aj O S aO f (.list s):=by obtain⟨d,r,w,a,k,c,x,B,rfl,m⟩:=Yx i;exact(g.and b).succ λl A j=>eO m<|bF q<|bF j.1<|bF j.2<|eO (h_.mpr y) rfl
theorem aj.tuple(i:Lj f=ab)(j:aL O S aO (ft f) ds)(y:ds.length<=1000000):aj O S aO f (.tuple ds):=by obtain⟨b,k,s,rfl⟩:=YJ i;exact j.succ λl a j=>bF j<|eO (h_.mpr y) rfl
theorem aj.list{f:ai}{q:List aa}(i:Hv f=ab)(j:aL O S aO (ft f) q)(y:q.length<=1000000):aj O S aO f (.list q):=by obtain⟨b,s,rfl⟩:=YC i;exact j.succ λl a j=>bF j<|eO (h_.mpr y) rfl
def a5.nU(j:∀l y,r l<|y+1):a5 r:=⟨1,λl y k i=>by induction y using cN with
 |zero=>exact absurd i z
 |succ y=>exact j l y⟩
def aL.nil:aL O S aO [] []:=a5.nU λl y=>rfl
def aL.cons{e:ai}{b:List ai}{d:aa}{q:List aa}(l:fX e=au)(j:aj O S aO e d)(i:aL O S aO b q):aL O S aO (e::b) (d::q):=(j.and i).succ λa y j=>oP (oU l)<|bF j.1<|bF j.2 rfl
theorem aj.call(i:yh a=ab)(c:(S.global (lI a)&&(aO.lookup<|lI a).isNone)=ab)(m:aL O S aO (bD a) ds)(r:a5 λl k=>(O l).call (lI a) ds=I d):aj O S aO a d:=by obtain⟨s,q,y,w,rfl,g,b⟩:=Dq i;exact(m.and r).succ λl t j=>eO c<|vL b<|vL g<|bF j.1 j.2
theorem bS.cmp(i:Lb op f=ab)(y:aj O S aO (dT f) a)(g:aj O S aO (ek f) b)(d:∀c,(O c).cmp op a b=I k):bS O S aO f k:=by obtain⟨q,w,s,rfl,j⟩:=Yw i;exact(y.and g).succ λc t m=>oP (oU j)<|bF m.1<|bF m.2<|d c
def gc.nil:gc O S aO .And [] ab:=a5.nU λl y=>rfl
def gc.one(j:bS O S aO f k):gc O S aO .And [f] k:=(j.and<|gc.nil (O:=O) (S:=S) (aO:=aO)).succ λl y j=>bF j.1 (by cases k;rfl;exact j.2)
def gU.nil:gU O S aO d r p f [] []:=a5.nU λl y=>rfl
def gU.cons{a r:ai}{p:List ai}{d:aa}{q s:List aa}{l:bQ}{k:Bool}{c:aa}(b:kU S r d aO=I l)(m:gc O S l .And p k)(ae:k=true->aj O S l a c)(i:gU O S aO a r p [] q s):gU O S aO a r p [] (d::q) (if k then c::s else s):=by induction k using cq with|true=>exact((m.and<|ae rfl).and i).succ λe y j=>bF b (bF j.1.1<|bF (eO rfl<|nM j.1.2 rfl)<|bF j.2 rfl)|false=>exact(m.and i).succ λe y j=>bF b<|bF j.1<|bF (oP (oU rfl) rfl)<|bF j.2 rfl
theorem gU.map{n:Type}(s:n->aa)(A:n->aa)(k:n->Bool):∀(c:List n),(∀i∈c,∃d,kU S t (s i) aO=I d/\gc O S d .And ifs (k i)/\(k i=true->aj O S d elt (A i)))->gU O S aO elt t ifs [] (c.map s) ((c.filter k).map A):=by
 intro c;induction c with
 |nil=>
  exact @λC=>gU.nil
 |cons i w x=>
  exact @λB=>by obtain⟨d,y,q,e⟩:=B i eB;have:=gU.cons y q e<|x λp j=>B p<|eA _ j;rw[e4,kG];induction m:k i using cq with|true=>rw[m,if_pos rfl]at this;rw[if_pos rfl,e4];exact this|false=>rw[m,if_neg z]at this;rw[if_neg z];exact this
def gU.Uy{q k xs s:List aa}(w:kU S r d aO=I l)(m:gc O S l .And p ab)(g:dw O S l a e k)(ae:gU O S l b a c f k xs)(i:gU O S aO b r p (⟨a,e,c,0⟩::f) q s):gU O S aO b r p (⟨a,e,c,0⟩::f) (d::q) (xs++s):=(((m.and g).and ae).and i).succ λx y j=>bF w<|bF j.1.1.1<|bF (eO rfl<|eO rfl<|bF j.1.1.2 j.1.2)<|bF j.2 rfl
def gU.flat{n:Type}(s:n->aa)(G:n->List aa):∀(k:List n),(∀B∈k,∃x y,kU S m (s B) aO=I x/\gc O S x .And p ab/\dw O S x i j y/\gU O S x d i c e y (G B))->gU O S aO d m p (⟨i,j,c,0⟩::e) (k.map s) (k.flatMap G):=by
 intro k;induction k with
 |nil=>
  exact @λK=>gU.nil
 |cons B w A=>
  exact @λH=>by obtain⟨x,y,C,q,D,E⟩:=H B eB;exact gU.Uy C q D E<|A λJ F=>H J<|eA _ F
end
section
variable{C:bC}{O:b0}{N n:Nat}{M:List ar}
def Xq{g:bX}:g.grow (V++W)=(g.grow V).grow W:=by unfold bX.grow;have:(λi=>g.X i\/i∈V++W)=λi=>(g.X i\/i∈V)\/i∈W:=funext λi=>propext ⟨λq=>q.elim (λx=>.inl<|.inl x) λx=>(ml.mp x).elim (λx=>.inl<|.inr x) .inr,λq=>q.elim (λx=>x.elim .inl λx=>.inr<|n7 _ x) λx=>.inr<|n8 _ x⟩;rw[this]
end
def I_(D:m.any (·.1)=au)(I:j' C b m a e)(L:ak C a d)(H:bh C b.X b.A b.fuel d)(F:∀J,ak C d J->∃k,(k=uH\/k=uI)/\uK (aK C.prog C.w) J.heap (qO i) k)(q:∀B J,ak C d J->RzL b.X J.heap B e->aB (aK C.prog C.w) b.A (e8 i B []) p n J):aB (aK C.prog C.w) b.A (ic j i [] m []) p n d:=by exact yR (first:=[]) D<|zb D I L H λB t G K=>⟨rfl,F t G,q B t G K⟩
def CT(N:bH C b.heap j.env m (.ref B))(ae:(m==("__debug__":ar))=au)(M:∀J,ak C b J->∃k,(k=uH\/k=uI)/\uK (aK C.prog C.w) J.heap (qO<|.ref B) k)(I:e9 C j i b n)(F:∀G J,ak C b J->bh C j.X j.A j.fuel J->RzL j.X J.heap G n->∀(h:aq->ax->Prop)(l:aq->ax->Prop),(∀H cX,ak C J cX->Rz j.X cX.heap H d->h H cX)->aB (aK C.prog C.w) j.A (e8 (.ref B) G []) h l J)(D:cn (.Call (.Name m t) i [] e) j.env=(cn (.Name m t) j.env>>=λH=>ic e H [] (j1 e<|ha i j.env)<|oa e<|ob [] j.env)):bq C j (.Call (.Name m t) i [] e) b d:=by intro T L R h l q;show aB _ _ (cn (.Call (.Name m t) i [] e) j.env) _ _ _;rw[D];refine av<|BE (bH.load (N.ext L) ?_) ae;exact I_ (I e).2 (I e).1 L R (λJ K=>M J<|L.trans K) λG J K S=>F G J (L.trans K) (R.ext K) S h l λH cX P O=>q H cX (K.trans P) O
def ir(f:ai):ai:=((qw f).map (·.1)).getD ((m2 f).elim f (·.2.1))
def nv(f:ai):ai:=((qw f).map (·.2.2.1)).getD ((m2 f).elim f (·.2.2.1))
def hq(f:ai):ai:=(m2 f).elim f (·.1)
def jJ(f:ai):List ai:=(kD f).elim [] (·.2.1)
def sP(f:ai):a7:=(kD f).elim ⟨0,0,0,0⟩ (gk ·.1)
def jI(f:ai):a7:=((qw f).map (·.2.2.2)).getD (((m2 f).map (·.2.2.2)).getD (((kD f).map (·.2.2.2)).getD ((fp f).elim ⟨0,0,0,0⟩ (·.2))))
def fo(st:aF):ai:=((i7 st).bind (ec ·.1)).getD h9
def hs:aF:=zv 8 0
def fO(y:Nat):aF:=aJ (bw hs) y
def jL:ai:=a3<|fO 3
def Ve:jL=.BinOp (.BinOp (.Call (.Name "inner"<|sP<|ir<|ir jL) (jJ<|ir<|ir jL) []<|jI<|ir<|ir jL) .LShift (nv<|ir jL)<|jI<|ir jL) .Add (.Call (.Name "inner"<|sP<|nv jL) (jJ<|nv jL) []<|jI<|nv jL) (jI jL):=z
def SO:bw hs=[fO 0,fO 1,fO 2]++[.Return (I jL)<|eu<|fO 3]:=z
noncomputable def gj(y:Nat):List Nat->Nat|[]=>0|d::w=>d+2^y*gj y w
def U3(y:Nat):∀i p,gj y (i++p)=gj y i+2^(y*i.length)*gj y p:=by
 intro i;induction i with
 |nil=>
  exact @λp=>by simp[gj]
 |cons d w c=>
  exact @λp=>by simp only[um,gj,c p,gx,xA,agd];rw[hy,<-qF,<-Gv,fU (y*w.length) y]
def U4(p:1<=y):∀{l:List Nat},(∀d∈l,d<2^B)->gj y l+2^B<=2^(B+1+y*l.length):=by
 intro l;induction l with
 |nil=>
  exact @λk=>by simp[gj];exact ps z<|b_ _ _
 |cons d w c=>
  exact @λj=>by
   have b:=c λm ae=>j m<|eA _ ae;have a:=j d eB;simp only[gj,gx];have f:2^(B+1+y*(w.length+1))=2^y*2^(B+1+y*w.length):=by rw[<-Gv,Gu,fU y<|B+1+y*w.length,hy<|B+1]
   have g:=kJ (2^y) b;rw[<-f,xA]at g;have q:2*2^B<=2^y*2^B:=xC _<|ps (n:=2) z p;rw[ef,fU];exact aC (gy (aC (c2<|Nat.add_lt_add_right a _)<|uy (2^B)▸q) _) g
noncomputable def d2(t:List Nat):List aa:=t.map λ(d:Nat)=>aa.int ((d:Nat):Int)
def j_:aZ:=aZ.loc<|bY hs
noncomputable def k'(i h y:Int)(q:List aa):aG:=[("L",.val<|.int i),("R",.val<|.int h),("digits",.val<|.list q),("n",.val<|.int y)]
def c5(f:aF):List aF:=(pf f).elim [] (·.2.1)
def K3:fO 0=.If (a3<|fO 0) [.Return (I<|a3<|aJ (c5<|fO 0) 0)<|eu<|aJ (c5<|fO 0) 0] [] (eu<|fO 0):=z
def IX(i h y:Int)(q:List aa):fW d8 9 j_ (k' i h y q).plus (a3<|fO 0)=I (i+1==h):=z
def acy(i h y:Int)(q:List aa):bc d8 9 j_ (k' i h y q).plus (a3<|aJ (c5<|fO 0) 0)=d3 (.list q) (.int i):=z
noncomputable def wo(i h y c a:Int)(q:List aa):aG:=[("shift",.val<|.int a),("mid",.val<|.int c),("L",.val<|.int i),("R",.val<|.int h),("digits",.val<|.list q),("n",.val<|.int y)]
def acI(i h y:Int)(q:List aa):bc d8 9 j_ (k' i h y q).plus (a3<|fO 1)=bu .RShift (.int<|i+h) (.int 1):=z
def acJ(i h y c:Int)(q:List aa):bc d8 9 j_ ((k' i h y q).vals [("mid",.int c)]).plus (a3<|fO 2)=bu .Mult (.int<|c -i) (.int y):=z
def ac4(i h y c a:Int)(q:List aa):((k' i h y q).vals [("mid",.int c)]).vals [("shift",.int a)]=wo i h y c a q:=z
def R4:fO 1=.Assign [.Name "mid"<|gk<|fo<|fO 1] (a3<|fO 1) (eu<|fO 1):=z
def R5:fO 2=.Assign [.Name "shift"<|gk<|fo<|fO 2] (a3<|fO 2) (eu<|fO 2):=z
def RW(i h y c a:Int)(q:List aa):fv d8 9 j_ (wo i h y c a q).plus (jJ<|ir<|ir jL)=I [.int c,.int h]:=z
def RX(i h y c a:Int)(q:List aa):fv d8 9 j_ (wo i h y c a q).plus (jJ<|nv jL)=I [.int i,.int c]:=z
def ac6(i h y c a:Int)(q:List aa):bc d8 9 j_ (wo i h y c a q).plus (nv<|ir jL)=I (.int a):=z
def SD(b y k a:aq)(m:List (ar×aE))(g h:aq):Bp (fnX "inner" "_digits2int.<locals>.inner" (kX hs) (bw hs) (bY hs) m .none .none b y ag k a) ⟨[g,h],[]⟩=bg ([bp "L",bp "R"].zip [g,h]):=z
def aaS:yX (bY hs) ["L","R"] ["n","inner","digits"]=ab:=z
def abv:j_.own.all (λm=>!(m==("inner":ar)))=ab:=z
def C1:(bY hs).names.lookup (bp "n")=I kN/\(bY hs).names.lookup (bp "inner")=I kN/\(bY hs).names.lookup (bp "digits")=I kN:=by refine⟨?_,?_,?_⟩<;>kernel_rfl
def y8(j:decide (i+1=a)=p):I (((i:Nat):Int)+1==((a:Nat):Int))=I p:=by subst j;congr 1;rw[ui,beq_iff_eq,decide_eq_true_iff];exact⟨F',congrArg Oy⟩
def wg{n:Type}{r:ar->n->Prop}:∀b t,([]:List (ar×n)).lookup b=I t->r b t:=λk k f=>nS f
def hE{n:Type}{P:ar->n->Prop}{k:ar}{c:n}{d:List (ar×n)}(j:P k c)(w:∀b t,d.lookup b=I t->P b t):∀b t,((k,c)::d).lookup b=I t->P b t:=λb t f=>by rw[ep]at f;induction i:b==k using cq with|true=>rw[i]at f;cases f;exact bL i▸j|false=>rw[i]at f;exact w b t f
def Hw{m j k:ar}{i d g:aE}(f:i≠d)(h:i≠g)(e:d≠g):List.Pairwise (λs q=>s.2≠q.2) [(m,i),(j,d),(k,g)]:=.cons (a6 f<|a6 h dC)<|.cons (a6 e dC)<|.cons dC .nil
def mv.sim(w:mv C g j r i h m f x k a)(J:dG (σ.map (·.1))=ab) (H:∀O M,σ.lookup O=I M->∃d,M=.val d/\∃Q,bH C a.heap g.env O Q/\Rz g.X a.heap Q d):aX C g (aZ.loc h) σ [] a:=by have G:=w.good.aT;have D:=w.ok.loc;refine⟨⟨w.good.handled,w.good.depth,w.good.units,w.good.guards,λp B=>?_,λp T=>.inl<|G p T,w.good.ok,w.good.tok⟩,⟨w.ok.sc,w.ok.glob,w.ok.blt,λp T=>.inl<|G p T,w.ok.own,w.ok.cells,λO U E=>?_,⟨D.kind,D.ns,D.cell,D.apart,D.e1,λp B=>.inl<|D.bJ p B,D.hI,D.jt,λK p E=>⟨(D.dx K p E).1,(D.dx K p E).2.1,.inl (D.dx K p E).2.2⟩,D.pin⟩⟩,J,λp B=>(by cases B),λO V E=>?_,λO Y V W p E P P P=>?_,G,D.bJ,λK p E=>(D.dx K p E).2.2⟩;rcases(B:g.X p\/p∈([]:List aE))with B|B;exact w.good.cA p B;cases B;have E:=(fB J).mp E;obtain⟨d,F,Q,R,S⟩:=H _ _ E;cases F;exact⟨Q,R,S.less λp q=>q.elim id λq=>by cases q⟩;obtain⟨d,F,P⟩:=H _ _ E;cases F;obtain⟨d,F,P⟩:=H _ _ E;cases F
structure u9(h:Heap)(f cd ci ox:Addr)(n:Nat)(iE:Value):Prop where
 made:lD h f "inner" "_digits2int.<locals>.inner" (kX hs) (bw hs) (bY hs) [("n",ox),("inner",ci),("digits",cd)]
 d:h.IsCell cd (some iE)
 i:h.IsCell ci (some<|.ref f)
 n:∃t,h.IsCell ox<|some<|.int (n:Nat) t
 ne:ox≠ci/\ox≠cd/\ci≠cd
theorem u9.kept{q:Nat}(l:u9 j s b c p q a)(r:e3 g j)(m:gB j y):u9 y s b c p q a:=⟨l.made.kept r m,sR r l.d m,sR r l.i m,l.n.imp λk A=>sR r A m,l.ne⟩
def lD.zF{aP:List aF}(r:lD j s p g a aP i d):∃k,(k=uH\/k=uI)/\uK c j (qO<|.ref s) k:=by obtain⟨b,y,n,l,q,t⟩:=r.obj;exact⟨.frame,.inl rfl,(ahp (part:=ag) q).andThen .now⟩
def RzL.Dl(b:RzL c j x (.int i::k)):∃d g,x=.int i d::g/\RzL c j g k:=by cases b with|cons w m=>cases w;exact⟨_,_,rfl,m⟩
def Fm(w:RzL c j x [.int i,.int p]):∃e d,x=[.int i e,.int p d]:=w.Dl.elim λe w=>w.elim λg w=>w.2.Dl.elim λd q=>q.elim λy q=>⟨e,d,w.1.trans (congrArg (_::·) (q.1.trans (congrArg (_::·) (by cases q.2;rfl))))⟩
def mv.leave(q:mv C g f i j h m a x l n)(F:k.X=g.X)(G:k.Y=g.Y)(w:b2 C k [] gV n J):ak C l J/\∀I d,Rz k.X J.heap I d->Rz f J.heap I d:=by
 refine⟨?_,λI d P=>P.less λp B=>by rw[F,q.xs];exact .inl B⟩;have H:cu C k gV l J:=q.ext.bx.trans w.bx;refine H.ext (λp Q=>q.rY p<|G▸Q) λp B=>?_;rcases w.new p B with E|E;cases E;induction L:l.heap.get? p using b7 with
 |none=>rfl
 |some M=>
  by_cases K:C.T p;obtain⟨O,D,R⟩:=q.good.cA p<|q.good.aT p K;rw[E]at D;cases D;rw[q.ext.keep p M L K]at E;cases E
def mv.kept(q:mv (az d) g i r t h f a x l n)(F:k.Y=g.Y)(B:b2 (az d) k [] m n J):gB l.heap J.heap:=by intro p G E C _;have j:=q.ext.keep p G E C;refine B.bx.keep p G j C (λH=>?_) λd=>?_;rw[F]at H;rw[q.rY p H]at E;cases E;rcases B.new p d with D|D;cases D;rw[j]at D;cases D
def YR(a:i<t.length)(q:t.length<=10000):d3 (.list<|d2 t) (.int (i:Nat))=I (.int (t[i]:Nat)):=by
 show(iO (d2 t).length (i:Nat)).bind (λb=>(d2 t)[b]?)=_;have y:(d2 t).length=t.length:=by simp[d2]
 rw[y,v8 a<|aC (c2 a)<|aC o z];simp[d2,a]
def Zf{t:List Nat}(j:i<t.length):gj y ((t.drop i).take<|i+1 -i)=t[i]:=by
 have f:(t.drop i).take (i+1 -i)=[t[i]]:=by rw[OY,OD j];rfl
 rw[f];simp[gj]
def adp{t:List Nat}(g:L<=m)(q:m<=R)(a:R<=t.length):gj y ((t.drop L).take<|R -L)=gj y ((t.drop m).take<|R -m)*2^((m -L)*y)+gj y ((t.drop L).take<|m -L):=by
 have f:(t.drop L).take (R -L)=(t.drop L).take (m -L)++(t.drop m).take (R -m):=by rw[show R -L=(m -L)+(R -m)from by rw[fU,Gy q g],List.take_add,OC];rw[r3 g]
 rw[f,U3,afU,OJ,uw<|O' (aC q a) L,qG y,qG<|2^_,fU]
def MV(i h:Nat):bu .RShift (.int<|(i:Nat)+(h:Nat)) (.int 1)=I (.int (((i+h)/2:Nat):Int)):=by have:=Nj (i+h) 1;show(if decide ((0:Int)<=1)then I (aa.int _)else ag)=_;simp only[show decide ((0:Int)<=1)=ab by decide,if_true];congr 2
def zZ(c:i<2^100000)(j:p<2^100000):bu .Mult (.int (i:Nat)) (.int (p:Nat))=I (.int ((i*p:Nat):Int)):=by show(if bG (eU (i:Nat)) 100000&&bG (eU (p:Nat)) 100000 then I (aa.int _)else ag)=_;rw[if_pos (by simp only[c0,h_];exact⟨zw c,zw j⟩)];simp
def Nh(p:i<2^j)(b:j+k<=2^27):bu .LShift (.int (i:Nat)) (.int (k:Nat))=I (.int ((i*2^k:Nat):Int)):=by show(if decide (0<=((k:Nat):Int))&&decide ((eU (i:Nat):Int)+(k:Nat)<=2^27)then I (aa.int _)else ag)=_;rw[if_pos (by rw[decide_eq_true<|show((eU (i:Nat):Nat):Int)+(k:Nat)<=2^27 from hv.mpr<|aC (jv (zw p) k) b];rfl)];simp
def zP(j:i<=10000):i<2^100000:=cH j (du (show 10000<2^14 by decide)<|ps z z)
set_option maxHeartbeats 2000000 in
def yk(l:a=i+k+1)(j:¬i+1=a)(r:b=(i+a)/2):∃g d,b=i+g+1/\a=b+d+1/\k=g+d+1:=by
 cases k with
 |zero=>exact(j l.symm).elim
 |succ k=>
  have f:b=i+k/2+1:=by rw[r,l,show i+(i+(k+1)+1)=2*i+(k+2)by rw[uy];exact(hy i i<|k+2).symm,Nat.mul_add_div z,Nat.add_div_right k z];rfl
  obtain⟨d,n⟩:=Nat.exists_eq_add_of_le<|OZ k 2;exact⟨k/2,d,f,by rw[f,l,ef _ 1 d,hy i (k/2) d,<-n];rfl,congrArg (·+1) n⟩
def Yb(O:a4)(bB:1<=M)(aL:M<=10000)(aA:F.length<=10000)(bz:∀d∈F,d<2^ca)(a3:ca<=10000):∀k G h:Nat,h=G+k+1->h<=F.length->∀(bn:aE->Prop)(ch:dI)(bv:ax)(cl cr:iL),bh (az O) bn ch (k+1) bv->(bn a1/\bn a2/\bn bd)->u9 bv.heap bs a1 a2 bd M bi->Rz bn bv.heap bi (.list<|d2 F)->∀(bm:aq->ax->Prop)(ce:aq->ax->Prop),(∀aG J,ak (az O) bv J->Rz bn J.heap aG (.int (gj M ((F.drop G).take<|h -G):Nat))->bm aG J)->aB (aK cy O) ch (e8 (.ref bs) [.int (G:Nat) cl,.int (h:Nat) cr] []) bm ce bv:=by
 intro k;induction k using agf with
 |ind k bC=>
 intro G h b' V bn ch bv cl cr aO ap av bN bm ce q;obtain⟨aZ,bF,bj,aY,bo,aw,b0,cf,bk,b7,bl,b5⟩:=av.made.obj;obtain⟨co,ay⟩:=av.n;refine BF ?_;refine Jf (C:=az O) (N:=k) (params:=["L","R"]) (fd:=fnX "inner" "_digits2int.<locals>.inner" (kX hs) (bw hs) (bY hs) [("n",bd),("inner",a2),("digits",a1)] .none .none aZ bF ag (.ref bj) aY) bo rfl rfl ⟨_,_,_,_,rfl,bk,bl,b5⟩ (D5 aO.ok) aaS (SD _ _ _ _ _ _ _) rfl rfl rfl ?_ ?_ aO λao K T b1=>?_;exact Hw av.ne.1 av.ne.2.1 av.ne.2.2;exact hE ⟨q5 aO.ok ay,ap.2.2,_,ay⟩<|hE ⟨q5 aO.ok av.i,ap.2.1,_,av.i⟩<|hE ⟨q5 aO.ok av.d,ap.1,_,av.d⟩ wg;have bf:∀H aw,¬bn H->bv.heap.get? H=I aw->K.heap.get? H=I aw:=λH aw U ai=>T.ext.keep H aw ai λaj=>U<|aO.aT H aj;have aM:Rz ao.X K.heap bi (.list<|d2 F):=by refine(bN.more (Y:=ao.X) λH aw ai as=>?_).mono λH aw U ai=>T.ext.keep H aw ai λaj=>U<|T.good.aT H aj;rw[T.xs]at as;exact as.elim id λas=>by rw[T.rY H as]at ai;cases ai
 have bP:bH (az O) K.heap ao.env "L" (.int (G:Nat) cl):=T.vars _ _ rfl;have bQ:bH (az O) K.heap ao.env "R" (.int (h:Nat) cr):=T.vars _ _ rfl;have bS:bH (az O) K.heap ao.env "n" (.int (M:Nat) co):=T.free _ bd _ C1.1 rfl ay;have bR:bH (az O) K.heap ao.env "inner" (.ref bs):=T.free _ a2 _ C1.2.1 rfl av.i;have bc:bH (az O) K.heap ao.env "digits" bi:=T.free _ a1 _ C1.2.2 rfl av.d;have ah:=T.sim (σ:=k' (G:Nat) (h:Nat) (M:Nat)<|d2 F) z<|hE ⟨_,rfl,_,bP,.int _ _⟩<|hE ⟨_,rfl,_,bQ,.int _ _⟩<|hE ⟨_,rfl,_,bc,aM⟩<|hE ⟨_,rfl,_,bS,.int _ _⟩ wg;have ae:=ah.E' (p:=λas=>if as==("inner":ar)then I (.ref bs)else ag) (Af:=j_.own) (λas aG ai=>by
  split at ai;rename_i aF;cases ai;rw[bL aF];exact bR;cases ai) λas aF=>⟨aF,by
  rw[hL]at aF;have:=bZ.mp abv as<|of_decide_eq_true aF;simp only[ez]at this;simp only[this,g7,if_false]⟩
 obtain⟨D,aS,bu,am,an,a6,aU,ae⟩:∃D:bX,D.env=ao.env/\D.A=ao.A/\D.X=ao.X/\D.Y=ao.Y/\D.fuel=ao.fuel/\D.pin "inner"=I (.ref bs)/\aX (az O) D j_ (k' (G:Nat) (h:Nat) (M:Nat)<|d2 F) [] K:=⟨{ao with pin:=λas=>if as==("inner":ar)then I (.ref bs)else ag},rfl,rfl,rfl,rfl,rfl,rfl,ae⟩;rw[<-aS,<-bu,SO];by_cases ad:G+1=h;subst ad;have dW:bV (az O) D j_ (c3 (fO 0) D.env) (k' (G:Nat) ((G+1:Nat):Int) (M:Nat)<|d2 F) (.ret<|.int (F[G]:Nat)):=by rw[K3];refine tV (n:=9) (eX O 0) (dV _) (k:=ab) ((IX _ _ _ _).trans<|y8<|decide_eq_true rfl) (λb6=>?_) (λq=>by cases q);exact bV.ret<|Nu λcg bv ah=>ah.ev (n:=9) (eX O 0) (dV _)<|(acy _ _ _ _).trans<|YR V aA
 refine d6<|dW [] K ae _ _ λaG b4 J br cc bO=>?_;obtain⟨bU,bG⟩:=T.leave am an br;refine q aG J bU ?_;rw[Zf V];exact bG _ _ bO;obtain⟨P,a9⟩:∃P,P=(G+h)/2:=⟨_,rfl⟩;obtain⟨bD,bE,a_,a',hF⟩:=yk o ad a9;have aJ:G<P:=a_▸jw (b_ ..);have aD:P<h:=a'▸jw (b_ ..);have bI:bV (az O) D j_ (c3 (fO 0) D.env) (k' (G:Nat) (h:Nat) (M:Nat)<|d2 F) (.next<|k' (G:Nat) (h:Nat) (M:Nat)<|d2 F):=by rw[K3];exact tV (n:=9) (eX O 0) (dV _) (k:=au) ((IX _ _ _ _).trans<|y8<|decide_eq_false ad) (λq=>by cases q) λb6=>bV.nil
 have bJ:bV (az O) D j_ (c3 (fO 1) D.env) (k' (G:Nat) (h:Nat) (M:Nat)<|d2 F) (.next<|(k' (G:Nat) (h:Nat) (M:Nat)<|d2 F).vals [("mid",.int (P:Nat))]):=by rw[R4];exact tT (n:=9) (d:=.int (P:Nat)) (eX O 0) (dV _) ((acI _ _ _ _).trans<|by rw[MV,a9]) z z
 have bK:bV (az O) D j_ (c3 (fO 2) D.env) ((k' (G:Nat) (h:Nat) (M:Nat)<|d2 F).vals [("mid",.int (P:Nat))]) (.next<|wo (G:Nat) (h:Nat) (M:Nat) (P:Nat) (((P -G)*M:Nat):Int)<|d2 F):=by rw[R5,<-ac4];exact tT (n:=9) (d:=.int (((P -G)*M:Nat):Int)) (eX O 0) (dV _) ((acJ _ _ _ _ _).trans<|by rw[<-zZ (zP<|aC (qH P G)<|aC (c2 aD)<|aC V aA) (zP aL),AW<|c2 aJ]) z z
 refine s6<|bV.cons bI (bV.cons bJ<|bV.cons bK bV.nil) [] K ae _ _ λvo b8 S al=>?_;have a8:=T.kept an al;have aW:=av.kept aO.ok a8;have aN:bH (az O) b8.heap D.env "inner" (.ref bs):=S.ok.loc.pin _ _ aU;have ba:Rz D.X b8.heap bi (.list<|d2 F):=by rw[am];refine aM.mono λH aw U ai=>al.bx.keep H aw ai (λaj=>U<|T.good.aT H aj) (λas=>U<|rwL T.xs<|.inr<|an▸as) λbT=>?_;rcases al.new H bT with bg|bg;cases bg;rw[ai]at bg;cases bg
 have aH:D.X a1/\D.X a2/\D.X bd:=by rw[am,T.xs];exact⟨.inl ap.1,.inl ap.2.1,.inl ap.2.2⟩
 have b9:D.fuel=k:=a6.trans T.fuel;have e8:∀(ac H:Nat)(be:Nat),be<k->H=ac+be+1->H<=F.length->∀aV J,ak (az O) b8 J->bh (az O) D.X D.A D.fuel J->RzL D.X J.heap aV [.int (ac:Nat),.int (H:Nat)]->∀(bm:aq->ax->Prop)(ce:aq->ax->Prop),
   (∀aG cX,ak (az O) J cX->Rz D.X cX.heap aG (.int (gj M ((F.drop ac).take<|H -ac):Nat))->bm aG cX)->aB (aK cy O) D.A (e8 (.ref bs) aV []) bm ce J:=by
  intro ac H be a7 U a5 aV J aI bp bb bm ce q
  obtain⟨b3,cv,rfl⟩:=Fm bb
  exact bC be a7 ac H U a5 D.X D.A J b3 cv (bp.fuel<|af' o<|F6 o) aH (aW.kept S.good.ok<|gB.jR aI) (ba.mono λH aw U ai=>aI.keep H aw ai λaj=>U<|S.aT H aj) bm ce q
 have af:∀J,ak (az O) b8 J->∃k,(k=uH\/k=uI)/\uK (aK cy O) J.heap (qO<|.ref bs) k:=λJ aI=>(aW.kept S.good.ok<|gB.jR aI).made.zF;have aR:∀ac H:Nat,gj M ((F.drop ac).take<|H -ac)<2^(ca+1+M*(H -ac)):=λac H=>by have aP:=U4 bB (B:=ca) (l:=(F.drop ac).take<|H -ac) λd bA=>bz d<|OP<|afY bA;have aQ:((F.drop ac).take<|H -ac).length<=H -ac:=xu ..;have bt:2^(ca+1+M*((F.drop ac).take<|H -ac).length)<=2^(ca+1+M*(H -ac)):=ps z<|gy (kJ M aQ) _;exact du (qD<|Gw z)<|aC aP bt
 have a0:bq (az O) D jL b8 (.int (gj M ((F.drop G).take<|h -G):Nat)):=by
  rw[Ve];refine bq.binop (a:=.int ((gj M ((F.drop P).take<|h -P)*2^((P -G)*M):Nat):Int)) (b:=.int (gj M ((F.drop G).take<|P -G):Nat)) (bq.binop (a:=.int (gj M ((F.drop P).take<|h -P):Nat)) (b:=.int (((P -G)*M:Nat):Int)) ?_ ?_<|yL _ _ _ _ ?_) ?_<|yL _ _ _ _ ?_;exact CT aN z af ((de (eX O 0) 9).jN _ _ _ _ D b8 S.borrow (dV _)<|RW _ _ _ _ _ _) (e8 P h bE (hF▸jw (dU ..)) a' V) z;exact S.ev (n:=9) (eX O 0) (dV _)<|ac6 _ _ _ _ _ _;have aP:M*(h -G)<=10000*10000:=xB aL<|aC (qH _ _)<|aC o o;have aQ:M*(h -P)+(P -G)*M=M*(h -G):=by rw[qG (P -G) M,<-xA,Gy (c2 aD)<|c2 aJ]
  exact Nh (j:=ca+1+M*(h -P)) (aR P h) (by rw[hy,aQ];exact aC (ll (jx a3) aP) z);exact CT aN z af ((de (eX O 0) 9).jN _ _ _ _ D b8 S.borrow (dV _)<|RX _ _ _ _ _ _) (e8 G P bD (hF▸jw (b_ ..)) a_<|aC (c2 aD) V) z;rw[adp (L:=G) (m:=P) (R:=h) (c2 o) (c2 o) V];exact congrArg (λcb=>I<|aa.int cb) (F9 _ _).symm
 refine d6<|x1<|a0 b8 (ak.refl b8) S.cB _ _ λaG cP bW bM=>?_;obtain⟨bU,bG⟩:=T.leave am an<|al.trans S<|b2.ext bW;exact q aG cP bU<|bG _ _ bM
def aX.store(j:aX C g am σ b f)(ae:am.own.contains x=ab)(X:jj x=ab)(Y:σ.lookup x=ag) (q:∀J,aX C g am σ b J->b2 C g b b f J->bH C J.heap g.env x al->dn C g f J->an () J):aB (aK C.prog C.w) g.A (xX g.env x al) an ap f:=by
 refine Au (c:=g.grow b) j.good j.ok.loc (j.ok.own x ae X) λJ st N K m=>?_;have t:∀D O,σ.lookup D=I O->D≠x:=λD O B q=>by rw[q,Y]at B;cases B
 have kp:∀i∈b,∀P,f.heap.get? i=I P->J.heap.get? i=I P:=λi F P B=>st.keep i P B (j.bW F)<|j.wx F;refine q J ⟨j.good.step st,⟨j.ok.sc,j.ok.glob,j.ok.blt,j.ok.aT,j.ok.own,j.ok.cells,λD d B=>?_,N⟩,j.keys,λi F=>?_,λD k B=>?_,λD R k M i B H al ad=>?_,j.aT,j.bJ,j.cI⟩ ⟨st.bx.f9,λi F=>.inl F,λi F=>F⟩ K ⟨st.same,st.keep,st.tabs,st.ok,st.all,st.toks⟩;obtain⟨af,i,ac⟩:=j.ok.names D d B;exact⟨af,m D af (t D _<|(fB j.keys).mp B) i,st.nW j.good j.ok.loc ac⟩;obtain⟨U,V,L,aa,B⟩:=j.lists i F;exact⟨U,V,L,aa,kp i F _ B⟩;obtain⟨i,F,K,L,aa,T,ac⟩:=j.own D k B;exact⟨i,F,m D _ (t D _ B) K,L,aa,kp i F _ T,st.rH j.good j.ok.loc ac⟩;obtain⟨c9,ai,p,ah⟩:=j.own D k B;obtain⟨dp,aj,G,ah⟩:=j.own R M H;have dZ:=(m D _ (t D _ B) p).same al;have fa:=(m R _ (t R _ H) G).same ad;rw[dZ]at p;rw[fa]at G;exact j.apart D R k M i B H p G
def t7(e:bH C j env m b)(c:env.kindOf m=I .cell)(p:env.cells.lookup m=I i):j.IsCell i (I b):=by obtain⟨d,d,d,e⟩:=e;rcases e with⟨k,_⟩|⟨k,ad,f,r,w⟩;rw[c]at k;cases k;rw[p]at f;cases f;exact w
def Jy(aq:yq n r bd j k)(ah:aX (az n) g ap σ p as){aP:List aF}(an:∀G,g.Y G->G=g.env.locals\/∃af,g.env.cells.lookup af=I G)(L:xM i g.env=bg (al::d))(D:g.env.code=.ref r)(ad:PX g.env "inner" "inner"=k)(ae:ap.own.contains (bp "inner")=ab)(ac:σ.lookup (bp "inner")=ag)(M:a.defaults=[])(O:a.kw_defaults=[])(X:PH a ag g.env=[])(q:∀R J,aX (az n) g ap σ p J->b2 (az n) g p p as J->lD J.heap R "inner" k a aP i (al::d)->bH (az n) J.heap g.env "inner" (.ref R)->a1 .next J):aB (aK cy n) g.A (c3 (.FunctionDef "inner" a aP [] ag [] i ag "inner" j) g.env) a1 a2 as:=by refine nestDef_K M O X ?_;rw[ad];refine Z5 aq ah.good.ok L (show g.env.globals=xR from ah.ok.glob) D λR fg eo aw ai=>?_;have B:=ah.ext eo;refine B.store (x:="inner") ae z ac λb8 t cp am st=>?_;refine q R b8 t ((b2.ext eo).trans B cp) (ai.Ly B.good.ok λG ax T aj F=>st.keep G ax T aj λay=>?_) am;have ao:=B.ok.loc;rcases an G ay with rfl|⟨af,aa⟩;obtain⟨ar,ak,av,au,C,K,ar⟩:=ao.ns;rw[show(g.grow p).env.locals=g.env.locals from rfl,T]at C;cases C;rcases F with⟨U,H⟩|⟨_,V,H⟩<;>(rw[K]at H;cases H);obtain⟨aA,ak,C,K⟩:=ao.cell af G aa;rw[T]at C;cases C;rcases F with⟨U,H⟩|⟨_,V,H⟩<;>(rw[K]at H;cases H)
def Iu(y:Nat):aF:=aJ (bw mT) y
def ky:ai:=a3<|Iu 1
def SP:bw mT=[.FunctionDef "inner" (kX hs) (bw hs) [] ag [] (bY hs) ag "inner" Fc,.Return (I ky)<|eu<|Iu 1]:=z
def acf:ky=.IfExp (hq ky) (.Call (.Name "inner"<|sP<|ir ky) (jJ<|ir ky) []<|jI<|ir ky) (nv ky) (jI ky):=z
noncomputable def tQ(q:List aa)(y:Int):aG:=[("digits",.val<|.list q),("n",.val<|.int y)]
def sE:aZ:=aZ.fn<|bY mT
def Fe:bt mT=[bp "digits",bp "n"]:=z
def S_(q:List aa)(y:Int):fW d8 9 sE (tQ q y).plus (hq ky)=t2 (.list q):=z
def Vi(q:List aa)(y:Int):bc d8 9 sE (tQ q y).plus (nv ky)=I (.int 0):=z
def RY(a:List aa)(y:Int)(j:a.length<=10000):fv d8 9 sE (tQ a y).plus (jJ<|ir ky)=I [.int 0,.int a.length]:=by have f:fv d8 9 sE (tQ a y).plus (jJ<|ir ky)=(I<|aa.int 0).bind λd=>((dj (iR [.list a]) ag).bind λd=>(I []).bind λw=>I<|d::w).bind λw=>I (d::w):=z;rw[f];have:iR [.list a]=I (.int a.length):=if_pos (by simp only[h_];exact aC o z);rw[this];rfl
def oE(r:bR):Bh:=eM<|tG r
def T'(r:bR)(i:aE):xM (bY hs) (dJ (oE r) i 115)=bg [(bp "n",i+1+1),(bp "inner",i+1+1+1),(bp "digits",i+1)]:=z
def Up(r:bR)(i:aE):(dJ (oE r) i 115).code=.ref 114:=z
def ace(r:bR)(i:aE):PX (dJ (oE r) i 115) "inner" "inner"=bp "_digits2int.<locals>.inner":=z
def RG(q:kK):PH (kX hs) ag q=[]:=z
def TO(r:bR)(i:aE):(dJ (oE r) i 115).cells=[(bp "inner",i+1+1+1),(bp "n",i+1+1),(bp "digits",i+1)]:=z
def Y7(r:bR)(i:aE):(dJ (oE r) i 115).kindOf (bp "inner")=I ib/\(dJ (oE r) i 115).kindOf (bp "n")=I ib/\(dJ (oE r) i 115).kindOf (bp "digits")=I ib:=by refine⟨?_,?_,?_⟩<;>kernel_rfl
theorem pG.fd(D:pG (az f) g m r k i j b x l n)(G:∀E,e3 f E->E.get? i=I d)(F:e3 f l.heap):∃y,g.env=dJ (eM d) y i:=by obtain⟨H,y,J,B,C,p,K⟩:=D.env;have q:=p l.heap F;rw[G l.heap F]at q;cases q;refine⟨y,?_⟩;rw[B];unfold eM;rw[C]
def R9(n:a4):∀j,e3 n j->j.get? 115=I (tG n.params):=λj r=>gF (a:=115) r z rfl (show(gD n.params).get 115=I (tG n.params)by kernel_rfl) z
def M':hu (bY mT) (bt mT)=ab:=z
def abw:sE.own.contains (bp "inner")=ab:=z
set_option tactic.hygienic true in
set_option maxHeartbeats 2000000 in
def U5(j:a4)(aD:1<=y)(ae:y<=10000)(F:t.length<=10000)(aB:∀d∈t,d<2^B)(aa:B<=10000)(aU:t.length<=N):cM (az j) (.ref 115) [.list<|d2 t,.int (y:Nat)] (N+1) (.int (gj y t:Nat)):=by
 intro aO aZ a0 aY ax am aM aL q;refine ta (C:=az j) (JX j) M' (by rw[am.length,Fe];rfl) ax λh aG G aN=>?_;have ah:=G.sim M' (by rw[Fe];rfl) ax am;rw[show cT (bt mT) [.list<|d2 t,.int (y:Nat)]=tQ (d2 t) (y:Nat)by rw[Fe];rfl]at ah;obtain⟨i,D⟩:=G.fd (R9 j) ax.ok;have ay:h.fuel=N:=G.fuel;have aQ:∀p,h.X p↔aO p\/h.Y p:=λp=>by rw[G.xs]
 rw[SP];refine d6<|Jy (D4 j) ah G.Oc (rwL D<|T' j.params i) (rwL D<|Up j.params i) (rwL D<|ace j.params i) abw z z z (RG _) λaS b8 l Z aE ap=>?_;obtain⟨aq,as,an⟩:=l.ok.names "digits" (.list<|d2 t) z;obtain⟨aX,au,ao⟩:=l.ok.names "n" (.int (y:Nat)) z;have T:=Y7 j.params i;have m:=TO j.params i;have U:∀av,(h.grow []).env.kindOf av=(dJ (oE j.params) i 115).kindOf av:=λav=>by rw[show(h.grow []).env=h.env from rfl,D];rfl
 have S:(h.grow []).env.cells=(dJ (oE j.params) i 115).cells:=by rw[show(h.grow []).env=h.env from rfl,D];rfl
 have af:(h.grow []).env.cells.lookup (bp "digits")=I (i+1):=by rw[S,m];rfl
 have ag:(h.grow []).env.cells.lookup (bp "inner")=I (i+1+1+1):=by rw[S,m];rfl
 have ai:(h.grow []).env.cells.lookup (bp "n")=I (i+1+1):=by rw[S,m];rfl
 have ab:=t7 as (by rw[U];exact T.2.2) af;have ac:=t7 (env:=(h.grow []).env) ap (by rw[U];exact T.1) ag;have ad:=t7 au (by rw[U];exact T.2.1) ai;cases ao;rename_i aI;have al:Rz h.X b8.heap aq (.list<|d2 t):=an.less λp q=>.inl q;have M:h.X (i+1)/\h.X (i+1+1+1)/\h.X (i+1+1):=⟨l.cI _ _ af,l.cI _ _ ag,l.cI _ _ ai⟩;have V:u9 b8.heap aS (i+1) (i+1+1+1) (i+1+1) y aq:=⟨aE,ab,ac,⟨aI,ad⟩,⟨fs<|e5 _,i_<|e5 _,i_<|r4 (e5 _)<|e5 _⟩⟩;have W:bq (az j) h ky b8 (.int (gj y t:Nat)):=by
  rw[acf];have P:fW d8 9 sE (tQ (d2 t) (y:Nat)).plus (hq ky)=I (!(d2 t).isEmpty):=(S_ _ _).trans (if_pos (by simp[d2];exact aC F<|by decide));refine bq.Dn (k:=!(d2 t).isEmpty) ((de (eX j 0) 9).jM _ _ _ _ h b8 l.borrow (dV _) P) (λR=>?_) λR=>?_;have H:0<t.length:=by induction t using a8 with|nil=>simp[d2]at R|cons aP p=>simp
  refine CT ap z (λJ O=>(V.kept l.good.ok<|gB.jR O).made.zF) ((de (eX j 0) 9).jN _ _ _ _ h b8 l.borrow (dV _)<|RY _ _<|by simpa[d2]using F) (λar J O aA K aM aL q=>?_) z;have K:RzL h.X J.heap ar [.int ((0:Nat):Int),.int ((t.length:Nat):Int)]:=by simpa[d2]using K
  obtain⟨b3,cv,rfl⟩:=Fm K;refine Yb j aD ae F aB aa (t.length -1) 0 t.length (by rw[g9];exact(n9 H).symm) (bM _) h.X h.A J b3 cv (aA.fuel (by rw[n9 H];exact aC o<|cL<|F6 o)) M (V.kept l.good.ok<|gB.jR O) (al.mono λp aV P aR=>O.keep p aV aR λaH=>P<|l.aT p aH) aM aL λaJ cX aw aj=>q aJ cX aw ?_;simpa using aj;have:t=[]:=by induction t using a8 with|nil=>rfl|cons aP p=>simp[d2]at R
  subst this;exact l.ev (n:=9) (eX j 0) (dV _)<|Vi _ _
 refine d6<|x1<|W b8 (ak.refl b8) l.cB _ _ λaJ cP aK aF=>?_;obtain⟨av,aW⟩:=G.leave ax (Z.trans l<|b2.ext aK) aF;exact q aJ cP av aW
def hr:aF:=zv 7 1
def cQ(y:Nat):aF:=aJ (bw hr) y
def f3(f:aF):ai:=(t_ f).elim h9 (·.1)
def p2(f:aF):a7:=(t_ f).elim ⟨0,0,0,0⟩ (·.2)
def tZ(st:aF):ai:=(((i7 st).bind (ec ·.1)).bind kF).elim h9 (·.2.1)
def Ay(st:aF):a7×a7:=((((i7 st).bind (ec ·.1)).bind kF).bind λx=>(fp x.1).map λy=>(y.2,x.2.2)).getD (⟨0,0,0,0⟩,⟨0,0,0,0⟩)
def oQ:aF:=aJ (c5<|cQ 0) 0
def K2:cQ 0=.If (a3<|cQ 0) [oQ,.Return ag<|eu<|aJ (c5<|cQ 0) 1] [] (eu<|cQ 0):=z
def Ze:oQ=.Assign [.Subscript (.Name "a_digits" (Ay oQ).1) (tZ oQ) (Ay oQ).2] (a3 oQ) (eu oQ):=z
def SM:bw hr=cQ 0::([cQ 1,cQ 2,cQ 3,cQ 4]++[cQ 5,cQ 6]):=z
def vC(y:Nat):ai:=.Call (.Name "inner"<|sP<|f3<|cQ y) (jJ<|f3<|cQ y) []<|jI<|f3<|cQ y
def VO:cQ 5=.Expr (vC 5) (p2<|cQ 5):=z
def VP:cQ 6=.Expr (vC 6) (p2<|cQ 6):=z
def gT:aZ:=aZ.loc<|bY hr
noncomputable def nY(m i h y:Int)(q:List aa):aG:=[("x",.val<|.int m),("L",.val<|.int i),("R",.val<|.int h),("n",.val<|.int y),("a_digits",.own q)]
noncomputable def Ar(d i h y c a b lo:Int)(q:List aa):aG:=[("lower",.val<|.int lo),("upper",.val<|.int b),("shift",.val<|.int a),("mid",.val<|.int c),("x",.val<|.int d),("L",.val<|.int i),("R",.val<|.int h),("n",.val<|.int y),("a_digits",.own q)]
def IV(m i h y:Int)(q:List aa):fW d8 9 gT (nY m i h y q).plus (a3<|cQ 0)=I (i+1==h):=z
def Zs(m i h y:Int)(q:List aa):bc d8 9 gT (nY m i h y q).plus (a3 oQ)=I (.int m):=z
def Zt(m i h y:Int)(q:List aa):bc d8 9 gT (nY m i h y q).plus (tZ oQ)=I (.int i):=z
def R0:cQ 1=.Assign [.Name "mid"<|gk<|fo<|cQ 1] (a3<|cQ 1) (eu<|cQ 1):=z
def R1:cQ 2=.Assign [.Name "shift"<|gk<|fo<|cQ 2] (a3<|cQ 2) (eu<|cQ 2):=z
def R2:cQ 3=.Assign [.Name "upper"<|gk<|fo<|cQ 3] (a3<|cQ 3) (eu<|cQ 3):=z
def R3:cQ 4=.Assign [.Name "lower"<|gk<|fo<|cQ 4] (a3<|cQ 4) (eu<|cQ 4):=z
def la(a i h y c:Int)(q:List aa):aG:=(nY a i h y q).vals [("mid",.int c)]
def mU(b i h y c a:Int)(q:List aa):aG:=(la b i h y c q).vals [("shift",.int a)]
def tS(d i h y c a b:Int)(q:List aa):aG:=(mU d i h y c a q).vals [("upper",.int b)]
def adq(d i h y c a b lo:Int)(q:List aa):(tS d i h y c a b q).vals [("lower",.int lo)]=Ar d i h y c a b lo q:=z
def Vr(m i h y:Int)(q:List aa):bc d8 9 gT (nY m i h y q).plus (a3<|cQ 1)=bu .RShift (.int<|i+h) (.int 1):=z
def Vs(a i h y c:Int)(q:List aa):bc d8 9 gT (la a i h y c q).plus (a3<|cQ 2)=bu .Mult (.int<|c -i) (.int y):=z
def Vt(b i h y c a:Int)(q:List aa):bc d8 9 gT (mU b i h y c a q).plus (a3<|cQ 3)=bu .RShift (.int b) (.int a):=z
def Vu(e i h y c a b:Int)(q:List aa):bc d8 9 gT (tS e i h y c a b q).plus (a3<|cQ 4)=(bu .LShift (.int b)<|.int a).bind λd=>bu .BitXor (.int e) d:=z
def RT(d i h y c a b lo:Int)(q:List aa):fv d8 9 gT (Ar d i h y c a b lo q).plus (jJ<|f3<|cQ 5)=I [.int lo,.int i,.int c]:=z
def RU(d i h y c a b lo:Int)(q j:List aa):fv d8 9 gT ((Ar d i h y c a b lo q).set "a_digits"<|.own j).plus (jJ<|f3<|cQ 6)=I [.int b,.int c,.int h]:=z
def SA(b y k a:aq)(m:List (ar×aE))(g h n:aq):Bp (fnX "inner" "_int2digits.<locals>.inner" (kX hr) (bw hr) (bY hr) m .none .none b y ag k a) ⟨[g,h,n],[]⟩=bg ([bp "x",bp "L",bp "R"].zip [g,h,n]):=z
def aaR:yX (bY hr) ["x","L","R"] ["n","inner","a_digits"]=ab:=z
def abt:gT.own.all (λm=>!(m==("inner":ar))&&!(m==("a_digits":ar)))=ab:=z
def C0:(bY hr).names.lookup (bp "n")=I kN/\(bY hr).names.lookup (bp "inner")=I kN/\(bY hr).names.lookup (bp "a_digits")=I kN:=by refine⟨?_,?_,?_⟩<;>kernel_rfl
def ac5(m k:Nat):bu .RShift (.int (m:Nat)) (.int (k:Nat))=I (.int ((m/2^k:Nat):Int)):=by have:=Nj m k;show(if decide ((0:Int)<=(k:Nat))then I (aa.int _)else ag)=_;rw[if_pos (by simp),this]
def afg(m k:Nat):bu .BitXor (.int (m:Nat)) (.int ((m/2^k*2^k:Nat):Int))=I (.int ((m%2^k:Nat):Int)):=congrArg (λy=>I<|aa.int y)<|afh m k
structure u7(h:Heap)(f ca ci ox:Addr)(n:Nat)(nJ:Addr):Prop where
 made:lD h f "inner" "_int2digits.<locals>.inner" (kX hr) (bw hr) (bY hr) [("n",ox),("inner",ci),("a_digits",ca)]
 d:h.IsCell ca (some<|.ref nJ)
 i:h.IsCell ci (some<|.ref f)
 n:∃t,h.IsCell ox<|some<|.int (n:Nat) t
 ne:ox≠ci/\ox≠ca/\ci≠ca
theorem u7.kept{q:Nat}(l:u7 b s a c p q j)(r:e3 g b)(m:gB b y):u7 y s a c p q j:=⟨l.made.kept r m,sR r l.d m,sR r l.i m,l.n.imp λk A=>sR r A m,l.ne⟩
def mv.ac8(x:mv C g as an ap ac al i am a2 f)(J:dG (σ.map (·.1))=ab) (W:∀F d,σ.lookup F=I (.val d)->atom d=ab/\∃R,bH C f.heap g.env F R/\Rz g.X f.heap R d) (q:∀F G,σ.lookup F=I (.own G)->F=Ob/\G=h) (Q:bH C f.heap g.env Ob (.ref nJ)) (E:f.heap.get? nJ=I ⟨.type "list",ag,.seq ⟨w⟩ a1,#[]⟩) (O:RzL g.X f.heap w h) (H:h.all atom=ab) (M:¬g.X nJ) (aa:¬C.P nJ):aX C g (aZ.loc ac) σ [nJ] f:=by have k:=x.good.aT;have B:=x.ok.loc;refine⟨⟨x.good.handled,x.good.depth,x.good.units,x.good.guards,λp j=>?_,λp r=>.inl<|k p r,x.good.ok,x.good.tok⟩,⟨x.ok.sc,x.ok.glob,x.ok.blt,λp r=>.inl<|k p r,x.ok.own,x.ok.cells,λF af D=>?_,⟨B.kind,B.ns,B.cell,B.apart,B.e1,λp j=>.inl<|B.bJ p j,B.hI,B.jt,λK p D=>⟨(B.dx K p D).1,(B.dx K p D).2.1,.inl (B.dx K p D).2.2⟩,B.pin⟩⟩,J,λp j=>?_,λF G D=>?_,λF ah G Y p S T ad ad=>?_,k,B.bJ,λK p D=>(B.dx K p D).2.2⟩;rcases(j:g.X p\/p∈[nJ])with j|j;exact x.good.cA p j;rw[cm]at j;subst j;exact⟨_,E,λr=>absurd (k p r) M⟩;have D:=(fB J).mp D;obtain⟨ae,R,U,V⟩:=W _ _ D;exact⟨R,U,V.atom ae⟩;rw[cm]at j;subst j;exact⟨M,aa,_,_,E⟩;obtain⟨rfl,rfl⟩:=q F G D;exact⟨nJ,cm.mpr rfl,Q,_,_,E,O.atoms H⟩;rw[(q F G S).1,(q ah Y T).1]
def MO(w:RzL c j x [.int i,.int p,.int d]):∃e f k,x=[.int i e,.int p f,.int d k]:=w.Dl.elim λe w=>w.elim λg w=>(Fm w.2).elim λf q=>q.elim λk q=>⟨e,f,k,w.1.trans (congrArg (_::·) q)⟩
def N3(H:bh C b.X b.A b.fuel l)(G:bH C l.heap b.env m (.ref e))(ae:(m==("__debug__":ar))=au)(F:∀J,ak C l J->∃k,(k=uH\/k=uI)/\uK (aK C.prog C.w) J.heap (qO<|.ref e) k)(B:e9 C b i l d)(y:∀D J,ak C l J->RzL b.X J.heap D d->aB (aK C.prog C.w) b.A (e8 (.ref e) D []) h n J)(q:cn (.Call (.Name m j) i [] r) b.env=(cn (.Name m j) b.env>>=λt=>ic r t [] (j1 r<|ha i b.env)<|oa r<|ob [] b.env)):aB (aK C.prog C.w) b.A (cn (.Call (.Name m j) i [] r) b.env) h n l:=by rw[q];refine av<|BE (bH.load G ?_) ae;exact I_ (B r).2 (B r).1 (ak.refl l) H F y
def mv.LF(B:mv C g f r t h d a x l n)(H:k.Y=g.Y)(D:b2 C k [j] m n J):dF C [j] l J:=by have q:cu C k m l J:=B.ext.bx.trans D.bx;refine⟨q.same,λp K G i I=>?_,q.tabs,q.ok,q.toks⟩;have E:=B.ext.keep p K G i;refine D.bx.keep p K E i (λL=>?_) λM=>?_;rw[H]at L;rw[B.rY p L]at G;cases G;rcases D.new p M with F|F;exact I F;rw[E]at F;cases F
def dF.kept(h:dF (az n) [j] l J)(f:l.heap.get? j=I ⟨.type "list",ag,.seq ⟨a⟩ c,#[]⟩):gB l.heap J.heap:=λp d g i t=>h.keep p d g i λq=>by rw[cm]at q;subst q;rw[f]at g;cases g;exact t _ _ rfl
def zd(e:a.all atom=ab):(kh y m i b a).all atom=ab:=by rw[bZ]at e ⊢;intro d c;obtain⟨f,p,rfl⟩:=List.getElem_of_mem c;unfold kh at p ⊢;rw[List.getElem_mapIdx];split;rfl;exact e _<|xt _
def Ye(j:i<y)(q:y<=10000):zx (.int (i:Nat)) y=I i:=by show(if 0<=((i:Nat):Int)/\((i:Nat):Int).toNat<y/\y<=1000000 then I ((i:Nat):Int).toNat else ag)=_;rw[if_pos<|by refine⟨by exact iG _,by simpa using j,by exact aC o z⟩];simp
def aX.E4(ah:aX C g f σ d b)(q:σ.lookup y=I (.own l))(m:bH C b.heap g.env y (.ref j)):j∈d/\∃x p,b.heap.get? j=I ⟨.type "list",ag,.seq ⟨x⟩ p,#[]⟩/\RzL (g.grow d).X b.heap x l:=by obtain⟨i,A,h,x,p,k,t⟩:=ah.own y l q;have:=h.same m;cases this;exact⟨A,x,p,k,t⟩
set_option maxHeartbeats 4000000 in
def Ya(M:a4)(cR:1<=G)(aY:G<=10000):∀k O D h:Nat,∀F:List aa,h=D+k+1->h<=F.length->F.length<=10000->F.all atom=ab->O<2^(G*(h -D))->∀(bv:aE->Prop)(cV:dI)(ch:ax)(cs dK bn:iL)(ce:List aq)(cK:Nat),bh (az M) bv cV (k+1) ch->(bv bd/\bv be/\bv bi)->¬bv H->¬(az M).P H->u7 ch.heap cr bd be bi G H->ch.heap.get? H=I ⟨.type "list",ag,.seq ⟨ce⟩ cK,#[]⟩->RzL bv ch.heap ce F->∀(bs:aq->ax->Prop)(co:aq->ax->Prop),(∀J ap ba,dF (az M) [H] ch J->J.heap.get? H=I ⟨.type "list",ag,.seq ⟨ap⟩ ba,#[]⟩->RzL bv J.heap ap (kh G O D h F)->bs .none J)->aB (aK cy M) cV (e8 (.ref cr) [.int (O:Nat) cs,.int (D:Nat) dK,.int (h:Nat) bn] []) bs co ch:=by
 intro k;induction k using agf with
 |ind k ck=>
 intro O D h F cO cG a_ aj ae bv cV ch cs dK bn ce cK a6 as a3 a5 av ao bW bs co q;obtain⟨bu,cq,b7,bt,cc,cW,cI,cT,b',cM,cb,b5⟩:=av.made.obj;obtain⟨db,aw⟩:=av.n;refine BF ?_;refine Jf (C:=az M) (N:=k) (params:=["x","L","R"]) (fd:=fnX "inner" "_int2digits.<locals>.inner" (kX hr) (bw hr) (bY hr) [("n",bi),("inner",be),("a_digits",bd)] .none .none bu cq ag (.ref b7) bt) cc rfl rfl ⟨_,_,_,_,rfl,b',cb,b5⟩ (D5 a6.ok) aaR (SA _ _ _ _ _ _ _ _) rfl rfl rfl ?_ ?_ a6 λam K U cJ=>?_;exact Hw av.ne.1 av.ne.2.1 av.ne.2.2;exact hE ⟨q5 a6.ok aw,as.2.2,_,aw⟩<|hE ⟨q5 a6.ok av.i,as.2.1,_,av.i⟩<|hE ⟨q5 a6.ok av.d,as.1,_,av.d⟩ wg;have aF:¬am.X H:=by rw[U.xs];exactλq=>q.elim a3 λai=>by rw[U.rY H ai]at ao;cases ao
 have bb:¬(az M).T H:=λcs=>a3<|a6.aT H cs;have cF:bH (az M) K.heap am.env "x" (.int (O:Nat) cs):=U.vars _ _ rfl;have cA:bH (az M) K.heap am.env "L" (.int (D:Nat) dK):=U.vars _ _ rfl;have cC:bH (az M) K.heap am.env "R" (.int (h:Nat) bn):=U.vars _ _ rfl;have cE:bH (az M) K.heap am.env "n" (.int (G:Nat) db):=U.free _ bi _ C0.1 rfl aw;have cD:bH (az M) K.heap am.env "inner" (.ref cr):=U.free _ be _ C0.2.1 rfl av.i;have b4:bH (az M) K.heap am.env "a_digits" (.ref H):=U.free _ bd _ C0.2.2 rfl av.d;have ah:=U.ac8 (σ:=nY (O:Nat) (D:Nat) (h:Nat) (G:Nat) F) (Ob:="a_digits") (nJ:=H) z (λai d aM=>hE (P:=λai bo=>∀d,bo=.val d->atom d=ab/\∃bn,bH (az M) K.heap am.env ai bn/\Rz am.X K.heap bn d) (λaJ q=>by cases q;exact⟨rfl,_,cF,.int _ _⟩) (hE (λaJ q=>by cases q;exact⟨rfl,_,cA,.int _ _⟩)<|hE (λaJ q=>by cases q;exact⟨rfl,_,cC,.int _ _⟩)<|hE (λaJ q=>by cases q;exact⟨rfl,_,cE,.int _ _⟩)<|hE (λaJ q=>by cases q) wg) ai _ aM d rfl)
  (λai b6 aM=>hE (P:=λai bo=>∀b6,bo=.own b6->ai="a_digits"/\b6=F) (λaJ q=>by cases q) (hE (λaJ q=>by cases q)<|hE (λaJ q=>by cases q)<|hE (λaJ q=>by cases q)<|hE (λaJ q=>by cases q;exact⟨rfl,rfl⟩) wg) ai _ aM b6 rfl) b4 (U.ext.keep _ _ ao bb) (bW.atoms aj) aj aF a5
 have S:=ah.E' (p:=λai=>if ai==("inner":ar)then I (.ref cr)else if ai==("a_digits":ar)then I (.ref H)else ag) (Af:=gT.own) (λai bn aM=>by
  split at aM;rename_i an;cases aM;rw[bL an];exact cD;split at aM;rename_i an;cases aM;rw[bL an];exact b4;cases aM) λai an=>⟨an,by
  rw[hL]at an;have:=bZ.mp abt ai<|of_decide_eq_true an;simp only[c0,ez]at this;simp only[this.1,this.2,g7,if_false]⟩
 obtain⟨r,a8,cf,aR,aS,bJ,a',af,S⟩:∃r:bX,r.env=am.env/\r.A=am.A/\r.X=am.X/\r.Y=am.Y/\r.fuel=am.fuel/\r.pin "inner"=I (.ref cr)/\r.pin "a_digits"=I (.ref H)/\aX (az M) r gT (nY (O:Nat) (D:Nat) (h:Nat) (G:Nat) F) [H] K:=⟨{am with pin:=λai=>if ai==("inner":ar)then I (.ref cr)else if ai==("a_digits":ar)then I (.ref H)else ag},rfl,rfl,rfl,rfl,rfl,rfl,rfl,S⟩;rw[<-a8,<-cf,SM];have aQ:∀(aW:aG)(al:List aE)(J:ax),aX (az M) r gT aW al J->b2 (az M) r [H] al K J->aW.lookup (bp "a_digits")=I (kS.own<|kh G O D h F)->bs .none J:=by intro aW al J W aN aP;obtain⟨bP,ap,ba,b9,ct⟩:=W.E4 aP<|W.ok.loc.pin _ _ af;exact q J ap ba (U.LF aS aN) b9<|ct.atoms<|zd aj
 by_cases V:D+1=h;refine d6 ?_;rw[K2];refine uR<|(de (eX M 0) 9).jM gT _ _ ab r K S.borrow (dV _) ((IV _ _ _ _ _).trans<|y8<|decide_eq_true V) K (ak.refl K) S.cB _ _ λb8 bq=>?_;rw[if_pos rfl];refine d6 ?_;rw[Ze];refine Nr (n:=9) (j:=D) (eX M 0) (dV _) (l:=F) z (Zs _ _ _ _ _) (Zt _ _ _ _ _) (Ye (aC (cL o) o) a_) rfl [H] b8 (S.ext bq) _ _ λB7 cP bj bC=>?_;refine d6<|ahM ?_;refine aQ _ _ _ bj ((b2.ext bq).trans (S.ext bq) bC) ?_;rw[k_];rw[show h=D+1 by exact F6 o,<-We (by rw[<-V,show G*(D+1 -D)=G by rw[OY,agd]]at ae;exact ae)];rfl;obtain⟨B,bN⟩:∃cK,cK=(D+h)/2:=⟨_,rfl⟩;obtain⟨cm,cp,bR,bS,hF⟩:=yk o V bN;have aU:D<B:=bR▸jw (b_ ..);have aV:B<h:=bS▸jw (b_ ..);have bO:G*(h -B)+(B -D)*G=G*(h -D):=by rw[qG (B -D) G,<-xA,Gy (c2 aV)<|c2 aU]
 have cj:G*(h -D)<=10000*10000:=xB aY<|aC (qH _ _)<|aC o o;have a0:O/2^((B -D)*G)<2^(G*(h -B)):=by rw[Nat.div_lt_iff_lt_mul<|Gw z,<-Gv,bO];exact ae
 have bM:O%2^((B -D)*G)<2^(G*(B -D)):=by rw[qG G];exact h' _<|Gw z
 have cu:bV (az M) r gT (c3 (cQ 0) r.env) (nY (O:Nat) (D:Nat) (h:Nat) (G:Nat) F) (.next<|nY (O:Nat) (D:Nat) (h:Nat) (G:Nat) F):=by rw[K2];exact tV (n:=9) (eX M 0) (dV _) (k:=au) ((IV _ _ _ _ _).trans<|y8<|decide_eq_false V) (λq=>by cases q) λaJ=>bV.nil
 have cw:bV (az M) r gT (c3 (cQ 1) r.env) (nY (O:Nat) (D:Nat) (h:Nat) (G:Nat) F) (.next<|la (O:Nat) (D:Nat) (h:Nat) (G:Nat) (B:Nat) F):=by rw[R0];exact tT (n:=9) (d:=.int (B:Nat)) (eX M 0) (dV _) ((Vr _ _ _ _ _).trans<|by rw[MV,bN]) z z
 have cx:bV (az M) r gT (c3 (cQ 2) r.env) (la (O:Nat) (D:Nat) (h:Nat) (G:Nat) (B:Nat) F) (.next<|mU (O:Nat) (D:Nat) (h:Nat) (G:Nat) (B:Nat) (((B -D)*G:Nat):Int) F):=by rw[R1];exact tT (n:=9) (d:=.int (((B -D)*G:Nat):Int)) (eX M 0) (dV _) ((Vs _ _ _ _ _ _).trans<|by rw[<-zZ (zP<|aC (qH B D)<|aC (c2 aV)<|aC ‹h<=_› o) (zP aY),AW<|c2 aU]) z z
 have bc:bV (az M) r gT (c3 (cQ 3) r.env) (mU (O:Nat) (D:Nat) (h:Nat) (G:Nat) (B:Nat) (((B -D)*G:Nat):Int) F) (.next<|tS (O:Nat) (D:Nat) (h:Nat) (G:Nat) (B:Nat) (((B -D)*G:Nat):Int) ((O/2^((B -D)*G):Nat):Int) F):=by rw[R2];exact tT (n:=9) (d:=.int ((O/2^((B -D)*G):Nat):Int)) (eX M 0) (dV _) ((Vt _ _ _ _ _ _ _).trans<|ac5 _ _) z z
 have cz:bV (az M) r gT (c3 (cQ 4) r.env) (tS (O:Nat) (D:Nat) (h:Nat) (G:Nat) (B:Nat) (((B -D)*G:Nat):Int) ((O/2^((B -D)*G):Nat):Int) F) (.next<|Ar (O:Nat) (D:Nat) (h:Nat) (G:Nat) (B:Nat) (((B -D)*G:Nat):Int) ((O/2^((B -D)*G):Nat):Int) ((O%2^((B -D)*G):Nat):Int) F):=by rw[R3,<-adq];refine tT (n:=9) (d:=.int ((O%2^((B -D)*G):Nat):Int)) (eX M 0) (dV _) ((Vu _ _ _ _ _ _ _ _).trans ?_) z z;rw[Nh (j:=G*(h -B)) a0<|aC (cL o)<|aC o z];exact afg _ _
 refine d6<|cu [H] K S _ _ λB6 qV aH bA=>?_;refine s6<|bV.cons cw (bV.cons cx<|bV.cons bc<|bV.cons cz bV.nil) B6 qV aH _ _ λvo b8 bf a7=>?_;have bB:=bA.trans aH a7;have cN:r.fuel=k:=bJ.trans U.fuel;have aL:r.X bd/\r.X be/\r.X bi:=by rw[aR,U.xs];exact⟨.inl as.1,.inl as.2.1,.inl as.2.2⟩
 have a9:¬r.X H:=rwL aR aF;have aA:lx r.env=au:=by unfold lx;rw[show r.env.scope.kind=.function from S.ok.loc.kind];rfl
 have e8:∀(a1:Nat)(aW:aG)(ac:List aa)(a2 cl cd:Nat)(bm:Nat)(al:List aE)(J:ax),bm<k->cd=cl+bm+1->cd<=F.length->ac.length=F.length->ac.all atom=ab->a2<2^(G*(cd -cl))->
   aX (az M) r gT aW al J->b2 (az M) r [H] al K J->aW.lookup (bp "a_digits")=I (kS.own ac)->fv d8 9 gT aW.plus (jJ<|f3<|cQ a1)=I [.int (a2:Nat),.int (cl:Nat),.int (cd:Nat)]->
   cn (vC a1) r.env=(cn (.Name "inner"<|sP<|f3<|cQ a1) r.env>>=λbn=>ic (jI<|f3<|cQ a1) bn [] (j1 (jI<|f3<|cQ a1)<|ha (jJ<|f3<|cQ a1) r.env)<|oa (jI<|f3<|cQ a1)<|ob [] r.env)->
   ∀(bs:mq->ax->Prop)(co:aq->ax->Prop),(∀cX,aX (az M) r gT (aW.set "a_digits"<|.own<|kh G a2 cl cd ac) al cX->b2 (az M) r [H] al K cX->bs .next cX)->(aZ:ja (vC a1) ag (p2<|cQ a1).line r.env=bg au)->
   aB (aK cy M) r.A (c3 (.Expr (vC a1)<|p2<|cQ a1) r.env) bs co J:=by
  intro a1 aW ac a2 cl cd bm al J bK cg bG bI ay bQ W aN aP aO aD bs co q aZ
  have br:=av.kept a6.ok<|(U.LF aS aN).kept ao
  refine wpAny_Expr ?_ aA aZ
  refine N3 W.cB (W.ok.loc.pin _ _ a') z (λcP aI=>(br.kept W.good.ok<|gB.jR aI).made.zF) ((de (eX M 0) 9).jN _ _ _ _ r J W.borrow (dV _) aO) (λcU cP aI b0=>?_) aD
  obtain⟨b3,cv,e_,rfl⟩:=MO b0
  have ad:=W.ext aI
  obtain⟨bP,p',hF,bx,bc⟩:=ad.E4 aP<|ad.ok.loc.pin _ _ af
  refine ck bm bK a2 cl cd ac cg (aC bG<|cL bI.symm) (aC (cL o) o) ay bQ r.X r.A cP b3 cv e_ p' hF (ad.cB.fuel<|af' o<|F6 o) aL a9 a5 (br.kept W.good.ok<|gB.jR aI) bx (bc.atoms ay) _ _ λgS cH gO bT bz bU=>?_
  obtain⟨b1,bD⟩:=ad.update aP (ad.ok.loc.pin _ _ af) bP bT bz<|bU.atoms<|zd ay
  exact q gS b1<|(aN.trans W<|b2.ext aI).trans ad bD
 refine d6 ?_;rw[VO];refine e8 5 _ F (O%2^((B -D)*G)) D B cm vo b8 (hF▸jw (b_ ..)) bR (aC (c2 o) o) rfl aj bM bf bB z (RT _ _ _ _ _ _ _ _ _) z _ _ (λj8 bk bE=>?_) z;refine d6 ?_;rw[VP];refine e8 6 _ (kh G (O%2^((B -D)*G)) D B F) (O/2^((B -D)*G)) B h cp vo j8 (hF▸jw (dU ..)) bS (by assumption) Wd (zd aj) a0 bk bE (by rw[k_];rfl) (RU _ _ _ _ _ _ _ _ _ _) z _ _ (λcS bl bF=>?_) z;refine hc ?_;refine aQ _ _ _ bl bF ?_;rw[k_,Wf (c2 o)<|c2 o];rfl
def iQ(y:Nat):aF:=aJ (bw mS) y
def oz:ai:=a3<|iQ 0
def SN:bw mS=[.Assign [.Name "a_digits"<|gk<|fo<|iQ 0] oz<|eu<|iQ 0,.FunctionDef "inner" (kX hr) (bw hr) [] ag [] (bY hr) ag "inner" Fb,iQ 2,.Return (I<|a3<|iQ 3)<|eu<|iQ 3]:=z
def JJ:oz=.BinOp (ir oz) .Mult (nv oz) (jI oz):=z
def u5:ai:=f3<|aJ (c5<|iQ 2) 0
def X5:iQ 2=.If (a3<|iQ 2) [.Expr (.Call (.Name "inner"<|sP u5) (jJ u5) []<|jI u5)<|p2<|aJ (c5<|iQ 2) 0] [] (eu<|iQ 2):=z
def lF:aZ:=aZ.fn<|bY mS
noncomputable def wO(i y:Int):aG:=[("a",.val<|.int i),("n",.val<|.int y)]
noncomputable def o9(i y:Int)(q:List aa):aG:=[("a_digits",.own q),("a",.val<|.int i),("n",.val<|.int y)]
def acY(i y:Int)(q:List aa):(wO i y).set "a_digits" (.own q)=o9 i y q:=z
def acZ(i y:Int)(q j:List aa):(o9 i y q).set "a_digits" (.own j)=o9 i y j:=z
def Fd:bt mS=[bp "a",bp "n"]:=z
def VM(i y:Int):bc d8 9 lF (wO i y).plus (ir oz)=I (.list [.int 0]):=z
def VN(i y:Int):bc d8 9 lF (wO i y).plus (nv oz)=bu .FloorDiv (.int<|(eU i:Nat)+y -1) (.int y):=z
def IW(i y:Int)(q:List aa):fW d8 9 lF (o9 i y q).plus (a3<|iQ 2)=I (i !=0):=z
def acx(i y:Int)(q:List aa):bc d8 9 lF (o9 i y q).plus (a3<|iQ 3)=I (.list q):=z
def RV(i y:Int)(b:List aa)(j:b.length<=10000):fv d8 9 lF (o9 i y b).plus (jJ u5)=I [.int i,.int 0,.int b.length]:=by have f:fv d8 9 lF (o9 i y b).plus (jJ u5)=(I<|aa.int i).bind λd=>((I<|aa.int 0).bind λd=>((dj (iR [.list b]) ag).bind λd=>(I []).bind λw=>I<|d::w).bind λw=>I<|d::w).bind λw=>I (d::w):=z;rw[f];have:iR [.list b]=I (.int b.length):=if_pos (by simp only[h_];exact aC o z);rw[this];rfl
def oD(r:bR):Bh:=eM<|tE r
def T_(r:bR)(i:aE):xM (bY hr) (dJ (oD r) i 108)=bg [(bp "n",i+1),(bp "inner",i+1+1+1),(bp "a_digits",i+1+1)]:=z
def Uo(r:bR)(i:aE):(dJ (oD r) i 108).code=.ref 107:=z
def acd(r:bR)(i:aE):PX (dJ (oD r) i 108) "inner" "inner"=bp "_int2digits.<locals>.inner":=z
def RF(q:kK):PH (kX hr) ag q=[]:=z
def TN(r:bR)(i:aE):(dJ (oD r) i 108).cells=[(bp "inner",i+1+1+1),(bp "a_digits",i+1+1),(bp "n",i+1)]:=z
def Y6(r:bR)(i:aE):(dJ (oD r) i 108).kindOf (bp "inner")=I ib/\(dJ (oD r) i 108).kindOf (bp "n")=I ib/\(dJ (oD r) i 108).kindOf (bp "a_digits")=I ib:=by refine⟨?_,?_,?_⟩<;>kernel_rfl
def R8(n:a4):∀j,e3 n j->j.get? 108=I (tE n.params):=λj r=>gF (a:=108) r z rfl (show(gD n.params).get 108=I (tE n.params)by kernel_rfl) z
def M_:hu (bY mS) (bt mS)=ab:=z
def abu:lF.own.contains (bp "inner")=ab:=z
def aa5:i1 lF "a_digits"=ab:=z
noncomputable def fS(y i:Nat):Nat:=(eU (i:Nat)+y -1)/y
def vK(y b:Nat):List Nat:=(bO<|fS y b).map λc=>b/2^(y*c)%2^y
def U9(j:1<=p)(c:p<=10000):bu .FloorDiv (.int (i:Nat)) (.int (p:Nat))=I (.int ((i/p:Nat):Int)):=by show(if(((p:Nat):Int)!=0)&&!pv (i:Nat) (p:Nat)then I (aa.int _)else ag)=_;rw[Hx<|cH c z,oW j,if_pos rfl,Ot _<|iG _,<-Ox]
def Wg:kh y b 0 c (fb c<|.int 0)=d2 ((bO c).map λe=>b/2^(y*e)%2^y):=by apply OF;intro f;unfold kh d2;rw[A1,m5,m5,List.getElem?_replicate];by_cases d:f<c;rw[afS d];simp[d];rw[if_neg d,A0<|by simpa using d];rfl
def J8(p:1<=n):a<2^(n*(fS n a -0)):=by refine du (LO a)<|ps z ?_;unfold fS;have:=Nat.div_add_mod (eU (a:Nat)+n -1) n;have q:=h' (eU (a:Nat)+n -1) (show n>0 by exact aC (dU _ _) o);rw[Nat.sub_zero];refine Nat.le_of_add_le_add_right (b:=n -1) ?_;rw[<-Nat.add_sub_assoc p (eU (a:Nat))];exact aC (cL this.symm)<|gy (Nat.le_sub_one_of_lt q) _
set_option tactic.hygienic true in
set_option maxHeartbeats 4000000 in
def Yd(p:a4)(R:1<=j)(ai:j<=10000)(as:fS j i<=1000)(bc:fS j i<=N):cM (az p) (.ref 108) [.int (i:Nat),.int (j:Nat)] (N+1) (.list<|d2<|vK j i):=by
 intro bO bN bu bL a7 aW bA bF q;refine ta (C:=az p) (JW p) M_ (by rw[aW.length,Fd];rfl) a7 λm M S aj=>?_;have ah:=S.sim M_ (by rw[Fd];rfl) a7 aW;rw[show cT (bt mS) [.int (i:Nat),.int (j:Nat)]=wO (i:Nat) (j:Nat)by rw[Fd];rfl]at ah;obtain⟨B,K⟩:=S.fd (R8 p) a7.ok;have ap:m.fuel=N:=S.fuel;rw[SN];have bo:bV (az p) m lF (c3 (.Assign [.Name "a_digits"<|gk<|fo<|iQ 0] oz<|eu<|iQ 0) m.env) (wO (i:Nat) (j:Nat)) (.next<|o9 (i:Nat) (j:Nat)<|fb (fS j i)<|.int 0):=by
  intro cd bu ah bA bF aF;rw[Bv _ _ _ _ _ (show ja oz _ _ m.env=bg au by rw[JJ];rfl)];refine av<|dc<|av ?_;rw[JJ,PI];refine av<|ah.ev (n:=9) (eX p 0) (dV _) (VM _ _) bu (ak.refl bu) ah.cB _ _ λbm M H aG=>av<|c6<|ah.ev (n:=9) (d:=.int (fS j i:Nat)) (eX p 0) (dV _) ((VN _ _).trans ?_) M H (ah.cB.ext H) _ _ λbJ aI P aH=>av<|dc<|qv ?_;rw[show(((eU (i:Nat):Nat):Int)+(j:Nat) -1)=((eU (i:Nat)+j -1:Nat):Int)from(AW<|aC R (dU ..)).symm];exact U9 R ai;refine Mf [.int 0] (fS j i:Nat) (hv.mpr as) (iG _) z m.X m.A m.fuel aI bm bJ ((ah.cB.ext H).ext P) ((ah.cB.ext H).mono P aG) aH _ _ λaD cP a5 hF O bk a8 aV=>?_;refine av<|dc<|av ?_;have bz:=(H.trans P).trans O;have bh:(fb (fS j i) [aa.int 0]).flatten=fb (fS j i) (.int 0):=by generalize fS j i=k;induction k with|zero=>rfl|succ k a1=>rw[xw,xw,AY,a1];rfl
  rw[n5,bh]at aV;have bl:RzL (m.grow cd).X cP.heap a5 (fb (fS j i)<|.int 0):=aV.atoms<|bZ.mpr λa2 ae=>afL ae▸rfl;refine ah.anew bz ((H.trans P).old ah.cB bk) a8 bl (by
   generalize fS j i=k;induction k with
   |zero=>rfl
   |succ k a1=>exact a1) aa5 λJ Y a'=>aY ?_
  rw[acY]at Y;exact aF _ J Y a'
 refine d6<|bo [] M ah _ _ λu1 fg ac aJ=>?_;refine d6 (Jy (D3 p) ac S.Oc (by rw[K];exact T_ p.params B) (by rw[K];exact Uo p.params B) (by rw[K];exact acd p.params B) abu z z z (RF _) λa_ b8 G aL bj bx=>?_);have T:b2 (az p) m [] u1 M b8:=aJ.trans ac aL;have ret:∀(am:List aE)(J:ax),aX (az p) m lF (o9 (i:Nat) (j:Nat)<|d2<|vK j i) am J->b2 (az p) m [] am M J->∀aj,aB (aK cy p) m.A (dm [.Return (I<|a3<|iQ 3)<|eu<|iQ 3] m.env) (λa_ J=>bA (match a_ with|.ret bm=>bm|Z=>.none) J) aj J:=by intro am J a0 ba aj;refine d6<|Fw (n:=9) (eX p 0) (dV _) (acx _ _ _) am J a0 _ _ λbm B7 cP U bG br=>?_;obtain⟨a2,bl⟩:=S.leave a7 (ba.trans a0 U) br;exact q bm cP a2 bl
 have F:lx m.env=au:=by unfold lx;rw[show m.env.scope.kind=.function from ah.ok.loc.kind];rfl
 refine d6 ?_;rw[X5];by_cases aN:i=0;subst aN;have bb:fS j 0=0:=by unfold fS;rw[show eU ((0:Nat):Int)=0 by rfl];exact af7 (by rw[g9];exact agg R z)
 have bf:d2 (vK j 0)=fb (fS j 0) (.int 0):=by unfold vK;rw[bb];rfl
 refine uR ((de (eX p 0) 9).jM lF _ _ au m b8 G.borrow (dV _) ((IW _ _ _).trans<|by simp) b8 (ak.refl b8) G.cB _ _ λcP O=>?_);rw[if_neg z];refine hc ?_;exact ret u1 cP (by rw[bf];exact G.ext O) (T.trans G<|b2.ext O) _;refine uR ((de (eX p 0) 9).jM lF _ _ ab m b8 G.borrow (dV _) ((IW _ _ _).trans<|by simpa using aN) b8 (ak.refl b8) G.cB _ _ λcP O=>?_);rw[if_pos rfl];have e:=G.ext O;have U:=T.trans G<|b2.ext O;obtain⟨aD,V,al,bH,bI,bB,bE⟩:=e.own "a_digits" (fb (fS j i)<|.int 0) z;obtain⟨aq,ar,Z⟩:=e.lists aD V;obtain⟨bK,a6,aZ⟩:=e.ok.names "n" (.int (j:Nat)) z;cases aZ;rename_i bw;have bn:=bx.ext O;have ay:=Y6 p.params B;have aA:∀a2,m.env.kindOf a2=(dJ (oD p.params) B 108).kindOf a2:=λa2=>by rw[K];rfl
 have aw:m.env.cells=(dJ (oD p.params) B 108).cells:=by rw[K];rfl
 have ao:=TN p.params B;have aR:m.env.cells.lookup (bp "a_digits")=I (B+1+1):=by rw[aw,ao];rfl
 have aS:m.env.cells.lookup (bp "inner")=I (B+1+1+1):=by rw[aw,ao];rfl
 have aT:m.env.cells.lookup (bp "n")=I (B+1):=by rw[aw,ao];rfl
 have aO:=t7 (env:=m.env) al (by rw[aA];exact ay.2.2) aR;have aP:=t7 (env:=m.env) bn (by rw[aA];exact ay.1) aS;have aQ:=t7 (env:=m.env) a6 (by rw[aA];exact ay.2.1) aT;have bd:u7 cP.heap a_ (B+1+1) (B+1+1+1) (B+1) j aD:=⟨bj.kept G.good.ok<|gB.jR O,aO,aP,⟨bw,aQ⟩,fs<|r4 (e5 _)<|e5 _,fs<|e5 _,i_<|e5 _⟩;have af:m.X (B+1+1)/\m.X (B+1+1+1)/\m.X (B+1):=⟨e.cI _ _ aR,e.cI _ _ aS,e.cI _ _ aT⟩;have ag:0<fS j i:=by have:=J8 (n:=j) (a:=i) R;rcases Nat.eq_zero_or_pos (fS j i)with bs|bs;rw[bs]at this;simp at this;exact absurd o ‹¬_›;exact bs
 refine d6 (wpAny_Expr (N3 e.cB bn z (λgS b=>(bd.kept e.good.ok<|gB.jR b).made.zF) ((de (eX p 0) 9).jN _ _ _ _ m cP e.borrow (dV _)<|RV _ _ _ (by rw[Gh];exact aC as z)) (λca gS b an=>?_) z) F z);rw[Gh]at an;obtain⟨b3,cv,e_,rfl⟩:=MO an;have t:=e.ext b;obtain⟨Z,be,bi,b5,bv⟩:=t.E4 (y:="a_digits") (l:=fb (fS j i)<|.int 0) z<|al.ext b;have D:(fb (fS j i)<|aa.int 0).all atom=ab:=bZ.mpr λa2 ae=>afL ae▸rfl;refine Ya p R ai (fS j i -1) i 0 (fS j i) (fb (fS j i)<|.int 0) (by rw[g9];exact(n9 ag).symm) (by rw[Gh];exact bM _) (by rw[Gh];exact aC as z) D (J8 R) m.X m.A gS b3 cv e_ be bi (t.cB.fuel (by rw[n9 ag,ap];exact bc)) af aq ar (bd.kept e.good.ok<|gB.jR b) b5 (bv.atoms D) _ _ λj8 bC bD aU a9 bq=>?_;obtain⟨ad,aM⟩:=t.update (x:="a_digits") (l:=fb (fS j i)<|.int 0) z (al.ext b) V aU a9<|bq.atoms<|zd D;rw[acZ,Wg]at ad;refine hc ?_;exact ret u1 j8 ad ((U.trans e<|b2.ext b).trans t aM) _
section
variable{C:bC}{N:Nat}
noncomputable def Fx(m:ar)(lo g st:Option Int):ar:=
 let s:=aie lo g (st.getD 1) m.length
 if(st.getD 1==1&&s.length==m.length)=ab then m else⟨(s.filterMap (m.cps[·]?)).toArray⟩
def l6(a k j r:aa):Option aa:=match a with|.str m=>(oZ k).bind λlo=>(oZ j).bind λg=>(oZ r).bind λst=>if !(st.getD 1==0)&&bG (Fx m lo g st).length 1000000 then I (.str<|Fx m lo g st)else ag|a=>o_ a k j r
def E_{ao:cc}(i:oZ f=I k)(w:Rz c ao t f):∃s:Option (Int×iL),t=partValue s/\s.map (·.1)=k:=by have q:=Mr i w;cases(q);exact⟨ag,rfl,rfl⟩;exact⟨I (_,_),rfl,rfl⟩
set_option tactic.hygienic true in
def Nm:∀i J H N d,l6 i J H N=I d->wL i=ab/\yx C i J H N d:=by
 intro i J H N d y;cases i<;>try exact Fu _ _ _ _ _ y
 rename_i ae;refine bK y λlo b y=>bK y λR B y=>bK y λst F y=>?_;obtain⟨w,rfl⟩:=cj y;have j:=d0 (aM w).2;have c:(st.getD 1==0)=au:=by simpa using(aM w).1
 refine⟨rfl,λZ W ac O ad S e V U aa T D L K M P Y q=>?_⟩;cases T;obtain⟨cE,rfl,f⟩:=E_ b L;obtain⟨m,rfl,G⟩:=E_ B K;obtain⟨p,rfl,k⟩:=E_ F M;refine wpAny_getItem_str_slice (l:=cE) (u:=m) (st:=p) ⟨_,D,rfl,rfl⟩ (by rw[k];exact c) ?_;unfold sliceMade slicePicked;rw[f,G,k];show Made.post _ P O;unfold Fx at q j;split;rename_i w;simp only[w,if_true]at q;exact q _ _ (ak.refl O)<|.str _ _;rename_i w;simp only[w]at q j;exact⟨aC j (by rw[gw];decide),q _ _ ak.tok<|.str _ _⟩
def adT:∀k:List (ar×iL),RzL X h (Hc k) (k.map λs=>.str s.1):=by
 intro k;induction k with
 |nil=>
  exact .nil
 |cons s w c=>
  exact .cons (.str _ _)<|c
noncomputable def Np(m b:ar):Nat:=(agu m (uC m b 0 m.length<|m.length+1) b.length).length
def tR(m b:ar):Option aa:=if !(b.length==0)&&bG (Np m b) 1000000&&bG m.length 1000000 then I (.list<|(PD m b).map .str)else ag
set_option tactic.hygienic true in
def TF(j:tR m b=I d):cM C (.builtin "str.split") [.str m,.str b] N d:=by
 obtain⟨w,rfl⟩:=cj j;have i:(b.length==0)=au:=by simpa using(aM (aM w).1).1
 have n:Np m b<=pC:=aC (d0 (aM (aM w).1).2) (by rw[gw];decide);have J:m.length<=pC:=aC (d0 (aM w).2) (by rw[gw];decide);intro c r H T R D O f q;cases D;rename_i L D;cases D with
 |cons M D=>
 cases D;cases L;cases M;have t:∀(a:List (ar×iL))(k:Nat),H.toks<=k->a.map (·.1)=PD m b->O (.ref H.heap.objs.size) {H with toks:=k,heap:=H.heap.push {cls:=.type "list",data:=.seq (Hc a).toArray}}:=λa k K P=>by refine q _ _ (ak.push (ey:=k) K)<|.list R.fresh (dE _ rfl) ?_;have:=adT (X:=c) (h:=H.heap.push {cls:=.type "list",data:=.seq (Hc a).toArray}) a;rwa [show(a.map λS=>aa.str S.1)=(PD m b).map .str by rw[<-P,m7];rfl]at this
 cases B:(decide (m.length<b.length)||decide (agv m<agv b));cases G:(uC m b 0 m.length<|m.length+1).isEmpty;refine sh GH (sm _ _ _) Pp (Pl _ _) (meets_str_split_sep m b _ _ B i G J n) ?_;show wants O f _ {H with toks:=_,heap:=H.heap.push {cls:=.type "list",data:=.seq (strsFrom H.toks<|agu m (uC m b 0 m.length<|m.length+1) b.length).toArray}};rw[strsFrom_eq];exact t (PySem.numbered H.toks _) _ (b_ _ _)<|(PySem.numbered_texts _ _).trans ((if_neg<|ne_true_of_eq_false B).trans<|if_neg<|ne_true_of_eq_false G).symm;exact sh GH (sm _ _ _) Pp (Pl _ _) (meets_str_split_not_found m b _ _ B i G)<|t [(m,_)] _ (bM _) ((if_neg<|ne_true_of_eq_false B).trans<|if_pos G).symm;exact sh GH (sm _ _ _) Pp (Pl _ _) (meets_str_split_cannot_occur m b _ _ B)<|t [(m,_)] _ (bM _) (if_pos B).symm
def aag(j:tR m a=I d):lA C (.str m) "split" [.str a] N d:=wm (T:="str") (id:="str.split") (λc l t w=>by cases w;exact⟨sm _ _ _,λp f=>by cases f⟩) Be GH PySem.F.type_str_split<|TF j
noncomputable def I4:List aa->Option aa|[.bool p]=>I (.str<|if p then "True"else "False")|_=>ag
set_option tactic.hygienic true in
def TG:cM C (.type "str") [.bool p] N (.str<|if p then "True"else "False"):=by intro c r l x e a h f q;cases a;rename_i w a;cases a;cases w;exact PySem.P.str_of_bool<|q _ _ ak.tok<|.str _ _
def f7(xs:List Int)(y:Nat):Int:=(xs[y]?).getD 0
def lY(xs:List Int):Int:=f7 xs<|fE (λy b=>decide (f7 xs y>f7 xs b))<|xs.length -1
def nO(xs:List Int):Int:=f7 xs<|fE (λy b=>decide (f7 xs y<f7 xs b))<|xs.length -1
def iq(s:List Int->Int)(k:List aa):Option aa:=(oe k).bind λxs=>if xs.isEmpty then ag else I (.int<|s xs)
def mC:List aa->Option aa|[.list k]=>iq lY k|[.tuple k]=>iq lY k|_=>ag
def q3:List aa->Option aa|[.list k]=>iq nO k|[.tuple k]=>iq nO k|_=>ag
def aaO(n:List (Int×iL))(y:Nat):numAt n.toArray y=f7 (n.map (·.1)) y:=by unfold numAt f7;rw[m6,m5]
def pI{n:List (Int×iL)}{y:Nat}(j:(jD n.toArray)[y]?=I a):∃r,a=.int (f7 (n.map (·.1)) y) r:=by rw[<-aaO];exact intItems_at j
def zB(n:List (Int×iL)):(n.map λs=>bE s.1 s.2).toArray=jD n.toArray:=by simp[jD]
def Ah{n:List (Int×iL)}{xs:List Int}(f:n.map (·.1)=xs)(j:xs.isEmpty=au):0<(jD n.toArray).size:=by subst f;simp only[jD,Array.size_map,Gl];cases n with|nil=>simp at j|cons i w=>exact r5 _
def zH{n:List (Int×iL)}{xs:List Int}(f:n.map (·.1)=xs):(jD n.toArray).size=xs.length:=by subst f;simp[jD]
def Lp{a:ax}{xs:Array aq}(y:a.heap.IsTuple k xs)(m:∀g:ax,g={a with heap:=a.heap.push {cls:=.type "tuple_iterator",data:=.fields #[.ref k,.int 0 0]}}->(g.heap.IsTupleIter a.heap.objs.size k 0/\g.heap.IsTuple k xs)->(∀p∈[a.heap.objs.size,k],p<g.heap.objs.size)->k≠a.heap.objs.size->c (.ref a.heap.objs.size) g):aB (aK d n) r (qP<|.ref k) c f a:=by
 have x:k<a.heap.objs.size:=by obtain⟨_,i,_⟩:=y;exact fe i
 refine Hk y<|m _ rfl ⟨⟨_,dE _ rfl,rfl,rfl⟩,y.push _⟩ (λp j=>?_)<|fs x;show p<(a.heap.push _).objs.size;rw[i'];rcases cJ.mp j with rfl|j;exact e5 _;rcases cJ.mp j with rfl|j;exact uu x;cases j
def tI{l:ax}{y:cc}(m:∀p w,p∉[l.heap.objs.size]->(l.heap.push d).get? p=I w->y.get? p=I w):∀p w,l.heap.get? p=I w->y.get? p=I w:=λp w f=>by refine m p w (λr=>?_)<|dS _ f;rcases cJ.mp r with a|r;exact absurd (a▸fe f)<|jZ _;cases r
set_option tactic.hygienic true in
def Tr(j:mC b=I d):cM C (.builtin "max") b N d:=by
 have M:∀k,iq lY k=I d->cM C (.builtin "max") [.list k] N d/\cM C (.builtin "max") [.tuple k] N d:=by
  intro k j;obtain⟨xs,ae,j⟩:=kT j;have F:xs.isEmpty=false:=by cases R:xs.isEmpty with|true=>rw[R]at j;cases j|false=>rfl
  rw[F]at j;cases j;constructor;all_goals
   intro ac V O U W p ab aa q
   cases p;rename_i w p
   cases p
   cases w;rename_i i U c Y B S
   obtain⟨n,rfl,f⟩:=zz ae S
  have y:O.heap.IsList i (jD n.toArray):=⟨_,B,rfl,c,by rw[<-zB]⟩;refine hO (bM O.toks)<|call_max_walk<|iter_intList y λL G st x D=>?_;subst G;refine⟨_,_,_,_,_,_,_,rfl,Bm (A:=V.in1) W.handled _ i D<|jD n.toArray,st,x,Ah f F,agy (f7 (n.map (·.1))) λ_ _=>pI,λZ P T H J K=>?_⟩;obtain⟨r,rfl⟩:=pI H;rw[zH f,f];exact q _ _ (ak.of_keep (tI J) K)<|.int _ _;have y:O.heap.IsTuple i (jD n.toArray):=⟨_,B,rfl,c,by rw[<-zB]⟩;refine hO (bM O.toks)<|call_max_walk<|Lp y λL G st x D=>?_;subst G;refine⟨_,_,_,_,_,_,_,rfl,Bn (A:=V.in1) W.handled _ i D<|jD n.toArray,st,x,Ah f F,agy (f7 (n.map (·.1))) λ_ _=>pI,λZ P T H J K=>?_⟩;obtain⟨r,rfl⟩:=pI H;rw[zH f,f];exact q _ _ (ak.of_keep (tI J) K)<|.int _ _
 induction b using a8 with
 |nil=>exact nS j
 |cons i r=>
 cases i<;>try exact nS j
 all_goals
  induction r using a8 with|cons=>exact nS j|nil=>first|exact(M _ j).1|exact(M _ j).2
set_option tactic.hygienic true in
def Tw(j:q3 b=I d):cM C (.builtin "min") b N d:=by
 have M:∀k,iq nO k=I d->cM C (.builtin "min") [.list k] N d/\cM C (.builtin "min") [.tuple k] N d:=by
  intro k j;obtain⟨xs,ae,j⟩:=kT j;have F:xs.isEmpty=false:=by cases R:xs.isEmpty with|true=>rw[R]at j;cases j|false=>rfl
  rw[F]at j;cases j;constructor;all_goals
   intro ac V O U W p ab aa q
   cases p;rename_i w p
   cases p
   cases w;rename_i i U c Y B S
   obtain⟨n,rfl,f⟩:=zz ae S
  have y:O.heap.IsList i (jD n.toArray):=⟨_,B,rfl,c,by rw[<-zB]⟩;refine hO (bM O.toks)<|call_min_walk<|iter_intList y λL G st x D=>?_;subst G;refine⟨_,_,_,_,_,_,_,rfl,Bm (A:=V.in1) W.handled _ i D<|jD n.toArray,st,x,Ah f F,agz (f7 (n.map (·.1))) λ_ _=>pI,λZ P T H J K=>?_⟩;obtain⟨r,rfl⟩:=pI H;rw[zH f,f];exact q _ _ (ak.of_keep (tI J) K)<|.int _ _;have y:O.heap.IsTuple i (jD n.toArray):=⟨_,B,rfl,c,by rw[<-zB]⟩;refine hO (bM O.toks)<|call_min_walk<|Lp y λL G st x D=>?_;subst G;refine⟨_,_,_,_,_,_,_,rfl,Bn (A:=V.in1) W.handled _ i D<|jD n.toArray,st,x,Ah f F,agz (f7 (n.map (·.1))) λ_ _=>pI,λZ P T H J K=>?_⟩;obtain⟨r,rfl⟩:=pI H;rw[zH f,f];exact q _ _ (ak.of_keep (tI J) K)<|.int _ _
 induction b using a8 with
 |nil=>exact nS j
 |cons i r=>
 cases i<;>try exact nS j
 all_goals
  induction r using a8 with|cons=>exact nS j|nil=>first|exact(M _ j).1|exact(M _ j).2
noncomputable def rg(s q:Int×Int):Bool:=if s.1==q.1 then(if s.2==q.2 then au else decide (s.2>q.2))else decide (s.1>q.1)
noncomputable def rr(s q:Int×Int):Bool:=if s.1==q.1 then(if s.2==q.2 then au else decide (s.2<q.2))else decide (s.1<q.1)
def kn(j:cc)(i:aE)(s:Int×Int):Prop:=∃r d y,j.get? i=I ⟨.type "tuple",ag,.seq ⟨[.int s.1 r,.int s.2 d]⟩ y,#[]⟩
section
variable{prog:n'}{w:a4}{A:dI}{E:aq->ax->Prop}{s:ax}{a b:aE}{p q:Int×Int}
def Xr(g:kn s.heap a p)(f:kn s.heap b q)(j:r (.done<|.ret<|.bool<|rg p q) s):aB (aK prog w) A (Builtin.«tuple.__gt__» ⟨[.ref a,.ref b],[]⟩) r E s:=by obtain⟨m,d,y,g⟩:=g;obtain⟨k,c,i,f⟩:=f;show aB _ _ (Bx (.ref b) (.type "tuple")>>=_) _ _ s;refine av<|ahS ⟨_,f,rfl⟩ ahC ?_;simp only[xn,g7,if_false];refine av<|Hl g rfl ?_;refine av<|Hl f rfl ?_;refine av ?_;show aB _ _ (iF [(bE p.1 m,bE q.1 k),(bE p.2 d,bE q.2 c)] _ _) _ _ s;rw[m3];refine av<|av<|Hj ?_;unfold rg at j;by_cases e:(p.1==q.1)=ab;rw[if_pos e]at j;rw[e];simp only[xn,g7,if_false];refine aY ?_;dsimp only;rw[m3];refine av<|av<|Hj ?_;by_cases l:(p.2==q.2)=ab;rw[if_pos l]at j;rw[l];simp only[xn,g7,if_false];refine aY ?_;dsimp only;rw[OI];exact aY<|aY j;rw[if_neg l]at j;rw[jX]at l;rw[l];simp only[F5,if_true];refine av<|oc<|av<|ag3 ?_;exact aY<|aY<|aY j;rw[if_neg e]at j;rw[jX]at e;rw[e];simp only[F5,if_true];refine av<|oc<|av<|ag3 ?_;exact aY<|aY<|aY j
def Z2(g:kn s.heap a p)(f:kn s.heap b q)(j:r (.done<|.ret<|.bool<|rr p q) s):aB (aK prog w) A (Builtin.«tuple.__lt__» ⟨[.ref a,.ref b],[]⟩) r E s:=by obtain⟨m,d,y,g⟩:=g;obtain⟨k,c,i,f⟩:=f;show aB _ _ (Bx (.ref b) (.type "tuple")>>=_) _ _ s;refine av<|ahS ⟨_,f,rfl⟩ ahC ?_;simp only[xn,g7,if_false];refine av<|Hl g rfl ?_;refine av<|Hl f rfl ?_;refine av ?_;show aB _ _ (iF [(bE p.1 m,bE q.1 k),(bE p.2 d,bE q.2 c)] _ _) _ _ s;rw[m3];refine av<|av<|Hj ?_;unfold rr at j;by_cases e:(p.1==q.1)=ab;rw[if_pos e]at j;rw[e];simp only[xn,g7,if_false];refine aY ?_;dsimp only;rw[m3];refine av<|av<|Hj ?_;by_cases l:(p.2==q.2)=ab;rw[if_pos l]at j;rw[l];simp only[xn,g7,if_false];refine aY ?_;dsimp only;rw[OI];exact aY<|aY j;rw[if_neg l]at j;rw[jX]at l;rw[l];simp only[F5,if_true];refine av<|oc<|av<|ag4 ?_;exact aY<|aY<|aY j;rw[if_neg e]at j;rw[jX]at e;rw[e];simp only[F5,if_true];refine av<|oc<|av<|ag4 ?_;exact aY<|aY<|aY j
def acp(m:A.units<qN)(g:kn s.heap a p)(i:kn s.heap b q)(j:c (.bool<|rg p q) s):aB (aK prog w) A (Bz .Gt (.ref a)<|.ref b) c E s:=by
 have b3:s.TypeIs (.ref a) "tuple":=by obtain⟨r,d,y,f⟩:=g;exact⟨_,f,rfl⟩
 have cv:s.TypeIs (.ref b) "tuple":=by obtain⟨r,d,y,f⟩:=i;exact⟨_,f,rfl⟩
 exact ahJ (op:=.Gt) b3 cv PySem.F.slot_tuple_gt PySem.F.entry_tuple_gt (PySem.F.args_tuple_gt_2 _ _) (S:=λA k s=>kn s.heap a p/\kn s.heap b q/\k (.ok<|.ret<|.bool<|rg p q) s) (λprog w A k s j=>Xr j.1 j.2.1 j.2.2) ⟨g,i,nofun,j⟩ m
def acq(m:A.units<qN)(g:kn s.heap a p)(i:kn s.heap b q)(j:c (.bool<|rr p q) s):aB (aK prog w) A (Bz .Lt (.ref a)<|.ref b) c E s:=by
 have b3:s.TypeIs (.ref a) "tuple":=by obtain⟨r,d,y,f⟩:=g;exact⟨_,f,rfl⟩
 have cv:s.TypeIs (.ref b) "tuple":=by obtain⟨r,d,y,f⟩:=i;exact⟨_,f,rfl⟩
 exact ahJ (op:=.Lt) b3 cv PySem.F.slot_tuple_lt PySem.F.entry_tuple_lt (PySem.F.args_tuple_lt_2 _ _) (S:=λA k s=>kn s.heap a p/\kn s.heap b q/\k (.ok<|.ret<|.bool<|rr p q) s) (λprog w A k s j=>Z2 j.1 j.2.1 j.2.2) ⟨g,i,nofun,j⟩ m
def x9(prog:n')(w:a4)(A:dI)(c:qJ)(K:cc->Prop)(r:Nat->aq->Prop)(d:Nat->Nat->Bool):Prop:=∀y b e a(s:ax)(h:aq->ax->Prop)(E:aq->ax->Prop),K s.heap->r y e->r b a->h (.bool<|d y b) s->aB (aK prog w) A (Bz c e a) h E s
section
variable{R:nc->ax->Prop}{ij:aE}{ki wr:List aE}{n:Nat}{P:Nat->aq->Prop}{St:Nat->cc->Prop}{K:cc->Prop}{S:aE}{hB:Nat->Nat->Bool}
theorem Z_(O:xK prog w A.in1 ij ki wr n P St)(Y:x9 prog w A.in1 .Gt K P hB)(l:S∉ki)(ab:∀aa y,K aa->(∀m C,m∉wr->m≠S->aa.get? m=I C->y.get? m=I C)->K y):∀(k b:Nat)(s:ax)(f:aq)(al:Nat),n -(b+1)=k->b+1<=n->St (b+1) s.heap->K s.heap->P (fE hB b) f->s.heap.get? S=I {cls:=.type "list",dict:=ag,data:=.seq #[f,f] al,slots:=#[]}->(∀X y T,P (fE hB<|n -1) X->(∀m C,m∉wr->m≠S->s.heap.get? m=I C->y.get? m=I C)->R (.ok<|.ret X) {s with heap:=y,toks:=T})->fF (aK prog w) A (.builtin "max.loop" ⟨[.ref ij,.none,.ref S],[]⟩) R s:=by
 have U:S∉wr:=λaa=>l<|O.sub _ aa;have q:(pF "max"++pF ".loop":String)="max.loop":=by decide
 intro k;induction k with
 |zero=>
  intro b s f al M af a W G L Q;have V:b+1=n:=ur af<|af_ M;refine xN Pn ?_;rw[xE uD _];show aB _ A.in1 (xU (.ref S)>>=_) _ _ s;refine av<|x4 L rfl ?_;show aB _ A.in1 (r2 (ly<|.ref ij) _>>=_) _ _ s;refine av<|sq<|O.done s _ _ (V▸a) λy T i=>?_;have d:=i S _ U L;show aB _ A.in1 (Hg S (λ_=>#[])>>=_) _ _ _;refine av ?_;refine x5 d rfl<|av<|so<|aY ?_;exact Q f _ T (by rw[<-V];exact G) λm C g B H=>(kM _ _<|jy B).trans<|i m C g H
 |succ k ah=>
  intro b s f al M af a W G L Q;have N:b+1<n:=O1<|M▸r5 k;refine xN Pn ?_;rw[xE uD _];show aB _ A.in1 (xU (.ref S)>>=_) _ _ s;refine av<|x4 L rfl ?_;show aB _ A.in1 (r2 (ly<|.ref ij) _>>=_) _ _ s;refine av<|sq<|O.item (b+1) s _ _ N a λX y T ac t i=>?_;have d:=i S _ U L;have r:K y:=ab _ _ W λm C ai _ H=>i m C ai H;show aB _ A.in1 (r2 (fV [X,X]<|Bz .Gt X f>>=_) _>>=_) _ _ _;refine av<|sq<|c6<|av<|Y (b+1) (fE hB b) X f _ _ _ r ac G ?_;refine av<|c6<|uU ?_;refine av<|so<|aY ?_;induction ad:hB (b+1) (fE hB b)using cq with
  |true=>
   simp only[if_true];refine av ?_;refine x5 d rfl<|av<|so ?_;rw[q];refine aY ⟨sl uD _,ah (b+1) _ X _ (congrArg Gx M) N (O.frame _ _ _ t λm ae C H=>?_) (ab _ _ r λm C _ aj H=>(kM _ _<|jy aj).trans H) (by simp only[fE,ad,if_true];exact ac) (uG _ d rfl) λZ J E p D=>?_⟩;exact(kM _ _ λaa:S=m=>l (by rw[aa];exact ae)).trans H;exact Q Z J E p λm C g B H=>D m C g B<|(kM _ _<|jy B).trans<|i m C g H
  |false=>
   simp only[g7,if_false];refine av<|so ?_;rw[q];refine aY ⟨sl uD _,ah (b+1) _ f al (congrArg Gx M) N t r (by simp only[fE,ad,g7,if_false];exact G) d λZ J E p D=>?_⟩;exact Q Z J E p λm C g B H=>D m C g B<|i m C g H
def Tt(j:aB (aK prog w) A.in1 (qP al) (λU g=>∃ij ki wr n P St hB K,U=.ref ij/\xK prog w A.in1 ij ki wr n P St/\St 0 g.heap/\(∀b∈ki,b<g.heap.objs.size)/\0<n/\K g.heap/\(∀j r,K j->(∀b d,b∉wr->b≠g.heap.objs.size->j.get? b=I d->r.get? b=I d)->K r)/\x9 prog w A.in1 .Gt K P hB/\∀J r V,P (fE hB<|n -1) J->(∀b d,b∉wr->g.heap.get? b=I d->r.get? b=I d)->ac J {g with heap:=r,toks:=V}) E s):aB (aK prog w) A (e8 (.builtin "max") [al]) ac E s:=by
 have q:(pF "max"++pF ".loop":String)="max.loop":=by decide
 refine ahw PySem.F.kind_max PySem.F.plain_max PySem.F.entry_max (PySem.F.args_max1 _) ?_;show aB _ A.in1 (GC "max" ["key","default"] 0 ⟨[],[]⟩>>=_) _ _ s;refine av<|BH (show GC "max" ["key","default"] 0 ⟨[],[]⟩=bg [ag,ag]from rfl) ?_;refine av<|aY ?_;refine av<|ff j (λU g G=>?_) λ_ _ f=>f;obtain⟨ij,ki,wr,n,P,St,hB,K,rfl,B,T,R,S,m,M,k,Z⟩:=G;refine av<|BG ?_;have l:g.heap.objs.size∉ki:=λaa=>jZ _<|R _ aa;have N:g.heap.objs.size∉wr:=λj=>l<|B.sub _ j;rw[q];have a:(g.heap.push {cls:=.type "list",dict:=ag,data:=.seq #[] 0,slots:=#[]}).get? g.heap.objs.size=I {cls:=.type "list",dict:=ag,data:=.seq #[] 0,slots:=#[]}:=dE _ rfl;refine aY ⟨sl uD _,?_⟩;refine xN Pn ?_;rw[xE uD _];show aB _ A.in1 (xU (.ref g.heap.objs.size)>>=_) _ _ _;refine av<|x4 a rfl ?_;show aB _ A.in1 (r2 (ly<|.ref ij) _>>=_) _ _ _;refine av<|sq<|B.item 0 _ _ _ S (B.frame _ _ _ T λb _ d f=>dS _ f) λJ r V Y t i=>?_;have C:=i _ _ N a;show aB _ A.in1 (Hg g.heap.objs.size (λ_=>#[J,J])>>=_) _ _ _;refine av ?_;refine x5 C rfl ?_;rw[q];refine aY ⟨sl uD _,Z_ B k l M _ 0 _ J _ rfl S (B.frame _ _ _ t λb O d f=>?_) (M _ _ m λb d W X f=>(kM _ _<|jy X).trans<|i b d W<|dS _ f) Y (uG _ C rfl) λab L H p D=>?_⟩;exact(kM _ _ λj:g.heap.objs.size=b=>l (by rw[j];exact O)).trans f;exact Z ab L H p λb d c f=>D b d c (fs<|fe f)<|(kM _ _<|jy<|fs<|fe f).trans<|i b d c<|dS _ f
theorem aal(O:xK prog w A.in1 ij ki wr n P St)(Y:x9 prog w A.in1 .Lt K P hB)(l:S∉ki)(ab:∀aa y,K aa->(∀m C,m∉wr->m≠S->aa.get? m=I C->y.get? m=I C)->K y):∀(k b:Nat)(s:ax)(f:aq)(al:Nat),n -(b+1)=k->b+1<=n->St (b+1) s.heap->K s.heap->P (fE hB b) f->s.heap.get? S=I {cls:=.type "list",dict:=ag,data:=.seq #[f,f] al,slots:=#[]}->(∀X y T,P (fE hB<|n -1) X->(∀m C,m∉wr->m≠S->s.heap.get? m=I C->y.get? m=I C)->R (.ok<|.ret X) {s with heap:=y,toks:=T})->fF (aK prog w) A (.builtin "min.loop" ⟨[.ref ij,.none,.ref S],[]⟩) R s:=by
 have U:S∉wr:=λaa=>l<|O.sub _ aa;have q:(pF "min"++pF ".loop":String)="min.loop":=by decide
 intro k;induction k with
 |zero=>
  intro b s f al M af a W G L Q;have V:b+1=n:=ur af<|af_ M;refine xN Po ?_;rw[xE uE _];show aB _ A.in1 (xU (.ref S)>>=_) _ _ s;refine av<|x4 L rfl ?_;show aB _ A.in1 (r2 (ly<|.ref ij) _>>=_) _ _ s;refine av<|sq<|O.done s _ _ (V▸a) λy T i=>?_;have d:=i S _ U L;show aB _ A.in1 (Hg S (λ_=>#[])>>=_) _ _ _;refine av ?_;refine x5 d rfl<|av<|so<|aY ?_;exact Q f _ T (by rw[<-V];exact G) λm C g B H=>(kM _ _<|jy B).trans<|i m C g H
 |succ k ah=>
  intro b s f al M af a W G L Q;have N:b+1<n:=O1<|M▸r5 k;refine xN Po ?_;rw[xE uE _];show aB _ A.in1 (xU (.ref S)>>=_) _ _ s;refine av<|x4 L rfl ?_;show aB _ A.in1 (r2 (ly<|.ref ij) _>>=_) _ _ s;refine av<|sq<|O.item (b+1) s _ _ N a λX y T ac t i=>?_;have d:=i S _ U L;have r:K y:=ab _ _ W λm C ai _ H=>i m C ai H;show aB _ A.in1 (r2 (fV [X,X]<|Bz .Lt X f>>=_) _>>=_) _ _ _;refine av<|sq<|c6<|av<|Y (b+1) (fE hB b) X f _ _ _ r ac G ?_;refine av<|c6<|uU ?_;refine av<|so<|aY ?_;induction ad:hB (b+1) (fE hB b)using cq with
  |true=>
   simp only[if_true];refine av ?_;refine x5 d rfl<|av<|so ?_;rw[q];refine aY ⟨sl uE _,ah (b+1) _ X _ (congrArg Gx M) N (O.frame _ _ _ t λm ae C H=>?_) (ab _ _ r λm C _ aj H=>(kM _ _<|jy aj).trans H) (by simp only[fE,ad,if_true];exact ac) (uG _ d rfl) λZ J E p D=>?_⟩;exact(kM _ _ λaa:S=m=>l (by rw[aa];exact ae)).trans H;exact Q Z J E p λm C g B H=>D m C g B<|(kM _ _<|jy B).trans<|i m C g H
  |false=>
   simp only[g7,if_false];refine av<|so ?_;rw[q];refine aY ⟨sl uE _,ah (b+1) _ f al (congrArg Gx M) N t r (by simp only[fE,ad,g7,if_false];exact G) d λZ J E p D=>?_⟩;exact Q Z J E p λm C g B H=>D m C g B<|i m C g H
def Tz(j:aB (aK prog w) A.in1 (qP al) (λU g=>∃ij ki wr n P St hB K,U=.ref ij/\xK prog w A.in1 ij ki wr n P St/\St 0 g.heap/\(∀b∈ki,b<g.heap.objs.size)/\0<n/\K g.heap/\(∀j r,K j->(∀b d,b∉wr->b≠g.heap.objs.size->j.get? b=I d->r.get? b=I d)->K r)/\x9 prog w A.in1 .Lt K P hB/\∀J r V,P (fE hB<|n -1) J->(∀b d,b∉wr->g.heap.get? b=I d->r.get? b=I d)->ac J {g with heap:=r,toks:=V}) E s):aB (aK prog w) A (e8 (.builtin "min") [al]) ac E s:=by
 have q:(pF "min"++pF ".loop":String)="min.loop":=by decide
 refine ahw PySem.F.kind_min PySem.F.plain_min PySem.F.entry_min (PySem.F.args_min1 _) ?_;show aB _ A.in1 (GC "min" ["key","default"] 0 ⟨[],[]⟩>>=_) _ _ s;refine av<|BH (show GC "min" ["key","default"] 0 ⟨[],[]⟩=bg [ag,ag]from rfl) ?_;refine av<|aY ?_;refine av<|ff j (λU g G=>?_) λ_ _ f=>f;obtain⟨ij,ki,wr,n,P,St,hB,K,rfl,B,T,R,S,m,M,k,Z⟩:=G;refine av<|BG ?_;have l:g.heap.objs.size∉ki:=λaa=>jZ _<|R _ aa;have N:g.heap.objs.size∉wr:=λj=>l<|B.sub _ j;rw[q];have a:(g.heap.push {cls:=.type "list",dict:=ag,data:=.seq #[] 0,slots:=#[]}).get? g.heap.objs.size=I {cls:=.type "list",dict:=ag,data:=.seq #[] 0,slots:=#[]}:=dE _ rfl;refine aY ⟨sl uE _,?_⟩;refine xN Po ?_;rw[xE uE _];show aB _ A.in1 (xU (.ref g.heap.objs.size)>>=_) _ _ _;refine av<|x4 a rfl ?_;show aB _ A.in1 (r2 (ly<|.ref ij) _>>=_) _ _ _;refine av<|sq<|B.item 0 _ _ _ S (B.frame _ _ _ T λb _ d f=>dS _ f) λJ r V Y t i=>?_;have C:=i _ _ N a;show aB _ A.in1 (Hg g.heap.objs.size (λ_=>#[J,J])>>=_) _ _ _;refine av ?_;refine x5 C rfl ?_;rw[q];refine aY ⟨sl uE _,aal B k l M _ 0 _ J _ rfl S (B.frame _ _ _ t λb O d f=>?_) (M _ _ m λb d W X f=>(kM _ _<|jy X).trans<|i b d W<|dS _ f) Y (uG _ C rfl) λab L H p D=>?_⟩;exact(kM _ _ λj:g.heap.objs.size=b=>l (by rw[j];exact O)).trans f;exact Z ab L H p λb d c f=>D b d c (fs<|fe f)<|(kM _ _<|jy<|fs<|fe f).trans<|i b d c<|dS _ f
end
end
noncomputable def Mo:aa->Option (Int×Int)|.tuple [.int i,.int p]=>I (i,p)|_=>ag
def E7(k:List aa):Option (List<|Int×Int):=i0 Mo k
noncomputable def j7(n:List (Int×Int))(y:Nat):Int×Int:=(n[y]?).getD (0,0)
def mD:List aa->Option aa|[.list k]=>(E7 k).bind λn=>k[fE (λy b=>rg (j7 n y)<|j7 n b)<|n.length -1]?|_=>ag
def q4:List aa->Option aa|[.list k]=>(E7 k).bind λn=>k[fE (λy b=>rr (j7 n y)<|j7 n b)<|n.length -1]?|_=>ag
set_option tactic.hygienic true in
def abA(f:Mo d=I s)(C:Rz c j t d):∃g,t=.ref g/\kn j g s:=by
 cases d<;>try exact nS f
 rename_i k;induction k using a8 with
 |nil=>exact nS f
 |cons i k=>
 cases i<;>try exact nS f
 induction k using a8 with
 |nil=>exact nS f
 |cons A k=>
 cases A<;>try exact nS f
 induction k using a8 with
 |cons=>exact nS f
 |nil=>
 have f:=aS f;subst f;cases C;rename_i i x D B q n;cases n;rename_i w n;cases n;rename_i y n;cases n;cases w;cases y;exact⟨_,rfl,_,_,_,q⟩
def LS{n t:Type}{s:n->Option t}:∀{k:List n}{w:List t},i0 s k=I w->k.length=w.length:=by
 intro k;induction k with
 |nil=>
  exact @λw j=>by cases j;rfl
 |cons i k c=>
  exact @λw j=>by obtain⟨m,b,g,q,rfl⟩:=tr j;rw[gx,gx,c q]
def Z7{n t:Type}{s:n->Option t}:∀{k:List n}{w:List t}{c:Nat}{d:n},i0 s k=I w->k[c]?=I d->∃p,w[c]?=I p/\s d=I p:=by
 intro k;induction k with
 |nil=>
  exact @λw c d j A=>by simp at A
 |cons m k B=>
  exact @λw c d j A=>by obtain⟨C,D,g,q,rfl⟩:=tr j;cases c with|zero=>simp at A;subst A;exact⟨C,by simp,g⟩|succ c=>simpa using B q (by simpa using A)
theorem RzL.at:∀{b:List aq}{a:List aa}{y:Nat}{t:aq},RzL c j b a->b[y]?=I t->∃d,a[y]?=I d/\Rz c j t d:=by
 intro b;induction b with
 |nil=>
  intro a y t k f;simp at f
 |cons m b g=>
  intro a y t k f;cases k with
  |@cons _ _ d a w p=>
  cases y with|zero=>simp at f;subst f;exact⟨d,by simp,w⟩|succ y=>simpa using g p (by simpa using f)
def pP(b:Nat)(x:List aq)(a:List (Int×Int))(j:cc):Prop:=∀y t,x[y]?=I t->∃g,g<b/\t=.ref g/\kn j g (j7 a y)
def Mq{B:ax}(f:E7 k=I n)(w:RzL c B.heap x k):pP B.heap.objs.size x n B.heap:=by intro y t q;obtain⟨d,a,A⟩:=w.at q;obtain⟨C,ao,m⟩:=Z7 f a;obtain⟨g,rfl,b⟩:=abA m A;refine⟨g,?_,rfl,?_⟩;obtain⟨_,_,_,j⟩:=b;exact fe j;unfold j7;rw[ao];exact b
def pP.keep(k:pP g d c j)(s:∀w B,w<g->j.get? w=I B->y.get? w=I B):pP g d c y:=by intro D G l;obtain⟨q,A,p,r,F,E,C⟩:=k D G l;exact⟨q,A,p,r,F,E,s _ _ A C⟩
set_option tactic.hygienic true in
def Ts(T:mD w=I d):cM C (.builtin "max") w N d:=by
 induction w using a8 with
 |nil=>exact nS T
 |cons r az=>
 cases r<;>try exact nS T
 rename_i aH;induction az using a8 with
 |cons=>exact nS T
 |nil=>
 obtain⟨n,O,U⟩:=kT T;have P:=LS O;intro aG ar p c aa S aF aE q;cases S;rename_i al S;cases S;cases al;rename_i r c ay ax F K;have V:p.heap.IsList r c.toArray:=⟨_,F,rfl,ay,rfl⟩;have M:r<p.heap.objs.size:=fe F;have ah:c.length=n.length:=K.length.trans P;have R:0<c.length:=by rw[K.length];exact cH (dV _) (m4.mp U).1
 refine hO (bM p.toks)<|Tt<|P9 V ?_;have W:=Mq O K;have dR:pP p.heap.objs.size c n (p.heap.push {cls:=.type "list_iterator",data:=.fields #[.ref r,.int 0 0]}):=W.keep λY aq _ Z=>dS _ Z;refine⟨_,_,_,_,_,_,λD b=>rg (j7 n D)<|j7 n b,pP p.heap.objs.size c n,rfl,Bm (A:=ar.in1) aa.handled p.heap.objs.size r (fs M) c.toArray,⟨⟨_,dE _ rfl,rfl,rfl⟩,V.push _⟩,λaD G=>?_,by simpa using R,dR,λT B k aw=>k.keep λY aq ae Z=>aw Y aq (λq=>?_) (λq=>?_) Z,λD b ao ap J au as k ab ac af=>?_,λaC B an H ad ag=>?_⟩;show aD<(p.heap.push _).objs.size;rw[i'];rcases cJ.mp G with rfl|G;exact e5 _;rcases cJ.mp G with rfl|G;exact uu M;cases G;rcases cJ.mp q with rfl|q;exact jZ _ ae;cases q;subst q;have ae:(p.heap.push {cls:=.type "list_iterator",data:=.fields #[.ref r,.int 0 0]}).objs.size<p.heap.objs.size:=ae;rw[i']at ae;exact jZ _<|r4 (e5 _) ae;obtain⟨aA,_,rfl,ai⟩:=k D ao (by simpa using ab);obtain⟨aB,_,rfl,aj⟩:=k b ap (by simpa using ac);exact acp (aa.wK (k:=0) z) ai aj af;have H:c[fE (λD b=>rg (j7 n D)<|j7 n b)<|c.length -1]?=I aC:=by simpa using H
 rw[ah]at H;obtain⟨av,L,am⟩:=K.at H;rw[U]at L;cases L;have Y:ak C p {p with heap:=B,toks:=an}:=ak.of_keep (tI ad) ag;exact q _ _ Y<|aa.mono Y am
set_option tactic.hygienic true in
def Tx(T:q4 w=I d):cM C (.builtin "min") w N d:=by
 induction w using a8 with
 |nil=>exact nS T
 |cons r az=>
 cases r<;>try exact nS T
 rename_i aH;induction az using a8 with
 |cons=>exact nS T
 |nil=>
 obtain⟨n,O,U⟩:=kT T;have P:=LS O;intro aG ar p c aa S aF aE q;cases S;rename_i al S;cases S;cases al;rename_i r c ay ax F K;have V:p.heap.IsList r c.toArray:=⟨_,F,rfl,ay,rfl⟩;have M:r<p.heap.objs.size:=fe F;have ah:c.length=n.length:=K.length.trans P;have R:0<c.length:=by rw[K.length];exact cH (dV _) (m4.mp U).1
 refine hO (bM p.toks)<|Tz<|P9 V ?_;have W:=Mq O K;have dR:pP p.heap.objs.size c n (p.heap.push {cls:=.type "list_iterator",data:=.fields #[.ref r,.int 0 0]}):=W.keep λY aq _ Z=>dS _ Z;refine⟨_,_,_,_,_,_,λD b=>rr (j7 n D)<|j7 n b,pP p.heap.objs.size c n,rfl,Bm (A:=ar.in1) aa.handled p.heap.objs.size r (fs M) c.toArray,⟨⟨_,dE _ rfl,rfl,rfl⟩,V.push _⟩,λaD G=>?_,by simpa using R,dR,λT B k aw=>k.keep λY aq ae Z=>aw Y aq (λq=>?_) (λq=>?_) Z,λD b ao ap J au as k ab ac af=>?_,λaC B an H ad ag=>?_⟩;show aD<(p.heap.push _).objs.size;rw[i'];rcases cJ.mp G with rfl|G;exact e5 _;rcases cJ.mp G with rfl|G;exact uu M;cases G;rcases cJ.mp q with rfl|q;exact jZ _ ae;cases q;subst q;have ae:(p.heap.push {cls:=.type "list_iterator",data:=.fields #[.ref r,.int 0 0]}).objs.size<p.heap.objs.size:=ae;rw[i']at ae;exact jZ _<|r4 (e5 _) ae;obtain⟨aA,_,rfl,ai⟩:=k D ao (by simpa using ab);obtain⟨aB,_,rfl,aj⟩:=k b ap (by simpa using ac);exact acq (aa.wK (k:=0) z) ai aj af;have H:c[fE (λD b=>rr (j7 n D)<|j7 n b)<|c.length -1]?=I aC:=by simpa using H
 rw[ah]at H;obtain⟨av,L,am⟩:=K.at H;rw[U]at L;cases L;have Y:ak C p {p with heap:=B,toks:=an}:=ak.of_keep (tI ad) ag;exact q _ _ Y<|aa.mono Y am
end
section
variable{C:bC}{O:b0}{N n:Nat}{M:List ar}
set_option tactic.hygienic true in
def SI(k:bj C c t j l)(P:bh C c.X c.A c.fuel l)(Z:er t m i j=I f)(ad:Rz c.X l.heap am (.list i))(q:∀J,dn C c l J->bj C c t f J->(∀L O,L∉(m.filterMap tB)->bH C l.heap c.env L O->bH C J.heap c.env L O)->B () J):aB (aK C.prog C.w) c.A (gR (.Tuple m al ap) c.env am) B an l:=by cases ad;rename_i aa H n ac F G;have D:=Ci (env:=c.env) Z;have R:l.heap.IsList aa H.toArray:=⟨_,F,rfl,n,rfl⟩;rw[arm_assign_Tuple];refine av<|dc ?_;unfold unpack;rw[show(uN m c.env).length=H.toArray.size by rw[D.2];simp[D.1,G.length],show(uN m c.env).findIdx? (·.1)=ag by rw[D.2];exact J6];refine av<|c6<|kun_itemsOf P.handled R λd ae=>?_;have kp:∀M N,l.heap.get? M=I N->d.get? M=I N:=λM N Y=>ae M N (fs<|fe Y) Y;have K:ak C l {l with heap:=d}:=ak.of_keep kp;rw[D.2,m7];exact ID (k.ext K) (P.ext K) Z (P.fR K G) λJ st V W=>q J ((dn.jR K).trans st) V λL O U T=>W L O U<|T.ext K
def aX.bindL(H:aX C g B σ e l)(M:Rz (g.grow e).X l.heap t (.list j))(n:er B x j []=I m) (q:∀J,aX C g B (σ.vals m) e J->b2 C g e e l J->D () J):aB (aK C.prog C.w) g.A (gR (.Tuple x d G) g.env t) D f l:=SI (c:=g.grow e) H.ok H.good (Cm (aO:=σ.strict) n) M λJ st k L=>
  let⟨i,F⟩:=H.stored st k L λN K=>Cn n<|.inl K
  q J i F
set_option tactic.hygienic true in
def adx(x:cf C O N)(y:N<=g.fuel)(i:mH O a n σ f=I (.list h))(J:mY f=ag)(K:er a m h []=I b):bV C g a (c3 (.Assign [.Tuple m k d] f j) g.env) σ (.next<|σ.vals b):=by
 intro q V ah T R F;have l:ja f (I<|.Tuple m k d) j.line g.env=bg au:=by rcases(za i).elim (λi=>tY (t:=.Tuple m k d) (line:=j.line) (env:=g.env) i) λi=>tY (t:=.Tuple m k d) (line:=j.line) (env:=g.env) i.2 with l|⟨_,_,_,_,_,_,_,L,_⟩;exact l;cases L
 rw[G7];refine av<|dc<|av ?_;show aB _ _ (ja f (I<|.Tuple m k d) j.line g.env) _ _ _;rw[l];refine aY ?_;simp only[g7,if_false];refine av<|ah.value x y i λP M A H w=>?_;rw[MA J];refine av<|aY ?_;show aB _ _ (gR (.Tuple m k d) g.env P>>=λU=>bg f') _ _ _;exact av<|A.bindL w K λG B D=>aY<|F q G B<|(b2.ext H).trans A D
def sA(Inv:Nat->(aE->Prop)->ax->Prop)(x:List aE):Prop:=∀{y:Nat}{c:aE->Prop}{l J:ax},Inv y c l->(∀p d,(¬c p\/p∈x)->l.heap.get? p=I d->J.heap.get? p=I d)->Inv y c J
def sC(Inv:Nat->(aE->Prop)->ax->Prop):Prop:=∀{y:Nat}{c a:aE->Prop}{l:ax},Inv y c l->(∀p d,l.heap.get? p=I d->a p->c p)->Inv y a l
def WG{K:Nat->aG}{Inv:Nat->(aE->Prop)->ax->Prop}{St:Nat->cc->Prop}(co:oo C g.A g.X L f1 r U St)(ai:∀D,D<=U.length->(K D).pure=ab)(j:∀(D:Nat)(d:aa),U[D]?=I d->∃bd,dq ev L d []=I bd)(af:sA Inv be)(ag:sC Inv)(kl:∀f∈be,g.X f/\¬C.T f/\¬g.Y f)(bn:∀f∈r,¬C.P f)(as:∀f,C.T f->g.X f)(ac:∀f,g.Y f->g.X f)(cV:∀n f,g.env.cells.lookup n=I f->g.X f)(aP:∀(D:Nat)(d:aa)(bd:bQ)(G:ax),U[D]?=I d->dq ev L d []=I bd->aX C (g.grow r) ev ((K D).vals bd) [] G->Inv D (g.grow r).X G->∀(ge:mq->ax->Prop)(fr:aq->ax->Prop),(∀J,aX C (g.grow r) ev (K<|D+1) [] J->Inv (D+1) (g.grow r).X J->cu C (g.grow r) be G J->ge .next J)->aB (aK C.prog C.w) g.A (dm p g.env) ge fr G)(q:∀J,aX C g ev (K U.length) [] J->Inv U.length g.X J->cu C g (be++r) bb J->gl (.ok .next) J):∀(k D:Nat)(G:ax),D+k=U.length->St D G.heap->aX C (g.grow r) ev (K D) [] G->Inv D (g.grow r).X G->cu C g (be++r) bb G->fF (aK C.prog C.w) g.A (.forLoop L f1 p [] g.env) gl G:=by
 have W:∀f∈r,¬g.X f:=co.off;have cl:∀f∈r,¬C.T f:=λf B bv=>W f B<|as f bv;have fn:∀f∈r,f∉be:=λf B x=>W f B (kl f x).1;have bs:∀{D G J},Inv D (g.grow r).X G->(∀p V,G.heap.get? p=I V->¬C.T p->¬g.Y p->p∉r->J.heap.get? p=I V)->Inv D (g.grow r).X J:=λaj k=>af aj λp V j al=>by rcases j with j|j;exact k p V al (λbv=>j<|.inl<|as p bv) (λca=>j<|.inl<|ac p ca) λB=>j<|.inr B;exact k p V al (kl p j).2.1 (kl p j).2.2 λB=>fn p B j
 intro k;induction k with
 |zero=>
  intro D G ci st ah am eq;have M:D=U.length:=ci;subst M;refine CD λfr=>?_;refine co.end_ st λfK ga j6 a2=>?_;have l:dF C r G {G with heap:=fK,toks:=ga}:=dF.of cl bn (λf B=>co.jP _ _ st f B) a2;have N:ig C (g.grow r) r:=⟨λB=>W _ B<|ac _ ah.ok.loc.e1,λak f al B=>W f B<|cV ak f al,λf B=>.inr B⟩;have O:=(ah.ql.only N (λf cd B=>by cases B) l).drop as ac cV;have dd:bh C (g.grow []).X g.A g.fuel G:=⟨ah.good.handled,ah.good.depth,ah.good.units,ah.good.guards,λf bi=>ah.good.cA f<|bi.elim (λx=>.inl<|.inl x) .inr,λf bv=>.inl<|as f bv,ah.good.ok,ah.good.tok⟩;have ad:=dd.bx (c:=g) (l.bx (gV:=r) λcd B=>B) λf B ae=>(ae.elim (W f B) λx=>by cases x).elim;exact q _ (O.sim ad) (ag (bs am λp V al cd cd db=>a2 p V db al) λp V cd j=>.inl j)<|eq.trans<|l.bx λf B=>n8 _ B
 |succ k f0=>
  intro D G ci st ah am eq;refine CD λfr=>?_;have ex:D<U.length:=ci▸qD (r5 k);have bm:U[D]?=I (U[D]'ex):=n6 _
  obtain⟨bd,cr⟩:=j D _ bm;refine co.use bm st (λf bi=>by obtain⟨V,al,cd⟩:=ah.good.cA f<|.inl<|.inl bi;exact⟨V,al⟩) λgo H F j6 a2 la fd=>?_;have l:dF C r G {G with heap:=H,toks:=F}:=dF.of cl bn (λf B=>co.jP _ _ st f B) a2;have cs:Rz ((g.grow r).grow []).X ({G with heap:=H,toks:=F}:ax).heap go _:=Rz.less (λf bi=>bi.elim id λx=>by cases x) fd;have a1:Inv D (g.grow r).X ({G with heap:=H,toks:=F}:ax):=bs am λp V al cd cd db=>a2 p V db al;have an:St (D+1) ({G with heap:=H,toks:=F}:ax).heap:=la;clear fd la a2 j6;generalize({G with heap:=H,toks:=F}:ax)=f8 at l cs an a1 ⊢;have dK:=ah.aa6 (λf B=>⟨W f B,bn f B⟩) as ac cV l λf B=>co.here _ _ an f B;refine dK.dq cs cr λap dL cp=>?_;have ce:Inv D (g.grow r).X ap:=bs a1 λp V al f2 f4 cd=>cp.bx.keep p V al f2 f4 (by simp);have mU:St (D+1) ap.heap:=co.frame _ _ _ an λp V al j=>cp.bx.keep p V al (λbv=>j.elim (λB=>cl p B bv) λx=>x<|as p bv) (λca=>j.elim (λB=>W p B<|ac p ca) λx=>x<|ac p ca) (by simp);refine aP D _ bd ap bm cr dL ce _ _ λeI em ch cK=>?_;refine f0 (D+1) eI ((ef D 1 k).trans ci) ?_ em ch ?_;exact co.frame _ _ _ mU λp V al j=>cK.keep p V al (λbv=>j.elim (λB=>cl p B bv) λx=>x<|as p bv) (λca=>j.elim (λB=>W p B<|ac p ca) λx=>x<|ac p ca) λB=>j.elim (λx=>fn p x B) λx=>x (kl p B).1;refine((eq.trans<|l.bx λf B=>n8 _ B).trans<|cp.bx.f9.cut (λcd ca=>ca) λp B=>by cases B).trans ?_;exact cK.f9.cut (λcd ca=>ca) λp B=>.inl<|n7 _ B
def tU{σs:Nat->aG}{Inv:Nat->(aE->Prop)->ax->Prop}(R:dN C c f g l ds)(U:∀H,G8 g c.env H=bg H)(M:∀k,k<=ds.length->(σs k).pure=ab)(j:∀(k:Nat)(d:aa),ds[k]?=I d->∃r,dq B f d []=I r)(K:sA Inv oq)(L:sC Inv)(kl:∀O∈oq,c.X O/\¬C.T O/\¬c.Y O)(ah:aX C c B (σs 0) [] l)(n:Inv 0 c.X l)(aP:∀m,(∀p∈m,l.heap.get? p=ag)->∀(k:Nat)(d:aa)(r:bQ)(l:ax),ds[k]?=I d->dq B f d []=I r->aX C (c.grow m) B ((σs k).vals r) [] l->Inv k (c.grow m).X l->∀(h:mq->ax->Prop)(al:aq->ax->Prop),(∀J,aX C (c.grow m) B (σs<|k+1) [] J->Inv (k+1) (c.grow m).X J->cu C (c.grow m) oq l J->h .next J)->aB (aK C.prog C.w) c.A (dm p c.env) h al l)(q:∀J,aX C c B (σs ds.length) [] J->Inv ds.length c.X J->cu C c oq l J->h .next J):aB (aK C.prog C.w) c.A (c3 (.For f g p [] am) c.env) h al l:=by refine Hh ?_ U;refine R l (ak.refl l) ah.cB _ _ λai J m H F W=>?_;obtain⟨St,ad,st⟩:=W.here;have P:=λp(j:p∈m)=>ah.cB.gm<|F p j;refine WG (Inv:=Inv) (bb:=l) ad M j K L kl (λp j=>(P p j).2.1) ah.aT ah.bJ ah.cI (aP m F) (λcX G D V=>?_) ds.length 0 J (g9 _) st (ah.vs H F<|ad.here _ _ st) ?_<|H.bx;exact q cX G D<|V.cut (λao aj=>aj) λp ac=>(ml.mp ac).imp id λan=>F p an;refine K (L n λp ae N j=>j.elim id λac=>by rw[F p ac]at N;cases N) λp ae j N=>?_;refine H.keep p ae N λaf=>?_;rcases j with j|j;exact j<|.inl<|ah.aT p af;exact(kl p j).2.1 af
end
def aX.sub(ah:aX C g b σ f h)(i:∀m t,aW.lookup m=I t->σ.lookup m=I t)(p:dG (aW.map (·.1))=ab):aX C g b aW f h:=⟨ah.good,{ah.ok with names:=λm d n=>ah.ok.names m d ((fB ah.keys).mpr<|i _ _<|(fB p).mp n)},p,ah.lists,λm k n=>ah.own m k<|i _ _ n,λm r k j a n q=>ah.apart m r k j a (i _ _ n)<|i _ _ q,ah.aT,ah.bJ,ah.cI⟩
def rT{σ:aG}(j:∀s∈aO,σ.lookup s.1=none):∀m t,σ.lookup m=some t->(σ.vals aO).lookup m=some t:=λm t f=>by rw[AD];induction b:aO.lookup m using b7 with|none=>exact f|some d=>rw[j _<|mem_of_lookup b]at f;cases f
def cU(c:aE->Prop)(b:ax)(i:aE)(k:List aa):Prop:=∃x d,b.heap.get? i=I ⟨.type "list",ag,.seq ⟨x⟩ d,#[]⟩/\RzL c b.heap x k
set_option tactic.hygienic true in
def adv(aq:cf C bn bm)(av:bm<=c.fuel)(ao:(a1.endLine==bd.line)=ab)(ae:σ.lookup be=I (.val<|.ref i))(af:fX f=au)(ax:bc bn bv as σ.plus f=I d)(aA:a2.length<=1000000)(ah:aX C c as σ [] g)(k:cU c.X g i a2)(ad:c.X i)(bW:¬C.T i)(aC:¬C.P i)(U:¬c.Y i)(al:∀aj,c.env.cells.lookup aj≠I i)(q:∀J,aX C c as σ [] J->cu C c [i] g J->(∀K am,K≠i->¬C.T K->g.heap.get? K=I am->J.heap.get? K=I am)->cU c.X J i (a2++[d])->bs .next J):aB (aK C.prog C.w) c.A (c3 (.Expr (.Call (.Attribute (.Name be ca) "append" a1) [f] [] bd) bi) c.env) bs cd g:=by
 obtain⟨aH,aj,t,aF⟩:=k;have R:bH C g.heap c.env be (.ref i):=by obtain⟨aP,R,aL⟩:=ah.ok.names be (.ref i)<|(fB ah.keys).mpr ae;cases aL;exact R
 have ay:lx c.env=au:=by unfold lx;have az:c.env.scope.kind=.function:=ah.ok.loc.kind;rw[az];rfl
 refine BD ?_ ay rfl;have ag:ha [f] c.env=[(au,cn f c.env)]:=by rw[qp af];rfl
 refine xZ (T:="list") (id:="list.append") rfl (by rw[ag];rfl) ao Bd Bf GI ?_;refine sY R ⟨⟨_,t,rfl⟩,λaJ ar=>by cases ar;exact⟨_,t,rfl⟩,?_⟩;have ac:e9 C c [f] g [d]:=pR ((de aq bv).cW as σ.plus f d c g ah.borrow av ax) af;refine sO (ac bd).2 (ac bd).1 (ak.refl g) ah.cB λaM V h aG=>?_;have G:=ah.ext h;cases aG;rename_i aO aI aD aE;cases aE;have an:ig C c [i]:=⟨λH=>by rw[cm]at H;exact U<|H▸ah.ok.loc.e1,λaj K f H=>by rw[cm]at H;exact al aj<|H▸f,λK H=>by rw[cm]at H;exact H▸ad⟩;have aa:eV C c i a2 V:=⟨bW,aC,an,U,aH,aj,h.keep _ _ t bW,ah.cB.fR h aF⟩;refine vt (c:=c) aa aD aA λW y B=>?_;obtain⟨M,j,D,L⟩:=B.at';exact q W (G.Aa ad bW U al y ⟨_,D⟩) (h.bx.trans<|y.bx λaN H=>H) (λK am aw ai f=>y.keep K am (h.keep K am f ai) ai<|by simpa using aw) ⟨M,j,D,L⟩
set_option tactic.hygienic true in
def adt(aq:cf C bs bn)(av:bn<=c.fuel)(ao:(a2.endLine==be.line)=ab)(ae:σ.lookup bi=I (.val<|.ref i))(af:fX f=au)(ax:bc bs ca a1 as f=I d)(aA:bd.length<=1000000)(ah:aX C c a1 σ [] g)(aD:bj C c a1 as g)(k:cU c.X g i bd)(ad:c.X i)(bW:¬C.T i)(aC:¬C.P i)(U:¬c.Y i)(al:∀aj,c.env.cells.lookup aj≠I i)(q:∀J,aX C c a1 σ [] J->cu C c [i] g J->(∀K am,K≠i->¬C.T K->g.heap.get? K=I am->J.heap.get? K=I am)->cU c.X J i (bd++[d])->bv .next J):aB (aK C.prog C.w) c.A (c3 (.Expr (.Call (.Attribute (.Name bi cd) "append" a2) [f] [] be) bm) c.env) bv ce g:=by
 obtain⟨aI,aj,t,aG⟩:=k;have R:bH C g.heap c.env bi (.ref i):=by obtain⟨aQ,R,aM⟩:=ah.ok.names bi (.ref i)<|(fB ah.keys).mpr ae;cases aM;exact R
 have ay:lx c.env=au:=by unfold lx;have az:c.env.scope.kind=.function:=ah.ok.loc.kind;rw[az];rfl
 refine BD ?_ ay rfl;have ag:ha [f] c.env=[(au,cn f c.env)]:=by rw[qp af];rfl
 refine xZ (T:="list") (id:="list.append") rfl (by rw[ag];rfl) ao Bd Bf GI ?_;refine sY R ⟨⟨_,t,rfl⟩,λaL ar=>by cases ar;exact⟨_,t,rfl⟩,?_⟩;have ac:e9 C c [f] g [d]:=pR ((de aq ca).cW a1 as f d c g aD av ax) af;refine sO (ac be).2 (ac be).1 (ak.refl g) ah.cB λaN V h aH=>?_;have G:=ah.ext h;cases aH;rename_i aP aJ aE aF;cases aF;have an:ig C c [i]:=⟨λH=>by rw[cm]at H;exact U<|H▸ah.ok.loc.e1,λaj K f H=>by rw[cm]at H;exact al aj<|H▸f,λK H=>by rw[cm]at H;exact H▸ad⟩;have aa:eV C c i bd V:=⟨bW,aC,an,U,aI,aj,h.keep _ _ t bW,ah.cB.fR h aG⟩;refine vt (c:=c) aa aE aA λW y B=>?_;obtain⟨M,j,D,L⟩:=B.at';exact q W (G.Aa ad bW U al y ⟨_,D⟩) (h.bx.trans<|y.bx λaO H=>H) (λK am aw ai f=>y.keep K am (h.keep K am f ai) ai<|by simpa using aw) ⟨M,j,D,L⟩
def cU.keep(t:cU c f i d)(k:∀p n,(¬c p\/p=i)->f.heap.get? p=I n->J.heap.get? p=I n):cU c J i d:=by obtain⟨x,y,q,w⟩:=t;exact⟨x,y,k _ _ (.inr rfl) q,w.mono λp n j g=>k p n (.inl j) g⟩
section
variable{C:bC}{O:b0}{N n:Nat}
def Nt(ae:cf C O N)(ai:N<=c.fuel)(aj:fv O n al aO i=I ds)(am:ds.length<=1000000)(ah:aX C c al σ [] l)(ao:bj C c al aO l)
  (j:∀G,dq al (.Name g h) (.ref G) []=I [(g,aa.ref G)]) 
  (q:∀G J,l.heap.get? G=ag->aX C (c.grow [G]) al (σ.vals [(g,.ref G)]) [] J->cU (c.grow [G]).X J G ds->cu C c [] l J->a1 .next J):
  aB (aK C.prog C.w) c.A (c3 (.Assign [.Name g h] (.List i ap) ac) c.env) a1 a2 l:=by
 have an:ja (.List i ap) (I<|.Name g h) ac.line c.env=bg au:=rfl
 rw[Bv _ _ _ _ _ an]
 refine av<|dc<|av ?_
 rw[Bo]
 refine av<|dc<|av<|((de ae n).jN _ _ _ _ _ _ ao ai aj _).1 l (ak.refl l) ah.cB _ _ λf d V aw=>?_
 refine x3 ?_ (by rw[aw.length,gw];exact aC am z)
 have af:=ah.cB.ext V
 have B:d.heap.get? d.heap.objs.size=ag:=gJ _
 have K:l.heap.get? d.heap.objs.size=ag:=V.old ah.cB B
 have mi:ak C d {d with heap:=d.heap.push {cls:=.type "list",data:=.seq f.toArray}}:=ak.push (ey:=d.toks)
 have F:(d.heap.push {cls:=.type "list",data:=.seq f.toArray}).get? d.heap.objs.size=I ⟨.type "list",ag,.seq ⟨f⟩ 0,#[]⟩:=dE _ rfl
 have k:cU (c.grow [d.heap.objs.size]).X {d with heap:=d.heap.push {cls:=.type "list",data:=.seq f.toArray}} d.heap.objs.size ds:=
  ⟨f,0,F,(aw.more (Y:=(c.grow [d.heap.objs.size]).X) λD T P j=>j.elim id λR=>by
   rw[cm]at R;subst R;rw[B]at P;cases P).mono λD T j P=>mi.keep D T P λad=>j<|.inl<|ah.aT D ad⟩
 have L:=ah.vs (wr:=[d.heap.objs.size]) (V.trans mi) (λD R=>by rw[cm]at R;exact R▸K) (λD R=>by rw[cm]at R;exact⟨_,R▸F⟩)
 rw[show(do fG h;lu c.env g (Bj d.heap.objs.size);bg f':ct mq)=((do fG h;lu c.env g (Bj d.heap.objs.size))>>=λay=>bg .next)by simp[r0]]
 refine av ?_
 rw[<-show gR (.Name g h) c.env (.ref d.heap.objs.size)=(do fG h;lu c.env g (Bj d.heap.objs.size))from arm_assign_Name ..]
 have W:=ah.cB.gm K
 generalize az:d.heap.objs.size=G at*
 generalize({d with heap:=d.heap.push {cls:=.type "list",data:=.seq f.toArray}}:ax)=U at*
 refine L.dq (target:=.Name g h) (.ref G) (j G) λeI M H=>?_
 refine aY<|q G eI K M ?_ ?_
 obtain⟨ar,aA,P,aq⟩:=k
 have kp:∀D T,¬(c.grow [G]).X D\/D=G->U.heap.get? D=I T->eI.heap.get? D=I T:=λD T j P=>H.bx.keep D T P (λad=>j.elim (λas=>as<|.inl<|ah.aT D ad) λq=>W.1<|q▸ad) (λab=>j.elim (λas=>as<|.inl<|ah.bJ D ab) λq=>W.2.2<|ah.bJ _<|q▸ab) nofun
 exact⟨ar,aA,kp _ _ (.inr rfl) P,aq.mono λD T j P=>kp D T (.inl j) P⟩
 exact(V.trans mi).bx.trans (H.bx.f9.cut (λay V=>V) λD R=>by cases R)
def vS{g:bX}:(g.grow b).grow d=(g.grow d).grow b:=by unfold bX.grow;have:(λi=>(g.X i\/i∈b)\/i∈d)=λi=>(g.X i\/i∈d)\/i∈b:=funext λi=>propext ⟨λq=>q.elim (λq=>q.elim (λx=>.inl<|.inl x) .inr) λx=>.inl<|.inr x,λq=>q.elim (λq=>q.elim (λx=>.inl<|.inl x) .inr) λx=>.inl<|.inr x⟩;simp only[this]
noncomputable def rq(i:List (ar×aE×List aa))(w:bQ):bQ:=i.map (λs=>(s.1,.list s.2.2))++w
def aX.lend(ah:aX C (g.grow h) f σ [] l)(O:∀i,C.T i->g.X i)(P:∀i,g.Y i->g.X i)(k:∀n i,g.env.cells.lookup n=I i->g.X i) (D:∀A∈L,σ.lookup A.1=I (.val<|.ref A.2.1)/\¬g.X A.2.1/\cU (g.grow h).X l A.2.1 A.2.2):bj C g f (rq L σ.strict) l:=by
 have y:=ah.f9 O P k;have j:bj C g f σ.strict l:=by have:=y.ok;rwa [nB]at this
 refine{j with names:=λQ d B=>?_};unfold rq at B;induction L with
 |nil=>exact j.names Q d B
 |cons A L N=>
  rw[e4,um,ep]at B;by_cases ae:(Q==A.1)=ab;rw[ae]at B;cases B;rw[bL ae];obtain⟨E,F,R,V,G,H⟩:=D A eB;obtain⟨t,M,w⟩:=j.names A.1 (.ref A.2.1)<|(fB y.keys).mpr E;cases w;exact⟨_,M,.list F G<|H.less λU J=>.inl J⟩;rw[jX]at ae;rw[ae]at B;exact N (λq K=>D q<|eA _ K) B
end
section
variable{C:bC}{N:Nat}
def wk(i:aa)(d:ar)(q:List aa):Option aa:=if d==("split":ar)then(match i,q with
  |.str c,[.str b]=>tR c b
  |_,_=>ag)else mM i d q
def Mg(i:jF):b0:={tJ i with slice:=l6,en:=wk}
def Mh(i:jF)(b:Nat)(h:b0):b0:={E1 i b h with
  slice:=l6
  en:=λa d q=>match a with
   |.obj g s=>ym i h b g s d q
   |a=>wk a d q}
def Ab(i:jF)(b:Nat):Nat->b0|0=>Mg i|k+1=>Mh i b<|Ab i b k
set_option tactic.hygienic true in
def LU:∀i c q d,wk i c q=I d->lA C i c q N d:=by
 intro i c q d j;unfold wk at j;by_cases r:(c==("split":ar))=ab
 ·rw[if_pos r]at j;rw[bL r];cases i<;>try exact nS j
  induction q using a8 with
  |nil=>exact nS j
  |cons p q=>
  cases p<;>try exact nS j
  induction q using a8 with|cons=>exact nS j|nil=>exact aag j
 rw[if_neg r]at j;exact DR i c q d j
def abo(K:j9 C i N y):cf C (Mg i) N:=
 have j:=Ac K
 ⟨j.bin,j.un,j.cmp,j.truth,j.item,λb k j r d f=>(Nm b k j r d f).imp tP id,j.attr,LU,j.call,j.const,j.aug,j.cat,j.move,j.hk,j.range,j.enum,j.zip,j.rev,j.list⟩
set_option tactic.hygienic true in
def abp(K:j9 C i N y)(w:N<=k+1)(x:cf C f k):cf C (Mh i b f) (k+1):=
 have j:=Mj (fuel:=b) K w x
 ⟨j.bin,j.un,j.cmp,j.truth,j.item,λp A j r d n=>(Nm p A j r d n).imp tP id,j.attr,λp B q d n=>by
  cases p;case obj g s=>exact MX K x n
  all_goals exact LU _ B q d n,j.call,j.const,j.aug,j.cat,j.move,j.hk,j.range,j.enum,j.zip,j.rev,j.list⟩
def Mi(K:j9 C i N y):∀k,cf C (Ab i b k) (N+k):=by
 intro k;induction k with
 |zero=>
  exact abo K
 |succ k c=>
  exact abp K (b_ N<|k+1)<|c
set_option tactic.hygienic true in
def adM(j:I4 b=I d):cM C (.type "str") b N d:=by
 induction b using a8 with
 |nil=>exact nS j
 |cons i r=>
 cases i<;>try exact nS j
 induction r using a8 with|cons=>exact nS j|nil=>exact aS j▸TG
def E2{n:Type}{i p:Option n}{m:n}(j:dj i p=some m):i=some m\/p=some m:=by induction i using b7 with|none=>exact .inr j|some c=>exact .inl j
end
section
variable{C:bC}{O:b0}{N n:Nat}{M:List ar}
def bV.app(j:bV C d e (dm i d.env) σ (.next aW))(k:bV C d e (dm f d.env) aW w):bV C d e (dm (i++f) d.env) σ w:=λq l ah A y x=>
 s6 (a:=i) (j q l ah _ _ λm J n t=>k m J n _ _<|x.from n t)
def aeJ{aP t B:List aF}(l:dA C i h g aP)(G:hu h g=ab)(D:y.length=g.length)(x:cf C O N)(P:aP=t++(.Assign [.Tuple m k s] f j::B))(J:xs O (aZ.fn h) M n (cT g y) t=I (.next fC))(ao:fC.pure=ab)(q:bc O n (aZ.fn h) fC.plus f=I (.list b))(H:mY f=ag)(E:er (aZ.fn h) m b []=I w)(K:xs O (aZ.fn h) M n (fC.vals w) B=I (.ret d)):cM C (.ref i) y (N+1) d:=by refine Cv (r:=.ret d) l G D (.inl rfl) λQ L _ _ _=>?_;have A:N<=Q.fuel:=cL L.symm;rw[P];exact(bV.qf (M:=M) x A J).app (bV.cons (adx x A (JU q (by rw[ao];rfl)) H E)<|bV.qf (M:=M) x A K)
end
section
variable{C:bC}
def bC.pin(C:bC)(g:List (aE×cC)):bC where
 prog:=C.prog
 w:=C.w
 T:=C.T
 P:=λi=>C.P i\/∃d,(i,d)∈g
 G:=C.G
 B:=C.B
 ew:=λj=>C.ew j/\∀s∈g,j.get? s.1=I s.2
 lb:=λj y r k=>⟨C.lb j y r.1 λl d q f=>k l d (q.imp id<|Or.imp Or.inl id) f,λs ao=>k _ _ (.inr<|.inl<|.inr ⟨s.2,ao⟩)<|r.2 s ao⟩
 Ag:=λj i r s=>s.elim (λs=>C.Ag j i r.1 s) λ⟨d,c⟩=>⟨d,r.2 _ c⟩
 booked:=λj r=>C.booked j r.1
 w8:=λj r=>C.w8 j r.1
variable{L:List (aE×cC)}
theorem ak.pin(m:ak C l J)(k:∀a∈L,¬C.T a.1):ak (C.pin L) l J:=⟨m.same,m.keep,m.tabs,λr=>⟨m.ok r.1,λa ao=>m.keep _ _ (r.2 a ao)<|k a ao⟩,m.toks⟩
theorem bh.pin(e:bh C c r y l)(j:∀a∈L,l.heap.get? a.1=I a.2):bh (C.pin L) c r y l:=⟨e.handled,e.depth,e.units,e.guards,e.cA,e.aT,⟨e.ok,j⟩,e.tok⟩
theorem b4.pin(e:b4 C m a):b4 (C.pin L) m a:=λj r=>e j r.1
theorem bj.pin(k:bj C g e w l)(h:∀f∈L,¬g.Y f.1):bj (C.pin L) g e w l:=⟨k.sc,k.glob,k.blt,k.aT,k.own,k.cells,k.names,⟨k.loc.kind,k.loc.ns,k.loc.cell,k.loc.apart,k.loc.e1,k.loc.bJ,k.loc.hI,λi j f=>f.elim (k.loc.jt i j) λ⟨d,b⟩=>h _ b j,k.loc.dx,k.loc.pin⟩⟩
end
def df(f:aF):List aF:=(rW f).elim [] (·.2.2.1)
def fy(f:aF):ai:=(rW f).elim h9 (·.1)
def et(f:aF):ai:=(rW f).elim h9 (·.2.1)
def p4(f:aF):a7:=(rW f).elim ⟨0,0,0,0⟩ (·.2.2.2.2)
def p9(f:ai):a7:=((t' f).map (·.2)).getD ((qx f).elim ⟨0,0,0,0⟩ (·.2.2.2))
def gW(y:Nat):aF:=aJ (bw mV) y
def f6(y:Nat):aF:=aJ (df<|gW 1) y
def ph(y:Nat):aF:=aJ (df<|f6 1) y
abbrev br:=Int×Int×Int
noncomputable def aN(s:br):aa:=.tuple [.int s.1,.int s.2.1,.int s.2.2]
noncomputable def fA(s:br)(k:Nat):br:=if k=0 then(s.2.1,s.1,s.2.2)else if k=1 then(s.1,s.2.2,s.2.1)else(s.2.2 -3,s.2.1,s.1+3)
noncomputable def gN(k:Nat):aa:=.str ⟨#[if k=0 then 102 else if k=1 then 105 else 108]⟩
def zL:jF:={zK with fns:=[("_law_step",eY rJ [])]}
def Zv(n:a4)(t:Nat):j9 (az n) zL t (rx n.params):={LI n t with
  fns:=λs l j=>by
   have:(s,l)∈zL.fns:=mem_of_lookup j;rw[show zL.fns=[(bp "_law_step",eY rJ [])]from rfl,cm]at this;cases this;exact⟨_,Kl n,J0 n⟩}
def lE:b0:=E0 zL 20 1
def pM(n:a4)(t:Nat):cf (az n) lE (t+1):=abn (Zv n t) 1
def HI:Nat->b0:=λ_=>lE
def w5(s:br):lE.call "_law_step" [aN s,gN 2]=I (aN<|fA s 2):=z
def ej:aZ:=aZ.fn<|bY mV
def Ff:bt mV=[bp "last"]:=z
def Na:hu (bY mV) (bt mV)=ab:=z
def SS:bw mV=[.Assign [.Name "levels"<|gk<|fo<|gW 0] (.List (ih<|a3<|gW 0)<|p9<|a3<|gW 0)<|eu<|gW 0,.For (fy<|gW 1) (et<|gW 1) (df<|gW 1) []<|p4<|gW 1,.Return (I<|a3<|gW 2)<|eu<|gW 2]:=z
def yE(f:aF):a7×a7:=((pg<|f3 f).bind λx=>(fp x.1).map λy=>(y.2,x.2.2.1)).getD (⟨0,0,0,0⟩,⟨0,0,0,0⟩)
def aah:df (gW 1)=[.Assign [.Name "level"<|gk<|fo<|f6 0] (.List []<|p9<|a3<|f6 0)<|eu<|f6 0,.For (fy<|f6 1) (et<|f6 1) (df<|f6 1) []<|p4<|f6 1,.Expr (.Call (.Attribute (.Name "levels" (yE<|f6 2).1) "append" (yE<|f6 2).2) (bD<|f3<|f6 2) []<|jI<|f3<|f6 2)<|p2<|f6 2]:=z
def cb(k:List br):aa:=.list<|k.map aN
section
variable(last k:Int)(a b:aE)
def Fp:aG:=[("last",.val<|.int last)]
def oI:aG:=(Fp last).vals [("levels",.ref a)]
def vP:aG:=(oI last a).vals [("k",.int k)]
def kY:aG:=(vP last k a).vals [("level",.ref b)]
def adJ:cT (bt mV) [.int last]=Fp last:=by rw[Ff];rfl
def S6:dq ej (.Name "levels"<|gk<|fo<|gW 0) (.ref a) []=I [(bp "levels",aa.ref a)]:=z
def IQ:dq ej (fy<|gW 1) (.int k) []=I ([(bp "k",.int k)]:bQ):=z
def S7:dq ej (.Name "level"<|gk<|fo<|f6 0) (.ref b) []=I [(bp "level",aa.ref b)]:=z
def IS(d:aa):dq ej (fy<|f6 1) d []=I ([(bp "fresh",d)]:bQ):=z
def Vq(w:bQ):fv lE 9 ej w (ih<|a3<|gW 0)=I [cb [],cb [(1,2,3)]]:=z
end
def iS:ai:=et<|f6 1
def vQ:m':=((vE iS).head?).getD ⟨iS,iS,[],1⟩
def Ud:wa iS=ab/\ej.comp (hY iS)=I ((ej.comp<|hY iS).getD ej)/\vE iS=[⟨vQ.target,vQ.iter,[],0⟩]/\(d_ iS).ifs=[]:=⟨z,z,z,z⟩
def yv:aZ:=(ej.comp<|hY iS).getD ej
def jQ(s:br):List br:=[fA s 0,fA s 1,fA s 2]
section
variable(a b:aE)
def Am(d:List aa)(c:List aa)(i k:Int):bQ:=rq [(bp "levels",a,d),(bp "level",b,c)] (kY i k a b).strict
def WK(d c:List aa)(i k:Int)(s:br):kU yv (d_ iS).target (aN s) (h2 (hY iS)<|Am a b d c i k)=I ([(bp "place",aN s)]:bQ):=z
def YN(s:br)(t:Nat):fI lE (t+9) yv [(bp "place",aN s)] vQ.target vQ.iter=I ([0,1,2].map gN):=z
def aer(s:br)(t:Nat):oh lE (t+12) yv [(bp "place",aN s)] (fZ iS) vQ.target [] [] ([0,1,2].map gN)=I ((jQ s).map aN):=z
def Y'(a:(k++[d]).length<=1000000):d3 (.list<|k++[d]) (.int<|-1)=I d:=by
 show((iO (k++[d]).length<|-1).bind λb=>(k++[d])[b]?)=I d;have:iO (k++[d]).length (-1)=I k.length:=by unfold iO qQ;simp;rw[show(-1:Int)+((k.length:Int)+1)=(k.length:Nat)from(AU _ _).trans<|afx _ _];exact⟨⟨iG _,Int.lt_succ _⟩,n5 _⟩
 rw[this];simp
def Za(a:(k++[d,f]).length<=1000000):d3 (.list<|k++[d,f]) (.int<|-2)=I d:=by
 show((iO (k++[d,f]).length<|-2).bind λb=>(k++[d,f])[b]?)=I d;have:iO (k++[d,f]).length (-2)=I k.length:=by unfold iO qQ;simp;rw[show(-2:Int)+((k.length:Int)+2)=(k.length:Nat)from(AU _ _).trans<|afx _ _];exact⟨⟨iG _,Int.lt_add_of_pos_right _<|by decide⟩,n5 _⟩
 rw[this];simp
def YL(d c:List aa)(i k:Int)(t:Nat):fI lE (t+9) ej (Am a b d c i k) (d_ iS).target (d_ iS).iter=(d3 (.list d)<|.int<|-1).bind (yj (d_ iS).target):=z
def Uv(e:(pre++[cb tl]).length<=1000000)(q:tl.length<=300000):aj HI ej (Am a b (pre++[cb tl]) DA last k) iS (.list<|(tl.flatMap jQ).map aN):=by
 obtain⟨j,y,n,f⟩:=Ud;refine aj.comp (sD:=yv) j y (ds:=tl.map aN) (a5.of 9 λd t=>(YL ..).trans (by rw[Y' e];rfl)) ?_ ?_;rw[n,f,List.map_flatMap];exact gU.flat aN (λs=>(jQ s).map aN) tl λs _=>⟨_,_,WK ..,gc.nil,a5.of 9 λd t=>YN s t,a5.of 12 λd t=>aer s t⟩;rw[eT];have:∀c:List br,(c.flatMap jQ).length=3*c.length:=λc=>by induction c with|nil=>rfl|cons a c g=>rw[xq,hx,g,gx];show 3+_=_;exact fU _ _
 rw[this];exact aC (kJ 3 q) (by decide)
def uh:ai:=a3<|ph 0
def Fl(d c:List aa)(i k:Int)(s:aa):bQ:=rq [(bp "levels",a,d),(bp "level",b,c)] (aG.vals (kY i k a b) [("fresh",s)]).strict
def aeo(e c:List aa)(i k:Int)(s:aa)(t:Nat):fW lE (t+12) ej (Fl a b e c i k s) uh=(((d3 (.list e)<|.int<|-2).bind λd=>(lB s d).map (!·)).bind λm=>if m then((lB s<|.list c).map (!·)).bind λg=>if g then I ab else I au else I au):=z
def Qd(a b:br):dQ 8 (aN a) (aN b)=I (decide (a=b)):=by have j:dQ 8 (aN a) (aN b)=I ((a.1==b.1)&&((a.2.1==b.2.1)&&((a.2.2==b.2.2)&&ab))):=rfl;rw[j];congr 1;obtain⟨c9,dp,gh⟩:=a;obtain⟨n,t,w⟩:=b;by_cases g:c9=n<;>by_cases q:dp=t<;>by_cases e:gh=w<;>simp[g,q,e]
def Un(s:br):∀b:List br,nx (aN s) (b.map aN)=I (b.filter λa=>decide (a=s)).length:=by
 intro b;induction b with
 |nil=>
  exact rfl
 |cons a b c=>
  exact by rw[e4];show((dQ 8 (aN a)<|aN s).bind λk=>(nx (aN s)<|b.map aN).map λy=>if k then y+1 else y)=_;rw[Qd,c,kG];by_cases j:a=s<;>simp[j]
def nG(s:br)(k:List br):lB (aN s) (.list<|k.map aN)=I (k.contains s):=by show(nx (aN s)<|k.map aN).map (λ(y:Nat)=>y !=0)=_;rw[Un];show I _=I _;congr 1;rw[ui];simp only[bne_iff_ne,ne_eq,OK,OG,decide_eq_true_eq,iH];constructor;intro j;by_cases q:s∈k;exact q;exact absurd (λa p(b:a=s)=>q<|b▸p) j;exactλj q=>q s j rfl
def aep{pre DA:List aa}{dh cur:List br}{eF:aa}(s:br)(j:(pre++[cb dh,eF]).length<=1000000):bS HI ej (Fl a b (pre++[cb dh,eF]) (cur.map aN) last k<|aN s) uh (!dh.contains s&&!cur.contains s):=by refine a5.of 12 λl t=>(aeo ..).trans ?_;rw[Za j,c'];show((((lB (aN s)<|.list<|dh.map aN).map (!·))).bind _)=_;rw[nG,nG];cases dh.contains s<;>cases cur.contains s<;>rfl
end
noncomputable def kx(c:List br):List br->List br->List br|a,[]=>a|a,s::b=>kx c (if !c.contains s&&!a.contains s then a++[s]else a) b
def fl:Nat->List (List br)×List br×List br|0=>([],[],[(1,2,3)])|i+1=>((fl i).1++[(fl i).2.1],(fl i).2.2,kx (fl i).2.1 []<|(fl i).2.2.flatMap jQ)
structure sv(w:World)(c:bX)(a b:Addr):Prop where
 ne:a≠b
 h7:¬c.X a
 n3:¬c.X b
 wC:¬(az w).P a
 Ms:¬(az w).P b
 aT:∀d,(az w).T d->c.X d
 bJ:∀d,c.Y d->c.X d
 cI:∀n d,c.env.cells.lookup n=some d->c.X d
section
variable{w:a4}{c:bX}{a b:aE}
theorem sv.grow(l:sv w c a b)(p:a∉wr)(j:b∉wr):sv w (c.grow wr) a b:=⟨l.ne,λq=>q.elim l.h7 p,λq=>q.elim l.n3 j,l.wC,l.Ms,λd r=>.inl<|l.aT d r,λd h=>.inl<|l.bJ d h,λg d f=>.inl<|l.cI g d f⟩
def ZV:df (f6 1)=[.If uh [.Expr (.Call (.Attribute (.Name "level" (yE<|aJ (c5<|ph 0) 0).1) "append" (yE<|aJ (c5<|ph 0) 0).2) (bD<|f3<|aJ (c5<|ph 0) 0) []<|jI<|f3<|aJ (c5<|ph 0) 0)<|p2<|aJ (c5<|ph 0) 0] []<|eu<|ph 0]:=z
def Ie:ai:=((bD<|f3<|aJ (c5<|ph 0) 0).head?).getD uh
def RQ:bD (f3<|aJ (c5<|ph 0) 0)=[Ie]:=z
def RP(i k:Int)(a b:aE)(s:aa):bc lE 9 ej (aG.vals (kY i k a b) [("fresh",s)]).plus Ie=I s:=z
def aez{eF:aa}(C:sv w c a b)(ah:aX (az w) (c.grow [a,b]) ej ((kY i k a b).vals [("fresh",aN B)]) [] D)(ac:cU (c.grow [a,b]).X D a (x++[cb r,eF]))(ad:cU (c.grow [a,b]).X D b (j.map aN))(an:(x++[cb r,eF]).length<=1000000)(al:j.length<=1000000)(ab:1<=c.fuel)(q:∀J,aX (az w) (c.grow [a,b]) ej ((kY i k a b).vals [("fresh",aN B)]) [] J->cU (c.grow [a,b]).X J a (x++[cb r,eF])->cU (c.grow [a,b]).X J b ((if !r.contains B&&!j.contains B then j++[B]else j).map aN)->cu (az w) (c.grow [a,b]) [a,b] D J->a2 .next J):aB (aK cy w) c.A (dm (df<|f6 1) c.env) a2 bd D:=by
 rw[ZV];have as:bj (az w) c ej (Fl a b (x++[cb r,eF]) (j.map aN) i k<|aN B) D:=ah.lend C.aT C.bJ C.cI (L:=[(bp "levels",a,_),(bp "level",b,_)]) λax ao=>by rcases cJ.mp ao with rfl|ao;exact⟨z,C.h7,ac⟩;rw[cm]at ao;subst ao;exact⟨z,C.n3,ad⟩
 have U:=ah.f9 C.aT C.bJ C.cI;obtain⟨aq,ap⟩:=aep a b (pre:=x) (cur:=j) (eF:=eF) (last:=i) (k:=k) (dh:=r) (DA:=[]) B an;refine d6<|uR<|(de (pM w 0) aq).jM ej _ uh _ c D as ab (ap aq aq (bM _)<|bM _) D (ak.refl D) U.cB _ _ λM G=>?_;have I:∀{d:aE}{a1:List aa},cU (c.grow [a,b]).X D d a1->(d=a\/d=b)->cU (c.grow [a,b]).X M d a1:=λau am=>au.keep λT ar N aj=>G.keep T ar aj λS=>N.elim (λO=>O<|.inl<|C.aT T S) λO=>am.elim (λH=>C.h7<|C.aT _<|H▸O▸S) λH=>C.n3<|C.aT _<|H▸O▸S;have P:=I ac<|.inl rfl;have R:=I ad<|.inr rfl;have K:=ah.ext G;induction af:(!r.contains B&&!j.contains B)using cq with
 |false=>
  rw[af]at q;exact hc<|hc<|q M K P R G.bx
 |true=>
  rw[af]at q;rw[RQ];have Y:(c.grow [a,b]).X a/\(c.grow [a,b]).X b:=⟨.inr (by simp),.inr<|by simp⟩;refine d6 (adv (c:=c.grow [a,b]) (pM w 0) ab z z z (RP i k a b<|aN B) (by simpa using al) K R Y.2 (λS=>C.n3<|C.aT _ S) C.Ms (λH=>C.n3<|C.bJ _ H) (λav T=>C.n3<|C.cI av _ T) λW V ai ag ae=>hc<|hc<|q W V ?_ ?_ ?_);exact P.keep λT ar N aj=>ag T ar (λO=>N.elim (λH=>H<|O▸Y.2) λH=>C.ne<|H.symm.trans O) (λS=>N.elim (λO=>O<|.inl<|C.aT T S) λH=>C.h7<|C.aT _<|H▸S) aj;rw[if_pos rfl,kH];exact ae;exact G.bx.trans (ai.cut (λaw H=>H) λd w=>.inl (by rw[cm]at w;rw[w];simp))
def abE(b:List br)(s:br):∀(k a:List br),kx b a (k++[s])=if !b.contains s&&!(kx b a k).contains s then kx b a k++[s]else kx b a k:=by
 intro k;induction k with
 |nil=>
  exact @λa=>rfl
 |cons e k c=>
  exact @λa=>c _
def Wq:∀k:List br,gH (k.map aN)=ab:=by
 intro k;induction k with
 |nil=>
  exact rfl
 |cons s k c=>
  exact by rw[e4];show(fu (aN s)&&gH (k.map aN))=ab;rw[c];rfl
set_option tactic.hygienic true in
def Jb(Q:Rz c.X g.heap t (.list<|f.map aN))(n:f≠[])(J:cU h g a (cb k::e))(j:cU h g b []):Rz (c.grow [a,b]).X g.heap t (.list<|f.map aN):=by
 obtain⟨R,N,D,y⟩:=J;obtain⟨S,O,E,L⟩:=j;cases Q;rename_i i T U I A C;have G:i≠a:=λq=>by
  subst q;rw[A]at D;cases D;cases f with
  |nil=>exact n rfl
  |cons P f=>
   cases C;rename_i w C;cases y;rename_i K y;cases w;rename_i M _;cases K;rename_i F _;rename_i F;simp_all
 have H:i≠b:=λq=>by subst q;rw[A]at E;cases E;cases L;cases f with|nil=>exact n rfl|cons P f=>cases C
 refine .list (λq=>q.elim I λx=>?_) A (J_ (Z:=(·∈[a,b])) (DC λd B=>?_) (Wq f) C);rcases cJ.mp x with x|x;exact G x;exact H<|cm.mp x;rcases cJ.mp B with rfl|B;exact⟨_,_,D⟩;rw[cm]at B;subst B;exact⟨_,_,E⟩
theorem cU.more(j:cU g f d i)(k:∀a b,f.heap.get? a=I b->Y a->g a):cU Y f d i:=by obtain⟨x,c,a,w⟩:=j;exact⟨x,c,a,w.more k⟩
def BV(a b:aE)(qW:List aa)(r:List br)(d:List br)(e:Nat)(c:aE->Prop)(l:ax):Prop:=cU c l a qW/\cU c l b ((kx r []<|d.take e).map aN)
def Yp{qW:List aa}:sA (BV a b qW r s) [a,b]:=λj k=>
 ⟨j.1.keep λf d i c=>k f d (i.imp id λq=>by rw[q];simp) c,j.2.keep λf d i c=>k f d (i.imp id λq=>by rw[q];simp) c⟩
def Yq{qW:List aa}:sC (BV a b qW r s):=λj k=>⟨j.1.more k,j.2.more k⟩
def abF(a:List br):∀k q:List br,(kx a q k).length<=q.length+k.length:=by
 intro k;induction k with
 |nil=>
  exact @λq=>bM _
 |cons s k c=>
  exact @λq=>by show(kx a (if _ then q++[s]else q) k).length<=q.length+(k.length+1);refine aC (c _) ?_;split;rw[hx];show q.length+1+k.length<=_;exact cL<|ef _ _ _;exact lp _
def adX{i k:Int}{s:aa}:∀m t,(kY i k a b).lookup m=I t->((kY i k a b).vals [("fresh",s)]).lookup m=I t:=rT λc ao=>by rw[cm]at ao;subst ao;rfl
def ZP{B:List (List br)}(C:sv w c a b)(ah:aX (az w) (c.grow [a,b]) ej (kY G k a b) [] al)(V:cU (c.grow [a,b]).X al a (B.map cb++[cb D,cb j]))(W:cU (c.grow [a,b]).X al b [])(an:(B.map cb++[cb D,cb j]).length<=1000000)(aj:j.length<=300000)(ap:j≠[])(ak:1<=c.fuel)(q:∀J,aX (az w) (c.grow [a,b]) ej (kY G k a b) [] J->cU (c.grow [a,b]).X J a (B.map cb++[cb D,cb j])->cU (c.grow [a,b]).X J b ((kx D []<|j.flatMap jQ).map aN)->cu (az w) (c.grow [a,b]) [a,b] al J->a1 .next J):aB (aK cy w) c.A (c3 (.For (fy<|f6 1) (et<|f6 1) (df<|f6 1) []<|p4<|f6 1) c.env) a1 a2 al:=by
 have ae:∀H:List br,(H.flatMap jQ).length=3*H.length:=λH=>by induction H with|nil=>rfl|cons a H aG=>rw[xq,hx,aG,gx];show 3+_=_;exact fU _ _
 have ab:j.flatMap jQ≠[]:=λU=>by have:=ae j;rw[U]at this;cases j with|nil=>exact ap rfl|cons a H=>simp at this
 have aL:bj (az w) c ej (Am a b (B.map cb++[cb D,cb j]) [] G k) al:=ah.lend C.aT C.bJ C.cI (L:=[(bp "levels",a,_),(bp "level",b,_)]) λaY ao=>by rcases cJ.mp ao with rfl|ao;exact⟨z,C.h7,V⟩;rw[cm]at ao;subst ao;exact⟨z,C.n3,W⟩
 have af:=ah.f9 C.aT C.bJ C.cI;obtain⟨aH,aD⟩:=Uv a b (pre:=B.map cb++[cb D]) (DA:=[]) (tl:=j) (last:=G) (k:=k) (by simpa using an) aj;have ac:=aD aH aH (bM _)<|bM _;rw[i9]at ac;have aF:bq (az w) (c.grow [a,b]) (et<|f6 1) al (.list<|(j.flatMap jQ).map aN):=λM S aP ax av Y=>
  (de (pM w 0) aH).cW ej _ iS _ c al aL ak ac M S (af.cB.ext S) _ _ λaV N T au=>Y aV N T (by
   have mi:=S.trans T;have kp:∀{d:aE}{H:List aa},cU (c.grow [a,b]).X al d H->(d=a\/d=b)->cU (c.grow [a,b]).X N d H:=λaR O=>aR.keep λU aU ay aP=>mi.keep U aU aP λai=>ay.elim (λT=>T<|.inl<|C.aT U ai) λT=>O.elim (λS=>C.h7<|C.aT _<|S▸T▸ai) λS=>C.n3<|C.aT _<|S▸T▸ai;have P:=kp V<|.inl rfl;have R:=kp W<|.inr rfl;cases B with
   |nil=>exact Jb au ab P R
   |cons d B=>exact Jb au ab P R)
 refine tU (c:=c.grow [a,b]) (σs:=λ_=>kY G k a b) (Inv:=BV a b (B.map cb++[cb D,cb j]) D<|j.flatMap jQ) (oq:=[a,b]) (dN.list aF) (λaZ=>rfl) (λas aA=>z) (λas d O=>⟨_,IS d⟩) Yp Yq (λd O=>?_) ah ⟨V,W⟩ (λZ aq as d aW M O ad K I ax av Y=>?_) λM K I aM=>?_;have:d=a\/d=b:=by simpa using O
 rcases this with rfl|rfl;exact⟨.inr (by simp),λai=>C.h7<|C.aT _ ai,λS=>C.h7<|C.bJ _ S⟩;exact⟨.inr (by simp),λai=>C.n3<|C.aT _ ai,λS=>C.n3<|C.bJ _ S⟩;rw[m5,xD]at O;obtain⟨aQ,am,rfl⟩:=O;rw[IS]at ad;cases ad;have aI:a∉Z:=λT=>by obtain⟨aO,aS,U,au⟩:=V;rw[aq a T]at U;cases U
 have aJ:b∉Z:=λT=>by obtain⟨aO,aS,U,au⟩:=W;rw[aq b T]at U;cases U
 have aw:=C.grow (wr:=Z) aI aJ;rw[vS]at K I Y;have aA:as<(j.flatMap jQ).length:=(m4.mp am).1;have ao:=abF D ((j.flatMap jQ).take as) [];refine aez (c:=c.grow Z) aw K I.1 I.2 an (aC ao<|aC (cL<|g9 _)<|aC (List.length_take_le' _ _)<|aC (cL<|ae j)<|aC (kJ 3 aj)<|by decide) ak λN ag P R ar=>?_;refine Y N (ag.sub adX z) ⟨P,?_⟩ ar;rw[List.take_add_one,am];show cU _ _ _ ((kx D []<|_++[aQ]).map aN);rw[abE];exact R;refine q M K I.1 ?_ aM;have:=I.2;rwa [eT,af2<|bM _]at this
structure uY(w:World)(c:bX)(a:Addr):Prop where
 h7:¬c.X a
 wC:¬(az w).P a
 aT:∀d,(az w).T d->c.X d
 bJ:∀d,c.Y d->c.X d
 cI:∀n d,c.env.cells.lookup n=some d->c.X d
theorem uY.grow(l:uY w c a)(p:a∉wr):uY w (c.grow wr) a:=⟨λq=>q.elim l.h7 p,l.wC,λd r=>.inl<|l.aT d r,λd b=>.inl<|l.bJ d b,λg d f=>.inl<|l.cI g d f⟩
def Ic:ai:=((bD<|f3<|f6 2).head?).getD uh
def RO:bD (f3<|f6 2)=[Ic]:=z
def RN(i k:Int)(a b:aE)(c:List aa):bc lE 9 ej (rq [(bp "level",b,c)] (kY i k a b).strict) Ic=I (.list c):=z
def C':(c.grow [a]).grow [b]=c.grow [a,b]:=(Xq (V:=[a]) (W:=[b])).symm
def adW{i k:Int}:∀m t,(oI i a).lookup m=I t->(kY i k a b).lookup m=I t:=λm t f=>
 rT (σ:=vP i k a) (aO:=[("level",.ref b)]) (λs ao=>by rw[cm]at ao;subst ao;rfl) m t (rT (σ:=oI i a) (aO:=[("k",.int k)]) (λs ao=>by rw[cm]at ao;subst ao;rfl) m t f)
def acH(C:uY w c a)(ah:aX (az w) (c.grow [a]) ej (vP i k a) [] al)(ap:cU (c.grow [a]).X al a (B.map cb++[cb j,cb f]))(as:(B.map cb++[cb j,cb f]).length<=1000000)(aA:f.length<=300000)(au:f≠[])(ag:1<=c.fuel)(q:∀J,aX (az w) (c.grow [a]) ej (oI i a) [] J->cU (c.grow [a]).X J a ((B++[j]).map cb++[cb f,cb<|kx j []<|f.flatMap jQ])->cu (az w) (c.grow [a]) [a] al J->a1 .next J):aB (aK cy w) c.A (dm (df<|gW 1) c.env) a1 be al:=by
 rw[aah];have aF:bj (az w) (c.grow [a]) ej (vP i k a).strict al:=by have:=ah.ok;rwa [nB]at this
 refine d6<|Nt (c:=c.grow [a]) (n:=9) (pM w 0) ag (aO:=(vP i k a).strict) (ds:=[]) z (dV _) ah aF (λb=>S7 b) λb fg G O U ac=>?_;have mr:∀{d:aE}{bd:List aa}{a2:aE->Prop},cU a2 al d bd->d≠b:=λaJ N=>by obtain⟨aL,aI,am,aQ⟩:=aJ;rw[N,G]at am;cases am
 have ai:a≠b:=mr ap;have af:=ah.cB.gm G;have R:cU ((c.grow [a]).grow [b]).X fg a (B.map cb++[cb j,cb f]):=by refine(ap.more (Y:=((c.grow [a]).grow [b]).X) λN aD an K=>K.elim id λM=>by rw[cm]at M;rw[M,G]at an;cases an).keep λN aD K an=>?_;exact ac.keep N aD an (λW=>K.elim (λM=>M<|.inl<|.inl<|C.aT N W) λM=>C.h7<|C.aT _<|M▸W) (λH=>K.elim (λM=>M<|.inl<|.inl<|C.bJ N H) λM=>C.h7<|C.bJ _<|M▸H) nofun
 rw[C']at O R U;have ax:sv w c a b:=⟨ai,C.h7,λaM=>af.2.2<|.inl aM,C.wC,af.2.1,C.aT,C.bJ,C.cI⟩;refine d6<|ZP ax O R U as aA au ag λb8 D aq V ad=>?_;rw[RO];rw[<-C']at D V;have ab:∀d,(az w).T d->(c.grow [a]).X d:=λd W=>.inl<|C.aT d W;have ae:∀d,(c.grow [a]).Y d->(c.grow [a]).X d:=λd H=>.inl<|C.bJ d H;have P:∀aC d,(c.grow [a]).env.cells.lookup aC=I d->(c.grow [a]).X d:=λaC d N=>.inl<|C.cI aC d N;have av:bj (az w) (c.grow [a]) ej (rq [(bp "level",b,(kx j []<|f.flatMap jQ).map aN)] (kY i k a b).strict) b8:=D.lend ab ae P (L:=[(bp "level",b,_)]) λaP ao=>by rw[cm]at ao;subst ao;exact⟨z,af.2.2,V⟩
 have aj:=D.f9 ab ae P;have ar:cU (c.grow [a]).X b8 a (B.map cb++[cb j,cb f]):=aq.more λN aD an K=>K.imp id λM=>by rw[cm]at M;rw[M];simp
 have aG:(c.grow [a]).X a:=.inr (by simp);refine d6<|adt (c:=c.grow [a]) (pM w 0) ag z z z (RN i k a b<|(kx j []<|f.flatMap jQ).map aN) as aj av ar aG (λW=>C.h7<|C.aT _ W) C.wC (λH=>C.h7<|C.bJ _ H) (λaI N=>C.h7<|C.cI aI _ N) λgS ak aw aH S=>hc<|q gS (ak.sub adW z) ?_ ?_;rw[i9]at S;rw[kH,i9];exact S;rw[<-C']at ad;have W:cu (az w) (c.grow [a]) [a,b] al gS:=((ac.cut (λay H=>H) λd w=>by cases w).trans<|ad.f9.cut (λay H=>H) λd w=>.inl w).trans (aw.cut (λay H=>H) λd w=>.inl (by rw[cm]at w;rw[w];simp));exact W.cut (λay H=>H) λd w=>by
  have w:d=a\/d=b:=by simpa using w
  exact w.elim (λq=>.inl (by rw[q];simp)) λq=>.inr (by rw[q];exact G)
def we(y:Nat):List aa:=(fl y).1.map cb++[cb (fl y).2.1,cb (fl y).2.2]
def BS(a:aE)(y:Nat)(c:aE->Prop)(l:ax):Prop:=cU c l a<|we y
def Yl:sA (BS a) [a]:=λj k=>cU.keep j λf d i b=>k f d (i.imp id λq=>by rw[q];simp) b
def Ym:sC (BS a):=λj k=>cU.more j k
def YV(i:Int)(a:aE)(t:Nat):fI lE (t+9) ej (oI i a).strict (fy<|gW 1) (et<|gW 1)=gZ [.int i]:=z
def MI(i:Int)(a:aE)(k:List aa):bQ:=rq [(bp "levels",a,k)] (oI i a).strict
def acA(i:Int)(a:aE)(k:List aa):bc lE 9 ej (MI i a k) (a3<|gW 2)=o_ (.list k) (.int 1) .none .none:=z
def acm(k:Int)(j:dq ej (fy<|gW 1) (.int k) []=I d):d=[(bp "k",aa.int k)]:=by rw[IQ]at j;exact(GB j).symm
def zJ(c:Nat):aa:=.list<|(we c).drop 1
set_option tactic.hygienic true in
def K'(j:gZ [.int m]=I f){y:Nat}(a:f[y]?=I d):∃k,d=.int k:=by have b:=cj<|show(if kz 0 m 1 then I (jr 0 1 (jz 0 m 1).toNat)else ag)=I f from j;rw[<-b.2]at a;simp only[jr,m5,xD]at a;obtain⟨k,_,b⟩:=a;exact⟨_,b.symm⟩
def Zr(w:a4)(T:gZ [.int f]=I h)(j:∀P,P<=h.length->(fl P).1.length<=100000/\(fl P).2.2.length<=300000/\(fl P).2.2≠[])(as:o_ (.list<|we h.length) (.int 1) .none .none=I (zJ h.length)):cM (az w) (.ref 257) [.int f] (N+2) (zJ h.length):=by
 intro aO aL aS aA an ad aN aM q;refine ta (C:=az w) (N:=N+1) (J2 w) Na (by rw[ad.length,Ff];rfl) an λc K M am=>?_;have ah:=M.sim Na (by rw[Ff];rfl) an ad;rw[adJ]at ah;have O:1<=c.fuel:=by rw[M.fuel];exact dU 1 N
 rw[SS];have aw:bj (az w) c ej (Fp f).strict K:=by have:=ah.ok;rwa [nB]at this
 refine d6<|Nt (n:=9) (pM w 0) O (Vq _) z ah aw S6 λa b8 S J R ae=>?_;have U:=ah.cB.gm S;have l:uY w c a:=⟨U.2.2,U.2.1,M.good.aT,λd aj=>ah.bJ d aj,λaG d al=>ah.cI aG d al⟩;have aa:bj (az w) (c.grow [a]) ej (oI f a).strict b8:=by have:=J.ok;rwa [nB]at this
 refine d6<|tU (c:=c.grow [a]) (σs:=λ_=>oI f a) (Inv:=BS a) (oq:=[a]) ((de (pM w 0) 9).s9 ej (oI f a).strict (fy<|gW 1) (et<|gW 1) h (c.grow [a]) b8 aa O<|(YV f a 0).trans T) (λaE=>z) (λP W=>z) (λP d D=>?_) Yl Ym (λd D=>?_) J R (λai au P d aK cP D Y B H aF am ac=>?_) λcP B H ay=>?_;obtain⟨k,rfl⟩:=K' T D;exact⟨_,IQ k⟩;rw[cm]at D;subst D;exact⟨.inr (by simp),λaH=>l.h7<|l.aT _ aH,λaj=>l.h7<|l.bJ _ aj⟩;obtain⟨k,rfl⟩:=K' T D;have:=acm k Y;subst this;have W:P<h.length:=(m4.mp D).1;obtain⟨ap,aq,ar⟩:=j P<|c2 W;have av:a∉ai:=λaJ=>by obtain⟨aA,aQ,al,aD⟩:=R;rw[au a aJ]at al;cases al
 rw[vS]at B H ac;exact acH (c:=c.grow ai) (l.grow av) B H (by rw[hx,eT];show _+2<=_;exact aC (jv ap 2)<|by decide) aq ar O λgS G V af=>ac gS G V af;have G:=B.f9 l.aT l.bJ l.cI;have ab:bj (az w) c ej (MI f a<|we h.length) cP:=B.lend l.aT l.bJ l.cI (L:=[(bp "levels",a,_)]) λaR ao=>by rw[cm]at ao;subst ao;exact⟨z,l.h7,H⟩
 refine d6<|x1<|(de (pM w 0) 9).cW _ _ _ _ c cP ab O ((acA f a _).trans as) cP (ak.refl cP) G.cB _ _ λaI j8 aB aD=>?_;have ag:cu (az w) c [a] K j8:=((ae.cut (gV:=[a]) (λaP aj=>aj) λb w=>by cases w).trans ay.f9).trans aB.bx;obtain⟨aE,ax⟩:=M.leave an (gV:=[a]) ⟨ag,λb j=>.inr (by rw[cm]at j;rw[j];exact S),λb j=>by cases j⟩ aD;exact q aI j8 aE ax
end
noncomputable def af(k:Nat):aa:=.int ((k:Nat):Int)
noncomputable def D0:List aa->Option (List Nat)|[]=>I []|.int (.ofNat i)::w=>(D0 w).map (i::·)|_::_=>ag
set_option tactic.hygienic true in
def aaw:∀{k:List aa}{t:List Nat},D0 k=I t->k=t.map af:=by
 intro k;induction k with
 |nil=>
  exactλj=>aS j▸rfl
 |cons d w c=>
  exactλj=>by
   cases d<;>try exact nS j
   rename_i y;cases y with|negSucc=>exact nS j|ofNat b=>exact eH j λq n f=>f▸congrArg (_::·) (c n)
def yg:List aa->Option aa|[.str ⟨⟨[g]⟩⟩]=>I (.bool<|ou.contains (g:Int))|_=>ag
def Dg:List aa->Option aa|[.str ⟨⟨[g]⟩⟩]=>lX g|_=>ag
def KL:List aa->Option aa|[.int<|.ofNat i,.int<|.ofNat y]=>if bG 1 y&&bG y 10000&&bG (fS y i) 200 then I (.list<|d2<|vK y i)else ag|_=>ag
def KH:List aa->Option aa|[.list k,.int<|.ofNat y]=>(D0 k).bind λt=>if bG 1 y&&bG y 10000&&bG t.length 200&&t.all λd=>qB d (2^10000)then I (.int (gj y t:Nat))else ag|_=>ag
def kl:List aa->Option aa|[.str m]=>t8 m|_=>ag
def Zm(c:Nat):Bool:=(bO<|c+1).all λy=>bG (fl y).1.length 100000&&bG (fl y).2.2.length 300000&&!(fl y).2.2.isEmpty
def vV:List aa->Option aa|[.int m]=>(gZ [.int m]).bind λq=>if bG q.length 6 then I (zJ q.length)else ag|_=>ag
def oM:List (ar×(List aa->Option aa)):=[("in_table_b1",yg),("map_table_b3",Dg),("_int2digits",KL),("_digits2int",KH),("Whitespace",kl),("_law_levels",vV),("max",λq=>dj (mC q)<|mD q),("min",λq=>dj (q3 q)<|q4 q),("str",I4)]
def k0(s:ar)(q:List aa):Option aa:=(oM.lookup s).bind λj=>j q
def ra:List (ar×uW):=[("_div2n1n",eY w2 []),("_div3n2n",eY wV []),("_divmod_pos",eY wW ["q_digits"]),("int_divmod",eY wX []),("rgb_to_hls",eY l7 []),("hls_to_rgb",eY l8 []),("_v",eY l9 []),("rgb_to_hsv",eY l_ []),("hsv_to_rgb",eY l' []),("_law_typed",eY ma ["codes"]),("_law_step",eY rJ []),("_law_word",eY wY []),("_law_corners",eY wZ []),("_law_leads",eY w0 []),("_law_column",eY mc [])]
def zY:List (ar×uW):=[("longest_run_of_spaces",eY me []),("indent_level",eY mf []),("less",eY w1 []),("not_less_witness",eY mg ["a"])]
def BO(l:Nat):jF:={fns:=ra,oT:=zY,attrs:=["raw","n","nt","norm","is_simple"],cls:=83,hand:=k0,di:=λ_ _ _=>ag,const:=λm=>vF.lookup m,hk:=zg}
inductive BK:List aa->Prop
 |mk {c}:BK [.str ⟨⟨[c]⟩⟩]
set_option tactic.hygienic true in
def Xz(j:yg b=I d):BK b:=by
 induction b using a8 with
 |nil=>exact nS j
 |cons i r=>
 cases i<;>try exact nS j
 rename_i m;obtain⟨⟨k⟩⟩:=m;induction k using a8 with
 |nil=>exact nS j
 |cons g k=>
 induction k using a8 with
 |cons=>exact nS j
 |nil=>
 induction r using a8 with|cons=>exact nS j|nil=>exact .mk
set_option tactic.hygienic true in
def XB(j:Dg b=I d):BK b:=by
 induction b using a8 with
 |nil=>exact nS j
 |cons i r=>
 cases i<;>try exact nS j
 rename_i m;obtain⟨⟨k⟩⟩:=m;induction k using a8 with
 |nil=>exact nS j
 |cons g k=>
 induction k using a8 with
 |cons=>exact nS j
 |nil=>
 induction r using a8 with|cons=>exact nS j|nil=>exact .mk
inductive HV:List aa->Prop
 |mk {a n:Nat}:HV [.int<|.ofNat a,.int<|.ofNat n]
set_option tactic.hygienic true in
def Xy(j:KL c=I d):HV c:=by
 induction c using a8 with
 |nil=>exact nS j
 |cons e r=>
 cases e<;>try exact nS j
 rename_i y;cases y with
 |negSucc=>exact nS j
 |ofNat e=>
 induction r using a8 with
 |nil=>exact nS j
 |cons p r=>
 cases p<;>try exact nS j
 rename_i y;cases y with
 |negSucc=>exact nS j
 |ofNat f=>
 induction r using a8 with|cons=>exact nS j|nil=>exact .mk
inductive HF:List aa->Prop
 |mk {l} {n:Nat}:HF [.list l,.int<|.ofNat n]
set_option tactic.hygienic true in
def Xv(j:KH c=I d):HF c:=by
 induction c using a8 with
 |nil=>exact nS j
 |cons e r=>
 cases e<;>try exact nS j
 induction r using a8 with
 |nil=>exact nS j
 |cons p r=>
 cases p<;>try exact nS j
 rename_i y;cases y with
 |negSucc=>exact nS j
 |ofNat f=>
 induction r using a8 with|cons=>exact nS j|nil=>exact .mk
inductive HQ:List aa->Prop
 |mk {x}:HQ [.str x]
def XD(j:kl b=I d):HQ b:=by
 induction b using a8 with
 |nil=>exact nS j
 |cons i r=>
 cases i<;>try exact nS j
 induction r using a8 with|cons=>exact nS j|nil=>exact .mk
def Zn:Zm 6=ab:=by decide+kernel
def Zp(r:c<=6)(g:y<=c):(fl y).1.length<=100000/\(fl y).2.2.length<=300000/\(fl y).2.2≠[]:=by have j:=bZ.mp Zn y (ee.mpr<|by exact cH o<|cH o<|by decide);simp only[c0,h_,ez,List.isEmpty_eq_false_iff]at j;exact⟨j.1.1,j.1.2,j.2⟩
def Zq(r:c<=6):o_ (.list<|we c) (.int 1) .none .none=I (zJ c):=by rcases c with _|_|_|_|_|_|_|c;kernel_rfl;kernel_rfl;kernel_rfl;kernel_rfl;kernel_rfl;kernel_rfl;kernel_rfl;exact absurd r<|m_.mpr<|dU 7 c
inductive HC:List aa->Prop
 |mk {x}:HC [.int x]
def XA(j:vV b=I d):HC b:=by
 induction b using a8 with
 |nil=>exact nS j
 |cons i r=>
 cases i<;>try exact nS j
 induction r using a8 with|cons=>exact nS j|nil=>exact .mk
def KU(A:a4)(y:201<=t):∀s q d,k0 s q=I d->∃D,b4 (az A) s D/\ei (az A) D/\cM (az A) D q t d:=by
 have x:∀{e:aE}{g:gQ}{n:List ar}{aP:List aF},dA (az A) e g n aP->ei (az A) (.ref e):=λQ=>ei.fn λj O=>by obtain⟨W,H,E,G,X⟩:=Q.cls j O;exact⟨W,H,E,G⟩
 have U:0+1<=t:=by exact aC (dU _ _) o
 have all:∀P∈oM,∃D,b4 (az A) P.1 D/\ei (az A) D/\∀q d,P.2 q=I d->cM (az A) D q t d:=by refine a6 ⟨_,W3 A,x<|JY A,λq d j=>?_⟩<|a6 ⟨_,W5 A,x<|JZ A,λq d j=>?_⟩<|a6 ⟨_,WS A,x<|JW A,λq d j=>?_⟩<|a6 ⟨_,WT A,x<|JX A,λq d j=>?_⟩<|a6 ⟨_,Ks A,Y4 A,λq d j=>?_⟩<|a6 ⟨_,W_ A,x<|J2 A,λq d j=>?_⟩<|a6 ⟨_,(sL A).max,ei.blt _,λq d j=>?_⟩<|a6 ⟨_,(sL A).min,ei.blt _,λq d j=>?_⟩<|a6 ⟨_,(sL A).str,j6 _,λq d j=>adM j⟩ dC;cases Xz j;exact aS j▸(X_ A (N:=0) _).mono (by assumption);cases XB j;exact(Z8 A (N:=0) _ d j).mono (by assumption);cases Xy j;obtain⟨C,rfl⟩:=cj j;have J:=d0 (aM C).2;exact(Yd A (N:=200) (d0 (aM (aM C).1).1) (d0 (aM (aM C).1).2) (aC o z) J).mono (by assumption);cases Xv j;refine bK j λV l j=>?_;obtain⟨C,rfl⟩:=cj j;simp only[c0,h_,bZ]at C;rw[aaw l];exact(U5 A (B:=10000) (N:=200) C.1.1.1 C.1.1.2 (by exact aC C.1.2<|by decide) (λd K=>qC.mp<|C.2 d K) (bM _) C.1.2).mono (by assumption);cases XD j;exact(aeS A j).mono<|aC (dU _ _) o;cases XA j;refine bK j λT L j=>?_;obtain⟨C,rfl⟩:=cj j;have r:=d0 C;exact(Zr A (N:=0) L (λY M=>Zp r M)<|Zq r).mono<|aC z y;exact(E2 j).elim (λj=>Tr j) λj=>Ts j;exact(E2 j).elim (λj=>Tw j) λj=>Tx j
 intro s q d j;refine bK j λk m j=>?_;obtain⟨D,e,R,S⟩:=all (s,k)<|mem_of_lookup m;exact⟨D,e,R,S q d j⟩
def LG(n:a4)(c:Nat)(g:201<=t):j9 (az n) (BO c) t (rx n.params)where
 blt:=sL n
 cls:=Cz n
 fns:=by
  have all:∀s∈ra,∃i,b4 (az n) s.1 (.ref i)/\dA (az n) i s.2.sc s.2.params s.2.body:=by intro s ao;unfold ra at ao;simp only[cJ,mn,or_false]at ao;rcases ao with rfl|rfl|rfl|rfl|rfl|rfl|rfl|rfl|rfl|rfl|rfl|rfl|rfl|rfl|rfl;exact⟨_,Xd n,V9 n⟩;exact⟨_,WR n,VQ n⟩;exact⟨_,WU n,VR n⟩;exact⟨_,WV n,VS n⟩;exact⟨_,WW n,VT n⟩;exact⟨_,WX n,VU n⟩;exact⟨_,WY n,VV n⟩;exact⟨_,WZ n,VW n⟩;exact⟨_,W0 n,VX n⟩;exact⟨_,W6 n,VY n⟩;exact⟨_,Kl n,J0 n⟩;exact⟨_,W9 n,VZ n⟩;exact⟨_,W' n,V0 n⟩;exact⟨_,Xa n,V1 n⟩;exact⟨_,Xb n,V2 n⟩
  exactλe c j=>all (e,c)<|mem_of_lookup j
 oT:=by
  have all:∀s∈zY,∃i,rx n.params s.1=I (.ref i)/\dA (az n) i s.2.sc s.2.params s.2.body/\∃b,pD (.type "object") s.1=bg b:=by intro s ao;unfold zY at ao;simp only[cJ,mn,or_false]at ao;rcases ao with rfl|rfl|rfl|rfl;exact⟨45,z,V5 n,ag,z⟩;exact⟨52,z,V6 n,ag,z⟩;exact⟨73,z,V7 n,ag,z⟩;exact⟨80,z,V8 n,ag,z⟩
  exactλe c j=>all (e,c)<|mem_of_lookup j
 attrs:=λm j=>by have:m∈([bp "raw",bp "n",bp "nt",bp "norm",bp "is_simple"]:List ar):=iH.mp j;simp only[cJ,mn,or_false]at this;rcases this with rfl|rfl|rfl|rfl|rfl<;>exact⟨z,z⟩
 hand:=KU n g
 di:=λe k q d j=>by cases j
 const:=CH
 hk:=Kv n
def hg(k l:Nat):b0:=Ab (BO l) l k
def HH(n:a4)(k l:Nat):cf (az n) (hg k l) (201+k):=Mi (LG n l<|bM _) k
def jH:aZ:=aZ.fn<|bY mb
def dO(y:Nat):aF:=aJ (bw mb) y
def pL(f:ai):Nat×a7:=((js f).map (·.2)).getD (0,⟨0,0,0,0⟩)
def SR:bw mb=[dO 0,dO 1,dO 2]++(.Assign [.Tuple (ih<|fo<|dO 3) (pL<|fo<|dO 3).1 (pL<|fo<|dO 3).2] (a3<|dO 3) (eu<|dO 3)::[dO 4]):=z
def acR:hu (bY mb) (bt mb)=ab:=z
def ab_:(bt mb).length=4:=z
def aaN:mY (a3<|dO 3)=ag:=z
def L9:fH->Option aG
 |.next σ=>I σ
 |_=>ag
noncomputable def MR:fH->Option aa|.ret d=>I d|_=>ag
def aaF(j:L9 w=I σ):w=.next σ:=by cases w<;>first|exact nS j|exact congrArg _<|aS j
def acB(j:MR w=I d):w=.ret d:=by cases w<;>first|exact nS j|exact congrArg _<|aS j
def p6(h:b0)(y:Nat)(q:List aa):Option aa:=if q.length==4 then
  ((xs h jH [] y (cT (bt mb) q) [dO 0,dO 1,dO 2]).bind L9).bind λfC=>if fC.pure then
   ((bc h y jH fC.plus<|a3<|dO 3).bind lC).bind λb=>(er jH (ih<|fo<|dO 3) b []).bind λw=>(xs h jH [] y (fC.vals w) [dO 4]).bind MR
  else ag
 else ag
def aao(r:a4)(x:cf (az r) b t)(j:p6 b y a=I d):cM (az r) (.ref 245) a (t+1) d:=by obtain⟨k,j⟩:=gq j;refine bK j λfC g j=>?_;obtain⟨ao,j⟩:=gq j;refine bK j λA q j=>bK j λC i j=>?_;refine bK g λB s f=>bK q λeF l c=>bK j λe p m=>?_;rw[aaF f]at s;rw[zN c]at l;rw[acB m]at p;exact aeJ (M:=[]) (J1 r) acR ((bL k).trans ab_.symm) x SR s ao l aaN i p
section
variable{C:bC}{O:b0}{N n:Nat}{M:List ar}
def ni(d:aE->Prop)(l:ax)(i:aE)(c:List Int)(q:List aa):Prop:=∃b n x,l.heap.get? i=I ⟨.type "dict",ag,.dict ⟨b⟩ n,#[]⟩/\hU b c x/\RzL d l.heap x q
def ni.keep(B:ni f l g c d)(k:∀p m,(¬f p\/p=g)->l.heap.get? p=I m->J.heap.get? p=I m):ni f J g c d:=by obtain⟨t,n,x,A,y,w⟩:=B;exact⟨t,n,x,k _ _ (.inr rfl) A,y,w.mono λp m j q=>k p m (.inl j) q⟩
theorem ni.more(j:ni f l g c d)(k:∀p t,l.heap.get? p=I t->Y p->f p):ni Y l g c d:=by obtain⟨m,n,x,q,y,w⟩:=j;exact⟨m,n,x,q,y,w.more k⟩
def cU.DU(j:cU c a d f)(k:∀g n,a.heap.get? g=I n->b g->c g):cU b a d f:=by obtain⟨x,i,g,w⟩:=j;exact⟨x,i,g,w.more k⟩
def bj.tell(j:bj C g a w l)(k:∀b∈L,∃t,bH C l.heap g.env b.1 t/\Rz g.X l.heap t b.2):bj C g a (L++w) l:=by
 refine{j with names:=λm d f=>?_};induction L with
 |nil=>exact j.names m d f
 |cons b L i=>
  rw[um,ep]at f;by_cases ae:(m==b.1)=ab;rw[ae]at f;obtain rfl:=aS f;rw[bL ae];exact k b eB;rw[jX]at ae;rw[ae]at f;exact i (λq n=>k q<|eA _ n) f
def aX.var(ah:aX C g b σ [] l)(ae:σ.lookup x=I (.val<|.ref a)):bH C l.heap g.env x (.ref a):=by obtain⟨t,d,w⟩:=ah.ok.names x (.ref a)<|(fB ah.keys).mpr ae;exact w.rK λf=>f▸d
def Qq{K:Type}[DecidableEq K]{i:List (K×aq)}{k:K}(j:k∉i.map (·.1)):stored i k t=i++[(k,t)]:=by unfold stored;rw[if_neg];intro q;obtain⟨x,a,f⟩:=List.any_eq_true.mp q;exact j<|hM.mpr ⟨x,a,of_decide_eq_true f⟩
def adH(ad:cf C O N)(ag:N<=c.fuel)(ae:σ.lookup bm=I (.val<|.ref i))(ax:bc O n p a2 f=I d)(ay:bc O n p j y=I (.int k))(aq:ja f (I<|.Subscript (.Name bm bi) y be) a1.line c.env=bg au)(ah:aX C c p σ [] l)(aJ:bj C c p a2 l)(av:bj C c p j l)(W:ni c.X l i h bd)(az:k∉h)(ao:h.Nodup)(aA:h.length<=1000000)(ai:c.X i)(bW:¬C.T i)(aG:¬C.P i)(aH:¬c.Y i)(aI:∀aO,c.env.cells.lookup aO≠I i)(q:∀J,aX C c p σ [] J->cu C c [i] l J->(∀D H,D≠i->¬C.T D->l.heap.get? D=I H->J.heap.get? D=I H)->ni c.X J i (h++[k]) (bd++[d])->bn .next J):aB (aK C.prog C.w) c.A (c3 (.Assign [.Subscript (.Name bm bi) y be] f a1) c.env) bn bs l:=by have aE:=ah.var ae;refine wpAny_Assign_Subscript ?_ aq;refine(de ad n).cW p a2 f d c l aJ ag ax l (ak.refl l) ah.cB _ _ λaW ac B aS=>?_;refine sY (aE.ext B) ?_;refine(de ad n).cW p j y (.int k) c l av ag ay ac B (ah.cB.ext B) _ _ λaV g R ab=>?_;refine ab.iK λaN f=>?_;subst f;have K:=B.trans R;have L:=W.keep (J:=g) λD H F f=>K.keep D H f λaN=>F.elim (λaw=>aw<|ah.aT D aN) λaw=>bW<|aw▸aN;obtain⟨aQ,aO,al,M,aa,aM⟩:=L;have aL:=(ah.cB.ext B).mono R aS;have aj:=aa.dictOf (prog:=C.prog) (w:=C.w) ao M;have ar:(h.zip al).map (·.1)=h:=uq<|cL aa.len;have as:(h.zip al).map (·.2)=al:=List.map_snd_zip<|cL aa.len.symm;refine wpAny_setItem_pairs (Bw ..) aj.dictOf (λam an ap=>?_) (by rw[List.length_zip,gw];exact aC (O3 _ _)<|aC aA z);rw[Qq (by rw[ar];exact az)]at an;obtain⟨af,aF,G,U⟩:=hU.aaQ an;rw[kH,kH,ar,as]at U;have V:dF C [i] g {g with heap:=am,toks:=g.toks+1}:=dF.of (c7 bW) (c7 aG) (c7 (wy M λq=>by obtain⟨aP,aR,f⟩:=q;cases f)) λD H F f=>(ap.2 D<|by simpa using F).trans f;have kp:∀D H,D≠i->g.heap.get? D=I H->am.get? D=I H:=λD H F f=>(ap.2 D F).trans f;refine q _ ((ah.ext K).Aa ai bW aH aI V ⟨_,G⟩) (K.bx.trans<|V.bx λaP aU=>aU) (λD H F aD f=>kp D H F<|K.keep D H f aD) ⟨af,aF,_,G,U,?_⟩;exact(aM.append<|.cons aL .nil).mono λD H F f=>kp D H (λaw=>F<|aw▸ai) f
set_option tactic.hygienic true in
def adu(ay:cf C O N)(aA:N<=c.fuel)(ao:(bd.endLine==bi.line)=ab)(j:o1 g=ab)(aG:∀{am a2:aq->ax->Prop},(∀J,ak C al J->am (.ref i) J)->aB (aK C.prog C.w) c.A (cn g c.env) am a2 al)(aj:fX f=au)(aC:bc O n a1 aO f=I d)(aF:be.length<=1000000)(ah:aX C c a1 σ [] al)(aI:bj C c a1 aO al)(k:cU c.X al i be)(ai:c.X i)(bW:¬C.T i)(aH:¬C.P i)(ac:¬c.Y i)(av:∀as,c.env.cells.lookup as≠I i)(q:∀J,aX C c a1 σ [] J->cu C c [i] al J->(∀H g,H≠i->¬C.T H->al.heap.get? H=I g->J.heap.get? H=I g)->cU c.X J i (be++[d])->bn .next J):aB (aK C.prog C.w) c.A (c3 (.Expr (.Call (.Attribute g "append" bd) [f] [] bi) bm) c.env) bn bs al:=by
 have aD:lx c.env=au:=by unfold lx;have aE:c.env.scope.kind=.function:=ah.ok.loc.kind;rw[aE];rfl
 refine BD ?_ aD rfl;have an:ha [f] c.env=[(au,cn f c.env)]:=by rw[qp aj];rfl
 refine xZ (T:="list") (id:="list.append") (yI j) (by rw[an];rfl) ao Bd Bf GI ?_;refine aG λy B=>?_;have G:=k.keep (J:=y) λH g j f=>B.keep H g f λaR=>j.elim (λaQ=>aQ<|ah.aT H aR) λaQ=>bW<|aQ▸aR;obtain⟨aP,as,D,aM⟩:=G;have x:=ah.ext B;refine⟨⟨_,D,rfl⟩,λaU az=>by cases az;exact⟨_,D,rfl⟩,?_⟩;have ag:e9 C c [f] y [d]:=pR ((de ay n).cW a1 aO f d c y (aI.ext B) aA aC) aj;refine sO (ag bi).2 (ag bi).1 (ak.refl y) x.cB λaV ad h aN=>?_;have M:=x.ext h;cases aN;rename_i aY aS aJ aL;cases aL;have aw:ig C c [i]:=⟨λR=>by rw[cm]at R;exact ac<|R▸ah.ok.loc.e1,λas H f R=>by rw[cm]at R;exact av as<|R▸f,λH R=>by rw[cm]at R;exact R▸ai⟩;have af:eV C c i be ad:=⟨bW,aH,aw,ac,aP,as,h.keep _ _ D bW,x.cB.fR h aM⟩;refine vt (c:=c) af aJ aF λae r K=>?_;obtain⟨V,aa,L,U⟩:=K.at';have W:=B.trans h;exact q ae (M.Aa ai bW ac av r ⟨_,L⟩) (W.bx.trans<|r.bx λaW R=>R) (λH g j ar f=>r.keep H g (W.keep H g f ar) ar<|by simpa using j) ⟨V,aa,L,U⟩
def JV{M:Model}(j:b (.ref l.heap.objs.size) {l with heap:=l.heap.push {cls:=.type "list",data:=.seq #[]}}):aB M r (cn (.List [] c) a) b f l:=by rw[Bo];exact av<|dc<|av<|aY<|x3 j z
def NV:2<=pC:=by rw[gw];decide
def pJ(aN b x a d:a7)(k:Nat):ai:=.Tuple [.Dict [] [] aN,.List [.List [] b,.List [] x] a] k d
abbrev Ju:cC:={cls:=.type "dict",data:=.dict #[]}
abbrev tm(x:List aq):cC:={cls:=.type "list",data:=.seq x.toArray}
abbrev NG(x:List aq):cC:={cls:=.type "tuple",data:=.seq x.toArray}
def VK{M:Model}{l:ax}{aN p x y B:a7}(j:∀d m n c C g q e i w,d=l.heap.objs.size->g=l.heap.push Ju->m=g.objs.size->q=g.push (tm [])->n=q.objs.size->e=q.push (tm [])->c=e.objs.size->i=e.push (tm [.ref m,.ref n])->C=i.objs.size->w=i.push (NG [.ref d,.ref c])->b (.ref C) {l with heap:=w}):aB M r (cn (pJ aN p x y B k) a) b f l:=by unfold pJ;rw[aht];refine av<|dc<|av<|r7<|wpAny_Dict_empty<|r7 ?_;rw[Bo];refine av<|dc<|av<|r7<|JV<|r7<|JV<|aY<|x3 (aY<|ahU (j _ _ _ _ _ _ _ _ _ _ rfl rfl rfl rfl rfl rfl rfl rfl rfl rfl) NV) NV
def ac9(n:Nat):n≠n+3/\n≠n+1/\n≠n+2/\n+3≠n+1/\n+3≠n+2/\n+1≠n+2:=by simp
def Wm(n:Nat):n+4∉[n,n+3,n+1,n+2]:=by simp
def adE{be O aN am an ap as:a7}(ah:aX C D a2 σ [] l)(aG:∀d f,((mY<|pJ aN am an ap as a1).elim (er a2 B [.ref d,.ref f] []) λaM=>(rO a2 B aM).bind λaL=>if aL then er a2 B.reverse [aa.ref d,.ref f].reverse []else er a2 B [.ref d,.ref f] [])=I [(y,aa.ref f),(x,.ref d)])(q:∀d f m h J,(d≠f/\d≠m/\d≠h/\f≠m/\f≠h/\m≠h)->(∀i∈[d,f,m,h],l.heap.get? i=ag)->(d==lz)=au->aX C (D.grow [d,f,m,h]) a2 (σ.vals [(y,.ref f),(x,.ref d)]) [] J->ni (D.grow [d,f,m,h]).X J d [] []->cU (D.grow [d,f,m,h]).X J f [.ref m,.ref h]->cU (D.grow [d,f,m,h]).X J m []->cU (D.grow [d,f,m,h]).X J h []->cu C D [] l J->bi .next J):aB (aK C.prog C.w) D.A (c3 (.Assign [.Tuple B k be] (pJ aN am an ap as a1) O) D.env) bi bm l:=by
 have aH:ja (pJ aN am an ap as a1) (I<|.Tuple B k be) O.line D.env=bg au:=rfl;rw[G7];refine av<|dc<|av ?_;show aB _ _ (ja (pJ aN am an ap as a1) (I<|.Tuple B k be) O.line D.env) _ _ _;rw[aH];refine aY ?_;simp only[g7,if_false];refine av<|VK λd m h f bd ai aj ao aq j K W L Y b5 ab M ac ad af=>?_;have fg:ai.objs.size=l.heap.objs.size+1:=by rw[W,i']
 have b8:aj.objs.size=l.heap.objs.size+2:=by rw[Y,i',fg]
 have cP:ao.objs.size=l.heap.objs.size+3:=by rw[ab,i',b8]
 have gS:aq.objs.size=l.heap.objs.size+4:=by rw[ac,i',cP]
 have aA:∀{i g},l.heap.get? i=I g->ai.get? i=I g:=λG=>W▸dS _ G;have up1:∀{i g},ai.get? i=I g->aj.get? i=I g:=λG=>Y▸dS _ G;have H:∀{i g},aj.get? i=I g->ao.get? i=I g:=λG=>ab▸dS _ G;have F:∀{i g},ao.get? i=I g->aq.get? i=I g:=λG=>ac▸dS _ G;have n:∀{i g},aq.get? i=I g->j.get? i=I g:=λG=>af▸dS _ G;have ax:j.get? d=I Ju:=n (F<|H<|up1 (by rw[K,W];exact dE _ rfl));have aw:j.get? m=I (tm []):=n (F<|H (by rw[L,Y];exact dE _ rfl));have dd:j.get? h=I (tm []):=n (F (by rw[b5,ab];exact dE _ rfl));have ay:j.get? f=I (tm [.ref m,.ref h]):=n (by rw[M,ac];exact dE _ rfl);have aF:j.get? bd=I (NG [.ref d,.ref f]):=by rw[ad,af];exact dE _ rfl
 have ar:ak C l {l with heap:=j}:=ak.of_keep λaO V G=>n<|F<|H<|up1<|aA G;rw[fg]at L;rw[b8]at b5;rw[cP]at M;rw[gS]at ad;clear W Y ab ac af aA up1 H F n;have aI:d≠f/\d≠m/\d≠h/\f≠m/\f≠h/\m≠h:=by rw[K,L,b5,M];exact ac9 _
 have az:(d==lz)=au:=by obtain⟨V,G⟩:=C.w8 _ ah.good.ok;exact beq_eq_false_iff_ne.mpr λq=>absurd (fe G) (by rw[<-q,K];exact jZ _)
 have ae:∀i∈[d,f,m,h],l.heap.get? i=ag:=oS (iB<|cL K.symm) (iB<|M▸b_ _ 3) (iB<|L▸b_ _ 1)<|iB<|b5▸b_ _ 2;have aD:∀i∈[d,f,m,h],∃V,j.get? i=I V:=oS (P:=λi=>∃V,j.get? i=I V) ⟨_,ax⟩ ⟨_,ay⟩ ⟨_,aw⟩ ⟨_,dd⟩;have R:=ah.vs (wr:=[d,f,m,h]) ar ae aD;have aE:=ah.cB.gm (b:=bd)<|iB<|ad▸b_ _ 4;have aJ:bd∉[d,f,m,h]:=by rw[K,L,b5,M,ad];exact Wm _
 have aP:Rz ((D.grow [d,f,m,h]).grow []).X j (.ref bd) (.tuple [.ref d,.ref f]):=.tuple (λq=>q.elim (λq=>q.elim aE.2.2 aJ) nofun) aF<|.cons (.ref _)<|.cons (.ref _) .nil;refine NS (c:=D.grow [d,f,m,h]) R aP (aG d f) λU T N=>?_;have kp:∀i∈[d,f,m,h],∀V,j.get? i=I V->U.heap.get? i=I V:=λi aC V G=>N.bx.keep i V G (ah.cB.gm<|ae i aC).1 (λy=>(ah.cB.gm<|ae i aC).2.2<|ah.bJ _ y) nofun;refine q d f m h U aI ae az T ⟨[],0,[],kp d (by simp) _ ax,.nil,.nil⟩ ⟨_,0,kp f (by simp) _ ay,.cons (.ref _)<|.cons (.ref _) .nil⟩ ⟨[],0,kp m (by simp) _ aw,.nil⟩ ⟨[],0,kp h (by simp) _ dd,.nil⟩ ?_;exact ar.bx.trans (N.bx.f9.cut (λaQ y=>y) λaO aC=>by cases aC)
end
def cG:aZ:=aZ.fn<|bY mW
def gX(y:Nat):aF:=aJ (bw mW) y
def eG(y:Nat):aF:=aJ (df<|gX 1) y
def th:aF:=aJ (df<|eG 1) 0
def nX:aF:=aJ (c5 th) 0
def o2:aF:=aJ (df<|eG 2) 0
def vr:aF:=aJ (c5 o2) 0
def JD(f:ai):a7:=(AM f).elim ⟨0,0,0,0⟩ (·.2.2)
def jh:ai:=a3<|gX 0
def Av:ai:=tu<|f3 vr
def Ib:ai:=((bD<|f3 vr).head?).getD Av
def RJ:a7:=(pg<|f3 vr).elim ⟨0,0,0,0⟩ (·.2.2.1)
def Fg:bt mW=[bp "places",bp "front",bp "goals"]:=z
def Nb:hu (bY mW) (bt mW)=ab:=z
def SU:bw mW=[.Assign [.Tuple (ih<|fo<|gX 0) (pL<|fo<|gX 0).1 (pL<|fo<|gX 0).2] (pJ (JD<|dT jh) (p9<|(ih<|ek jh)[0]?.getD jh) (p9<|(ih<|ek jh)[1]?.getD jh) (p9<|ek jh) (pL jh).2 (pL jh).1)<|eu<|gX 0,.For (fy<|gX 1) (et<|gX 1) (df<|gX 1) []<|p4<|gX 1,.Return (I<|a3<|gX 2)<|eu<|gX 2]:=z
def aai:df (gX 1)=[.Assign [.Name "ends"<|gk<|fo<|eG 0] (a3<|eG 0)<|eu<|eG 0,.For (fy<|eG 1) (et<|eG 1) (df<|eG 1) []<|p4<|eG 1,.For (fy<|eG 2) (et<|eG 2) (df<|eG 2) []<|p4<|eG 2]:=z
def ZY:df (eG 1)=[.If (a3 th) [.Assign [.Subscript (.Name "known" (Ay nX).1) (tZ nX) (Ay nX).2] (a3 nX)<|eu nX] []<|eu th]:=z
def ZX:df (eG 2)=[.If (a3 o2) [.Expr (.Call (.Attribute Av "append" RJ) [Ib] []<|jI<|f3 vr)<|p2 vr] []<|eu o2]:=z
section
noncomputable def NQ:aa->Option (aa×aa)|.tuple [i,p]=>I (i,p)|_=>ag
noncomputable def kA(q:aa×aa):bQ:=[("low",q.2),("high",q.1)]
variable(O:b0)(n:Nat)(fr G:aa)
def oL:List aa->List Int×List aa->Option (List Int×List aa)
 |[],m=>I m
 |e::b,m=>(NQ e).bind λq=>(fW O n cG (("known",.eb m.1 m.2)::kA q)<|a3 th).bind λk=>if k then
   (bc O n cG (kA q)<|tZ nX).bind λa=>(zy a).bind λc=>if !m.1.contains c&&bG m.1.length 100000 then
    (bc O n cG (kA q++([("front",fr),("goals",G)]:bQ))<|a3 nX).bind λt=>oL b (m.1++[c],m.2++[t])
   else ag
  else oL b m
def td(s f:aa)(m:List Int×List aa)(y:Int)(a:List aa):Option (List aa):=(fW O n cG [("known",.eb m.1 m.2),("form",.int y),("ends",f)]<|a3 o2).bind λk=>if bG a.length 100000 then I (if k then a++[s]else a)else ag
abbrev om:=(List Int×List aa)×List aa×List aa
def Dh(c:aa)(l:om):Option om:=(bc O n cG [("place",c)]<|a3<|eG 0).bind λf=>(lC f).bind λb=>(oL O n fr G b l.1).bind λm=>(td O n c f m 0 l.2.1).bind λa=>(td O n c f m 1 l.2.2).bind λr=>I (m,a,r)
def zk:List aa->om->Option om|[],l=>I l|p::a,l=>(Dh O n fr G p l).bind λJ=>zk a J
noncomputable def Ao(l:om):bQ:=[("known",.eb l.1.1 l.1.2),("borne",.list [.list l.2.1,.list l.2.2])]
def tc:List aa->Option aa|[.list a,fr,G]=>(zk O n fr G a (([],[]),[],[])).bind λl=>bc O n cG (Ao l) (a3<|gX 2)|_=>ag
end
section
variable(bP fr G:aa)(aD aR:aE)(p E:aa)(q:aa×aa)(i:Int)
noncomputable def M7:aG:=[("places",.val bP),("front",.val fr),("goals",.val G)]
def zf:aG:=(M7 bP fr G).vals [("borne",.ref aR),("known",.ref aD)]
def C8:aG:=(zf bP fr G aD aR).vals [("place",p)]
def mJ:aG:=(C8 bP fr G aD aR p).vals [("ends",E)]
def Kt:aG:=(mJ bP fr G aD aR p E).vals<|kA q
def C7:aG:=(mJ bP fr G aD aR p E).vals [("form",.int i)]
def adK:cT (bt mW) [bP,fr,G]=M7 bP fr G:=by rw[Fg];rfl
def Sj(aD aR:aE):((mY<|pJ (JD<|dT jh) (p9<|(ih<|ek jh)[0]?.getD jh) (p9<|(ih<|ek jh)[1]?.getD jh) (p9<|ek jh) (pL jh).2 (pL jh).1).elim (er cG (ih<|fo<|gX 0) [.ref aD,.ref aR] []) λx=>(rO cG (ih<|fo<|gX 0) x).bind λh=>if h then er cG (ih<|fo<|gX 0).reverse [aa.ref aD,.ref aR].reverse []else er cG (ih<|fo<|gX 0) [.ref aD,.ref aR] [])=I [(bp "borne",aa.ref aR),(bp "known",.ref aD)]:=z
def IU:dq cG (fy<|gX 1) p []=I ([(bp "place",p)]:bQ):=z
def S8:dq cG (.Name "ends"<|gk<|fo<|eG 0) E []=I ([(bp "ends",E)]:bQ):=z
def IT(i p:aa):dq cG (fy<|eG 1) (.tuple [i,p]) []=I (kA (i,p)):=z
def yP:dq cG (fy<|eG 2) (.int i) []=I ([(bp "form",.int i)]:bQ):=z
end
structure jc(w:World)(c:bX)(aD aR aV a0:Addr):Prop where
 ne:aD≠aR/\aD≠aV/\aD≠a0/\aR≠aV/\aR≠a0/\aV≠a0
 x:∀a∈[aD,aR,aV,a0],¬c.X a
 p:∀a∈[aD,aR,aV,a0],¬(az w).P a
 aT:∀d,(az w).T d->c.X d
 bJ:∀d,c.Y d->c.X d
 cI:∀n d,c.env.cells.lookup n=some d->c.X d
structure d7(aD aR aV a0:Addr)(x:List Int×List aa)(cx dh:List aa)(X:Addr->Prop)(s:Shared):Prop where
 k:ni X s aD x.1 x.2
 l:cU X s aR [.ref aV,.ref a0]
 a:cU X s aV cx
 b:cU X s a0 dh
section
variable{w:a4}{c:bX}{aD aR aV a0:aE}{x:List Int×List aa}{cx dh:List aa}{X Y:aE->Prop}{s J:ax}
theorem jc.grow(l:jc w c aD aR aV a0)(j:∀i∈[aD,aR,aV,a0],i∉wr):jc w (c.grow wr) aD aR aV a0:=⟨l.ne,λi w q=>q.elim (l.x i w)<|j i w,l.p,λd r=>.inl<|l.aT d r,λd b=>.inl<|l.bJ d b,λg d f=>.inl<|l.cI g d f⟩
theorem d7.keep(g:d7 aD aR aV a0 x cx dh X s)(k:∀p d,(¬X p\/p∈[aD,aR,aV,a0])->s.heap.get? p=I d->J.heap.get? p=I d):d7 aD aR aV a0 x cx dh X J:=⟨g.k.keep λp d j f=>k p d (j.imp id λc=>by rw[c];simp) f,g.l.keep λp d j f=>k p d (j.imp id λc=>by rw[c];simp) f,g.a.keep λp d j f=>k p d (j.imp id λc=>by rw[c];simp) f,g.b.keep λp d j f=>k p d (j.imp id λc=>by rw[c];simp) f⟩
theorem d7.more(j:d7 aD aR aV a0 x cx dh X s)(k:∀f d,s.heap.get? f=I d->Y f->X f):d7 aD aR aV a0 x cx dh Y s:=⟨j.k.more k,j.l.DU k,j.a.DU k,j.b.DU k⟩
def d7.ext(l:jc w c aD aR aV a0)(g:d7 aD aR aV a0 x cx dh (c.grow [aD,aR,aV,a0]).X s)(i:ak (az w) s J):d7 aD aR aV a0 x cx dh (c.grow [aD,aR,aV,a0]).X J:=g.keep λp d j f=>i.keep p d f λr=>j.elim (λa=>a<|.inl<|l.aT p r) λa=>l.x p a<|l.aT p r
def d7.alive(j:d7 aD aR aV a0 x cx dh X s):∀t∈[aD,aR,aV,a0],∃d,s.heap.get? t=I d:=by obtain⟨C,H,G,f,y,J⟩:=j.k;obtain⟨g,c,A,w⟩:=j.l;obtain⟨E,q,B,m⟩:=j.a;obtain⟨F,hF,p,D⟩:=j.b;exact oS (P:=λt=>∃d,s.heap.get? t=I d) ⟨_,f⟩ ⟨_,A⟩ ⟨_,B⟩ ⟨_,p⟩
def d7.fresh{m:List aE}(j:d7 aD aR aV a0 x cx dh X s)(c:∀p∈m,s.heap.get? p=ag):∀i∈[aD,aR,aV,a0],i∉m:=λi w q=>by obtain⟨d,f⟩:=j.alive i w;rw[c i q]at f;cases f
def jc.ws(l:jc w c aD aR aV a0):∀i∈[aD,aR,aV,a0],(c.grow [aD,aR,aV,a0]).X i/\¬(az w).T i/\¬c.Y i:=λi w=>⟨.inr w,λr=>l.x i w<|l.aT i r,λb=>l.x i w<|l.bJ i b⟩
def jc.jP(l:jc w c aD aR aV a0){i:aE}(w:i∈[aD,aR,aV,a0]):∀b,c.env.cells.lookup b≠I i:=λb f=>l.x i w<|l.cI b i f
def aX.small(ah:aX (az w) (c.grow f) e σ [] s)(m:∀i,(az w).T i->c.X i)(p:∀i,c.Y i->c.X i)(k:∀r i,c.env.cells.lookup r=I i->c.X i)(q:∀x d,b.lookup x=I d->σ.lookup x=I (.val d)):bj (az w) c e b s:=by
 have g:=ah.f9 m p k;have j:bj (az w) c e σ.strict s:=by have:=g.ok;rwa [nB]at this
 exact j.sub λt d l=>(fB g.keys).mpr<|q t d l
def aX.qn(ah:aX (az w) c a σ [] s)(e:∀x d,b.lookup x=I d->σ.lookup x=I (.val d)):bj (az w) c a b s:=by
 have j:bj (az w) c a σ.strict s:=by have:=ah.ok;rwa [nB]at this
 exact j.sub λf d i=>(fB ah.keys).mpr<|e f d i
def d7.map(l:jc w c aD aR aV a0)(j:d7 aD aR aV a0 x cx dh (c.grow [aD,aR,aV,a0]).X s)(a:(aD==lz)=au)(p:x.1.Nodup):Rz c.X s.heap (.ref aD) (.eb x.1 x.2):=by obtain⟨d,A,m,f,y,g⟩:=j.k;exact .eb (l.x aD<|by simp) a f y p<|g.less λt q=>.inl q
end
section
variable(O:b0)(n:Nat)(fr G:aa)
def BU(d c m e:aE)(b:List aa)(t:List Int×List aa)(a r:List aa)(h:Nat)(g:aE->Prop)(l:ax):Prop:=∃f:List Int×List aa,oL O n fr G (b.drop h) f=I t/\f.1.Nodup/\d7 d c m e f a r g l
set_option tactic.hygienic true in
def Xx:∀{j:List aa}{m t:List Int×List aa},oL O n fr G j m=I t->∀r∈j,∃i p,r=.tuple [i,p]:=by
 intro j;induction j with
 |nil=>
  exact @λm t=>λA r B=>by cases B
 |cons r j c=>
  exact @λm t=>λA s d=>by
   refine bK A λq g A=>bK A λk C A=>?_;rcases cJ.mp d with rfl|d;refine⟨q.1,q.2,?_⟩;cases s<;>try exact nS g
   rename_i w;match w,g with|[i,p],g=>rw[<-aS g]|[],g=>exact nS g|[_],g=>exact nS g|_::_::_::_,g=>exact nS g
   induction k using cq with|false=>exact c A s d|true=>exact bK A λD _ A=>bK A λF _ A=>bK (gq A).2 λE _ A=>c A s d
end
section
variable{w:a4}{c:bX}{aD aR aV a0:aE}{cx dh:List aa}{s:ax}{O:b0}{N n:Nat}{bP fr G p E:aa}
def Dp{σ:aG}(a:∀m d,L.lookup m=I d->σ.lookup m=I (.val d)):∀m d,(aO++L).lookup m=I d->(σ.vals aO).lookup m=I (.val d):=λm d f=>by
 rw[AD];induction aO with
 |nil=>exact a m d f
 |cons q aO g=>
  rw[um,ep]at f;rw[ep];induction j:m==q.1 using cq with|true=>rw[j]at f;rw[aS f]|false=>rw[j]at f;exact g f
def rm{i:bQ}{σ:aG}(j:∀q∈i,σ.lookup q.1=I (.val q.2)):∀m d,i.lookup m=I d->σ.lookup m=I (.val d):=λm d f=>j _<|mem_of_lookup f
def Yh{d:aa}{x:Int}(j:zy d=I x):d=.int x:=by cases d<;>first|exact nS j|exact congrArg _<|aS j
def aey(ae:cf (az w) O N)(af:N<=c.fuel)(M:jc w c aD aR aV a0)(ay:(aD==lz)=false)(C:oL O n fr G (.tuple [i,j]::a1) f=I B)(T:f.1.Nodup)(ah:aX (az w) (c.grow [aD,aR,aV,a0]) cG (Kt bP fr G aD aR p E (i,j)) [] s)(ag:d7 aD aR aV a0 f cx dh (c.grow [aD,aR,aV,a0]).X s)(q:∀J ac,aX (az w) (c.grow [aD,aR,aV,a0]) cG (Kt bP fr G aD aR p E (i,j)) [] J->oL O n fr G a1 ac=I B->ac.1.Nodup->d7 aD aR aV a0 ac cx dh (c.grow [aD,aR,aV,a0]).X J->cu (az w) (c.grow [aD,aR,aV,a0]) [aD,aR,aV,a0] s J->bd .next J):aB (aK cy w) c.A (dm (df<|eG 1) c.env) bd a2 s:=by
 rw[ZY];refine bK C λaW aA C=>?_;obtain rfl:=aS aA;refine bK C λk ax C=>?_;have rB:bj (az w) c cG (kA (i,j)) s:=ah.small M.aT M.bJ M.cI λf d R=>Dp (aO:=kA (i,j)) (L:=[]) (σ:=mJ bP fr G aD aR p E) (λf d R=>by cases R) f d (by rwa [pl]);have aJ:=ah.var (x:="known") (a:=aD) z;have as:bj (az w) c cG (("known",.eb f.1 f.2)::kA (i,j)) s:=rB.tell (L:=[(bp "known",.eb f.1 f.2)]) λa4 ao=>by rw[cm]at ao;subst ao;exact⟨_,aJ,ag.map M ay T⟩
 have aa:=ah.f9 M.aT M.bJ M.cI;refine d6<|uR<|(de ae n).jM cG _ (a3 th) k c s as af ax s (ak.refl s) aa.cB _ _ λH K=>?_;have P:=ag.ext M K;have D:=ah.ext K;induction k using cq with
 |false=>exact hc<|hc<|q H f D C T P K.bx
 |true=>
  refine bK (show(bc O n cG (kA (i,j))<|tZ nX).bind _=I B from C) λaQ an C=>bK C λad aG C=>?_;obtain⟨ai,C⟩:=gq C;refine bK C λaY aE V=>?_;have au:bj (az w) (c.grow [aD,aR,aV,a0]) cG (kA (i,j)++([("front",fr),("goals",G)]:bQ)) H:=D.qn<|Dp<|rm<|a6 z<|a6 z dC;have ar:bj (az w) (c.grow [aD,aR,aV,a0]) cG (kA (i,j)) H:=D.qn λf d R=>Dp (aO:=kA (i,j)) (L:=[]) (σ:=mJ bP fr G aD aR p E) (λf d R=>by cases R) f d (by rwa [pl]);obtain rfl:=Yh aG;have ug:ad∉f.1:=λY=>absurd ((ez _).mp (aM ai).1) (by rw[iH.mpr Y];exactλR=>nomatch R);have aw:=M.ws aD (by simp);refine d6 (adH (c:=c.grow [aD,aR,aV,a0]) ae af (n:=n) z aE an z D au ar P.k ug T (aC (m8 (aM ai).2) z) aw.1 aw.2.1 (M.p aD<|by simp) aw.2.2 (M.jP<|by simp) λS ab av aq am=>hc<|hc<|q S (f.1++[ad],f.2++[aY]) ab V ?_ ?_ ?_);exact xv.mpr ⟨T,List.pairwise_singleton _ _,λU aF a5 ap R=>ug (by rw[cm]at ap;exact ap▸R▸aF)⟩;have aI:aD∉[aR,aV,a0]:=λY=>(cJ.mp Y).elim M.ne.1 λY=>(cJ.mp Y).elim M.ne.2.1 λY=>M.ne.2.2.1<|cm.mp Y;have kp:∀d,d∈[aR,aV,a0]->∀aH,cU (c.grow [aD,aR,aV,a0]).X H d aH->cU (c.grow [aD,aR,aV,a0]).X S d aH:=λd aj aH aP=>aP.keep λR aU al aN=>aq R aU (λad=>al.elim (λU=>U<|ad▸aw.1) λU=>aI<|ad▸U▸aj) (λaL=>al.elim (λad=>ad<|.inl<|M.aT R aL) λU=>M.x d (eA _ aj)<|M.aT _<|U▸aL) aN;exact⟨am,kp aR (by simp) _ P.l,kp aV (by simp) _ P.a,kp a0 (by simp) _ P.b⟩;exact K.bx.trans (av.cut (λaZ U=>U) λd w=>.inl (by rw[cm]at w;rw[w];simp))
def Yn:sA (BU O n fr G aD aR aV a0 b t cx dh) [aD,aR,aV,a0]:=λ⟨m,g,a,e⟩ k=>⟨m,g,a,e.keep k⟩
def Yo:sC (BU O n fr G aD aR aV a0 b t cx dh):=λ⟨m,g,a,e⟩ k=>⟨m,g,a,e.more k⟩
def JF{n:Type}{k:List n}{d:n}(j:k[y]?=I d):k.drop y=d::k.drop (y+1):=by have g:=(m4.mp j);rw[OD g.1,g.2]
def ZN(L:cf (az w) O N)(M:N<=c.fuel)(aj:jc w c aD aR aV a0)(ab:(aD==lz)=au)(k:oL O n fr G e m=I t)(ac:m.1.Nodup)(ah:aX (az w) (c.grow [aD,aR,aV,a0]) cG (mJ bP fr G aD aR p<|.list e) [] s)(P:d7 aD aR aV a0 m cx dh (c.grow [aD,aR,aV,a0]).X s)(q:∀J,aX (az w) (c.grow [aD,aR,aV,a0]) cG (mJ bP fr G aD aR p<|.list e) [] J->t.1.Nodup->d7 aD aR aV a0 t cx dh (c.grow [aD,aR,aV,a0]).X J->cu (az w) (c.grow [aD,aR,aV,a0]) [aD,aR,aV,a0] s J->am .next J):aB (aK cy w) c.A (c3 (.For (fy<|eG 1) (et<|eG 1) (df<|eG 1) []<|p4<|eG 1) c.env) am al s:=by have T:bj (az w) (c.grow [aD,aR,aV,a0]) cG [("ends",.list e)] s:=ah.qn<|rm<|a6 z dC;have ad:bq (az w) (c.grow [aD,aR,aV,a0]) (et<|eG 1) s (.list e):=(de L 9).cW cG _ _ _ _ s T M z;have H:=Xx O n fr G k;refine tU (c:=c.grow [aD,aR,aV,a0]) (σs:=λ_=>mJ bP fr G aD aR p<|.list e) (Inv:=BU O n fr G aD aR aV a0 e t cx dh) (oq:=[aD,aR,aV,a0]) (dN.list ad) (λm=>z) (λak ao=>z) (λak d D=>?_) Yn Yo aj.ws ah ⟨m,k,ac,P⟩ (λW ae ak d aq C D E j B an ai U=>?_) λC j B af=>?_;obtain⟨Z,aa,rfl⟩:=H d<|A2 D;exact⟨_,IT Z aa⟩;obtain⟨Z,aa,rfl⟩:=H d<|A2 D;rw[IT]at E;obtain rfl:=aS E;obtain⟨ap,h,f,l⟩:=B;rw[JF D]at h;have Y:=aj.grow (wr:=W)<|P.fresh ae;rw[vS]at j l U;refine aey (c:=c.grow W) L M Y ab h f j l λg ag K r S R V=>?_;exact U g (K.sub (rT (aO:=kA (Z,aa))<|a6 z<|a6 z dC) z) ⟨ag,r,S,R⟩ V;obtain⟨ap,h,f,l⟩:=B;rw[OE]at h;obtain rfl:=aS h;exact q C j f l af
noncomputable def nR(k:Bool)(a:List aa)(p:aa):List aa:=if k then a++[p]else a
def KI(b:td O n p E m y a=I j):∃k,fW O n cG [("known",.eb m.1 m.2),("form",.int y),("ends",E)] (a3 o2)=I k/\a.length<=100000/\nR k a p=j:=bK b λk c b=>⟨k,c,d0 (cj b).1,(cj b).2⟩
def adV(y:Int)(e w:aE):bc O (n+9) cG [("form",.int y),("place",p),("borne",.list [.ref e,.ref w])] Av=O.item (.list [.ref e,.ref w]) (.int y):=z
def RS(y:Int):bc O 9 cG [("form",.int y),("place",p)] Ib=I p:=z
section
variable{x:List Int×List aa}{a:aE}{l:List aa}{X:aE->Prop}{J:ax}
def KQ(b:aV≠a0)(c:a=aV/\l=cx\/a=a0/\l=dh):(if a=aV then nR au l p else cx)=cx/\(if a=aV then dh else nR au l p)=dh:=c.elim (λj=>⟨(if_pos j.1).trans j.2,if_pos j.1⟩) λj=>⟨if_neg λf=>b<|f.symm.trans j.1,(if_neg λf=>b<|f.symm.trans j.1).trans j.2⟩
def XF(p:a=aV/\l=cx\/a=a0/\l=dh):a∈[aD,aR,aV,a0]:=p.elim (λj=>by rw[j.1];simp) λj=>by rw[j.1];simp
def XE(c:d7 aD aR aV a0 x cx dh X s)(p:a=aV/\l=cx\/a=a0/\l=dh):cU X s a l:=p.elim (λj=>by rw[j.1,j.2];exact c.a) λj=>by rw[j.1,j.2];exact c.b
def XG(t:aD≠aR/\aD≠aV/\aD≠a0/\aR≠aV/\aR≠a0/\aV≠a0)(y:a=aV/\l=cx\/a=a0/\l=dh)(j:d7 aD aR aV a0 x cx dh X s)(q:X a)(kp:∀f c,f≠a->(¬X f\/f∈[aD,aR,aV,a0])->s.heap.get? f=I c->J.heap.get? f=I c)(m:cU X J a (nR ab l p)):d7 aD aR aV a0 x (if a=aV then nR ab l p else cx) (if a=aV then dh else nR ab l p) X J:=by have kk:∀d,d≠a->d∈[aD,aR,aV,a0]->∀f c,(¬X f\/f=d)->s.heap.get? f=I c->J.heap.get? f=I c:=λd A r f c i B=>kp f c (i.elim (λn w=>n<|w▸q) λw=>w▸A) (i.imp id λw=>by rw[w];exact r) B;refine y.elim (λn=>?_) λn=>?_;obtain⟨rfl,rfl⟩:=n;rw[if_pos rfl,if_pos rfl];exact⟨j.k.keep (kk aD t.2.1<|by simp),j.l.keep (kk aR t.2.2.2.1<|by simp),m,j.b.keep<|kk a0 (λf=>t.2.2.2.2.2 f.symm)<|by simp⟩;obtain⟨rfl,rfl⟩:=n;rw[if_neg λf=>t.2.2.2.2.2 f.symm,if_neg λf=>t.2.2.2.2.2 f.symm];exact⟨j.k.keep (kk aD t.2.2.1<|by simp),j.l.keep (kk aR t.2.2.2.2.1<|by simp),j.a.keep (kk aV t.2.2.2.2.2<|by simp),m⟩
end
def NU(V:cf (az w) O N)(Y:N<=c.fuel)(al:O.item=d3)(C:jc w c aD aR aV a0)(aF:(aD==lz)=false)(ay:d3 (.list [.ref aV,.ref a0]) (.int i)=I (.ref a))(K:a=aV/\l=cx\/a=a0/\l=dh)(aA:fW O n cG [("known",.eb f.1 f.2),("form",.int i),("ends",E)] (a3 o2)=I k)(aE:l.length<=100000)(aG:f.1.Nodup)(ah:aX (az w) (c.grow [aD,aR,aV,a0]) cG (C7 bP fr G aD aR p E i) [] s)(aj:d7 aD aR aV a0 f cx dh (c.grow [aD,aR,aV,a0]).X s)(q:∀J,aX (az w) (c.grow [aD,aR,aV,a0]) cG (C7 bP fr G aD aR p E i) [] J->d7 aD aR aV a0 f (if a=aV then nR k l p else cx) (if a=aV then dh else nR k l p) (c.grow [aD,aR,aV,a0]).X J->cu (az w) (c.grow [aD,aR,aV,a0]) [aD,aR,aV,a0] s J->a2 .next J):aB (aK cy w) c.A (dm (df<|eG 2) c.env) a2 a1 s:=by
 rw[ZX];have aq:bj (az w) c cG [("form",.int i),("ends",E)] s:=ah.small C.aT C.bJ C.cI<|rm<|a6 z<|a6 z dC;have aL:=ah.var (x:="known") (a:=aD) z;have ar:bj (az w) c cG [("known",.eb f.1 f.2),("form",.int i),("ends",E)] s:=aq.tell (L:=[(bp "known",.eb f.1 f.2)]) λaI M=>by rw[cm]at M;subst M;exact⟨_,aL,aj.map C aF aG⟩
 have ac:=ah.f9 C.aT C.bJ C.cI;refine d6<|uR<|(de V n).jM cG _ (a3 o2) k c s ar Y aA s (ak.refl s) ac.cB _ _ λB D=>?_;have H:=aj.ext C D;have j:=ah.ext D;have U:=C.ne.2.2.2.2.2;induction k using cq with
 |false=>
  rw[(KQ U K).1,(KQ U K).2]at q;exact hc<|hc<|q B j H D.bx
 |true=>
  have P:a∈[aD,aR,aV,a0]:=XF K;have aw:=C.ws a P;have au:bj (az w) (c.grow [aD,aR,aV,a0]) cG [("form",.int i),("place",p)] B:=j.qn<|rm<|a6 z<|a6 z dC;have as:bj (az w) c cG [("form",.int i),("place",p)] B:=j.small C.aT C.bJ C.cI<|rm<|a6 z<|a6 z dC;have aJ:=j.var (x:="borne") (a:=aR) z;have ap:bj (az w) c cG [("form",.int i),("place",p),("borne",.list [.ref aV,.ref a0])] B:=bj.sub (as.tell (L:=[(bp "borne",.list [.ref aV,.ref a0])]) λaI M=>by
   rw[cm]at M;subst M;obtain⟨aU,aZ,S,aI⟩:=H.l;exact⟨_,aJ,.list (C.x aR<|by simp) S<|aI.less λaY q=>.inl q⟩) λaP d S=>by
    rcases cJ.mp (mem_of_lookup S)with T|T;cases T;rfl;rcases cJ.mp T with T|T;cases T;rfl;rw[cm]at T;cases T;rfl
  have R:=j.f9 C.aT C.bJ C.cI;have aa:cU (c.grow [aD,aR,aV,a0]).X B a l:=XE H K;refine d6 (adu (c:=c.grow [aD,aR,aV,a0]) (aO:=[("form",.int i),("place",p)]) (n:=9) V Y z z (λaH=>(de V 9).cW cG _ Av (.ref a) c B ap Y ((adV (n:=0) i aV a0).trans (by rw[al];exact ay)) B (ak.refl B) R.cB _ _ λa4 ae ag ab=>ab.rK λbc=>bc▸aH ae ag) z (RS i) (aC aE z) j au aa aw.1 aw.2.1 (C.p a P) aw.2.2 (C.jP P) λaf ad av ao ai=>hc<|hc<|q af ad ?_ ?_);exact XG C.ne K H aw.1 (λS aS an ax aQ=>ao S aS an (λaN=>ax.elim (λaM=>aM<|.inl<|C.aT S aN) λaM=>C.x S aM<|C.aT S aN) aQ) ai;exact D.bx.trans (av.cut (λaW aP=>aP) λd w=>.inl (by rw[cm]at w;rw[w];exact P))
def Qt(aD aR aV a0:aE)(m:List Int×List aa)(cx dh e i:List aa)(b:Nat)(c:aE->Prop)(s:ax):Prop:=d7 aD aR aV a0 m (if b=0 then cx else e) (if b<=1 then dh else i) c s
def WJ:fI O (n+9) cG [] (fy<|eG 2) (et<|eG 2)=I [.int 0,.int 1]:=z
def ZO(R:cf (az w) O N)(S:N<=c.fuel)(M:O.item=d3)(ab:jc w c aD aR aV a0)(r:(aD==lz)=au)(ag:td O n p E m 0 cx=I b)(ai:td O n p E m 1 dh=I ac)(Y:m.1.Nodup)(ah:aX (az w) (c.grow [aD,aR,aV,a0]) cG (mJ bP fr G aD aR p E) [] s)(W:d7 aD aR aV a0 m cx dh (c.grow [aD,aR,aV,a0]).X s)(q:∀J,aX (az w) (c.grow [aD,aR,aV,a0]) cG (mJ bP fr G aD aR p E) [] J->d7 aD aR aV a0 m b ac (c.grow [aD,aR,aV,a0]).X J->cu (az w) (c.grow [aD,aR,aV,a0]) [aD,aR,aV,a0] s J->as .next J):aB (aK cy w) c.A (c3 (.For (fy<|eG 2) (et<|eG 2) (df<|eG 2) []<|p4<|eG 2) c.env) as ap s:=by
 obtain⟨iA,ad,ak,rfl⟩:=KI ag;obtain⟨Z,ae,jn,rfl⟩:=KI ai;have aa:bj (az w) (c.grow [aD,aR,aV,a0]) cG [] s:=ah.qn λm d f=>by cases f
 have P:=ab.ne.2.2.2.2.2;refine tU (c:=c.grow [aD,aR,aV,a0]) (σs:=λ_=>mJ bP fr G aD aR p E) (ds:=[.int 0,.int 1]) (Inv:=Qt aD aR aV a0 m cx dh (nR iA cx p)<|nR Z dh p) (oq:=[aD,aR,aV,a0]) ((de R 9).s9 cG [] _ _ _ _ s aa S WJ) (λm=>z) (λy aq=>z) (λy d D=>?_) (λaf k=>d7.keep af k) (λaf k=>d7.more af k) ab.ws ah W (λU aj y d ar K D H j C ao am T=>?_) λK j C al=>q K j C al;induction y using cN with
 |zero=>exact⟨_,aS D▸yP 0⟩
 |succ y=>
  induction y using cN with|zero=>exact⟨_,aS D▸yP 1⟩|succ y=>exact nS D
 have V:=ab.grow (wr:=U)<|W.fresh aj;rw[vS]at j C T;have gA:∀y:Int,∀m an,(mJ bP fr G aD aR p E).lookup m=I an->(C7 bP fr G aD aR p E y).lookup m=I an:=λy=>rT (aO:=[("form",.int y)])<|a6 z dC;induction y using cN with
 |zero=>
  obtain rfl:=aS D;rw[yP]at H;obtain rfl:=aS H;refine NU (c:=c.grow U) (i:=0) (k:=iA) (a:=aV) (l:=cx) R S M V r rfl (.inl ⟨rfl,rfl⟩) ad ak Y j C λg t B L=>T g (t.sub (gA 0) z) ?_ L;rw[if_pos rfl,if_pos rfl]at B;exact B
 |succ y=>
  induction y using cN with
  |zero=>
   obtain rfl:=aS D;rw[yP]at H;obtain rfl:=aS H;refine NU (c:=c.grow U) (i:=1) (k:=Z) (a:=a0) (l:=dh) R S M V r rfl (.inr ⟨rfl,rfl⟩) ae jn Y j C λg t B L=>T g (t.sub (gA 1) z) ?_ L;rw[if_neg<|show¬a0=aV fromλf=>P f.symm,if_neg<|show¬a0=aV fromλf=>P f.symm]at B;exact B
  |succ y=>exact nS D
end
section
variable{w:a4}{c:bX}{aD aR aV a0:aE}{s:ax}{O:b0}{N n:Nat}{bP fr G p:aa}
def XM{m:List Int×List aa}{a r:List aa}{J:ax}(l:jc w c aD aR aV a0)(n:d7 aD aR aV a0 m a r (c.grow [aD,aR,aV,a0]).X s)(i:cu (az w) (c.grow [aD,aR,aV,a0]) [] s J):d7 aD aR aV a0 m a r (c.grow [aD,aR,aV,a0]).X J:=n.keep λp d j f=>i.keep p d f (λi=>j.elim (λg=>g<|.inl<|l.aT p i) λg=>l.x p g<|l.aT p i) (λk=>j.elim (λg=>g<|.inl<|l.bJ p k) λg=>l.x p g<|l.bJ p k) nofun
def aeA(m:cf (az w) O N)(B:N<=c.fuel)(D:O.item=d3)(M:jc w c aD aR aV a0)(r:(aD==lz)=au){st f:om}(k:Dh O n fr G p st=I f)(U:st.1.1.Nodup)(ah:aX (az w) (c.grow [aD,aR,aV,a0]) cG (C8 bP fr G aD aR p) [] s)(T:d7 aD aR aV a0 st.1 st.2.1 st.2.2 (c.grow [aD,aR,aV,a0]).X s)(q:∀J,aX (az w) (c.grow [aD,aR,aV,a0]) cG (zf bP fr G aD aR) [] J->f.1.1.Nodup->d7 aD aR aV a0 f.1 f.2.1 f.2.2 (c.grow [aD,aR,aV,a0]).X J->cu (az w) (c.grow [aD,aR,aV,a0]) [aD,aR,aV,a0] s J->al .next J):aB (aK cy w) c.A (dm (df<|gX 1) c.env) al ac s:=by rw[aai];refine bK k λab S k=>bK k λb d k=>bK k λaf ae k=>bK k λV P k=>bK k λW R l=>?_;obtain rfl:=zN d;obtain rfl:=aS l;have mP:bj (az w) ((c.grow [aD,aR,aV,a0]).grow []) cG [("place",p)] s:=nB.symm▸ah.qn (rm<|a6 z dC);refine d6<|Ii (c:=c.grow [aD,aR,aV,a0]) m B ah mP S (S8<|.list b) λfg j dd=>?_;have b3:=dd.forget;have g:=XM M T b3;refine d6<|ZN m B M r ae U j g λb8 t a i H=>?_;refine d6<|ZO m B D M r P R a t i λcP C h K=>hc<|q cP (C.sub (λL Y aa=>?_) z) a h<|((b3.cut (λad L=>L) nofun).trans H).trans K;exact rT (σ:=C8 bP fr G aD aR p) (aO:=[("ends",.list b)]) (a6 z dC) L Y<|rT (σ:=zf bP fr G aD aR) (aO:=[("place",p)]) (a6 z dC) L Y aa
def BW(O:b0)(n:Nat)(fr G:aa)(aD aR aV a0:aE)(k:List aa)(t:om)(b:Nat)(c:aE->Prop)(s:ax):Prop:=∃st:om,zk O n fr G (k.drop b) st=I t/\st.1.1.Nodup/\d7 aD aR aV a0 st.1 st.2.1 st.2.2 c s
def Yr:sA (BW O n fr G aD aR aV a0 b t) [aD,aR,aV,a0]:=λ⟨m,g,a,e⟩ k=>⟨m,g,a,e.keep k⟩
def Ys:sC (BW O n fr G aD aR aV a0 b t):=λ⟨m,g,a,e⟩ k=>⟨m,g,a,e.more k⟩
def S4(w:a4)(V:cf (az w) O N)(ai:O.item=d3)(bg:tc O n [.list k,fr,G]=I d):cM (az w) (.ref 283) [.list k,fr,G] (N+1) d:=by
 refine bK bg λae aL aM=>?_;intro bu br s al aK p bt bs q;refine ta (C:=az w) (N:=N) (J3 w) Nb (by rw[p.length,Fg];rfl) aK λc ac K be=>?_;have ah:=K.sim Nb (by rw[Fg];rfl) aK p;rw[adK]at ah;have Y:N<=c.fuel:=cL K.fuel.symm;rw[SU];refine d6<|adE (x:="known") (y:="borne") ah Sj λaD aR aV a0 b8 aQ U aj t R S m P aw=>?_;have M:=λam(w:am∈[aD,aR,aV,a0])=>ah.cB.gm<|U am w;have J:jc w c aD aR aV a0:=⟨aQ,λam w=>(M am w).2.2,λam w=>(M am w).2.1,K.good.aT,λd aB=>ah.bJ d aB,λn d W=>ah.cI n d W⟩;have aq:bj (az w) (c.grow [aD,aR,aV,a0]) cG [("places",.list k)] b8:=t.qn<|rm<|a6 z dC;have aO:bq (az w) (c.grow [aD,aR,aV,a0]) (et<|gX 1) b8 (.list k):=(de V 9).cW cG _ _ _ _ b8 aq Y z;refine d6<|tU (c:=c.grow [aD,aR,aV,a0]) (σs:=λ_=>zf (.list k) fr G aD aR) (Inv:=BW O n fr G aD aR aV a0 k ae) (oq:=[aD,aR,aV,a0]) (dN.list aO) (λa9=>z) (λbb bh=>z) (λbb d ag=>⟨_,IU d⟩) Yr Ys J.ws t ⟨(([],[]),[],[]),aL,Gk,⟨R,S,m,P⟩⟩ (λaA aP bb d bp cP ag T B H bf a' as=>?_) λcP B H a3=>?_;rw[IU]at T;obtain rfl:=aS T;obtain⟨st,D,aa,j⟩:=H;rw[JF ag]at D;refine bK D λav aN ab=>?_;have aC:=J.grow (wr:=aA)<|(d7.mk (x:=([],[])) R S m P).fresh aP;rw[vS]at B j as;exact aeA (c:=c.grow aA) V Y ai aC aj aN aa B j λgS f an af ax=>as gS f ⟨av,ab,an,af⟩ ax;obtain⟨st,D,aa,j⟩:=H;rw[OE]at D;obtain rfl:=aS D;have f:=B.f9 J.aT J.bJ J.cI;have ap:bj (az w) c cG [] cP:=f.qn λa9 d W=>by cases W
 have a7:=B.var (x:="known") (a:=aD) z;have a5:=B.var (x:="borne") (a:=aR) z;have ar:bj (az w) c cG (Ao st) cP:=bj.sub (ap.tell (L:=Ao st)<|a6 ⟨_,a7,j.map J aj aa⟩<|a6 ⟨_,a5,?_⟩ dC) λaB d W=>by rw[pl];exact W
 refine d6<|x1<|(de V n).cW _ _ _ _ c cP ar Y aM cP (ak.refl cP) f.cB _ _ λbc j8 a_ aU=>?_;have ay:cu (az w) c [aD,aR,aV,a0] ac j8:=((aw.cut (gV:=[aD,aR,aV,a0]) (λbv aB=>aB) nofun).trans a3.f9).trans a_.bx;obtain⟨a9,aW⟩:=K.leave aK (gV:=[aD,aR,aV,a0]) ⟨ay,λba j=>.inr<|U ba j,nofun⟩ aU;exact q bc j8 a9 aW;obtain⟨bm,bi,aF,aX⟩:=j.l;obtain⟨bn,bk,aG,aY⟩:=j.a;obtain⟨bo,hF,aH,aZ⟩:=j.b;have ao:∀{al k},RzL (c.grow [aD,aR,aV,a0]).X cP.heap al k->RzL c.X cP.heap al k:=λaU=>aU.less λba q=>.inl q;refine .list (J.x aR<|by simp) aF ?_;refine aX.cK λbc bd a1 p W=>p.cK λbl a8 a2 au aE=>au.nK λad=>?_;refine a1.rK λaI=>a2.rK λaJ=>?_;subst W aE ad aI aJ;exact .cons (.list (J.x aV<|by simp) aG<|ao aY) (.cons (.list (J.x a0<|by simp) aH<|ao aZ) .nil)
end
def I3:List aa->Option aa|[.list k]=>(oe k).bind λxs=>if bG xs.length 4000 then I (.iX xs)else ag|_=>ag
def Yj(bP:List (Int×Tok)):IntsAre (bP.map λp=>Value.int p.1 p.2) (bP.map (·.1)):=by induction bP with|nil=>exact .nil|cons p bP tg=>exact .cons p.1 p.2 tg
def Xi(t:List Int):(bO t.length).map (λy=>t.getD y 0)=t:=by refine List.ext_getElem (by simp) λy g q=>?_;simp[n6 q]
set_option tactic.hygienic true in
def TC{xs:List Int}(Z:oe ac=I xs)(P:xs.length<=4000):cM C (.type "set") [.list ac] al (.iX xs):=by
 intro am ah d ae U B aj ai q;cases B;rename_i T B;cases B;cases T;rename_i W ad ab aa t B;obtain⟨n,rfl,rfl⟩:=zz Z B;have M:d.heap.IsList W (n.map λc=>bE c.1 c.2).toArray:=⟨_,t,rfl,ab,rfl⟩;have K:(n.map λc=>bE c.1 c.2).toArray.size=(n.map (·.1)).length:=by simp
 have D:(n.map (·.1)).length+1<PY:=cH (jx P) z;refine hO (bM d.toks) (call_set_list U.handled M (by simpa using Yj n) (by rw[K];exact D) λy r H O=>?_);rw[K]at H;intro S;obtain⟨V,R,F⟩:=H.objOf;have J:=firstMet_length_le (λf=>(n.map (·.1)).getD f 0) (n.map (·.1)).length;have ag:ak C d {d with heap:=y,toks:=r}:=ak.of_keep (λY V L=>O Y V (fe L) L) S;refine q _ _ ag<|.iX U.fresh R ⟨F.1,cH J<|O2 D⟩ λG af=>?_;have L:(λj=>(firstMet (λf=>(n.map (·.1)).getD f 0) (n.map (·.1)).length).any (·==j))=λk=>(n.map (·.1)).contains k:=funext λk=>by rw[firstMet_any,Xi];rw[ui];simp
 exact L▸F.intSetOf G af
def Xm(n:a4):b4 (az n) "set" (.type "set"):=ix z z
def Ax(l:Nat):List (ar×(List aa->Option aa)):=[("_law_mirrored",p6 (hg 7 l) l),("_law_borne",tc (hg 7 l) l),("set",I3)]
def lR(l:Nat)(s:ar)(q:List aa):Option aa:=dj (k0 s q)<|((Ax l).lookup s).bind λj=>j q
def LH(l:Nat):jF:={BO l with hand:=lR l}
set_option tactic.hygienic true in
def XH(B:a4)(l:Nat)(y:209<=j):∀s q d,lR l s q=I d->∃C,b4 (az B) s C/\ei (az B) C/\cM (az B) C q j d:=by
 have x:∀{i:aE}{g:gQ}{n:List ar}{aP:List aF},dA (az B) i g n aP->ei (az B) (.ref i):=λl=>ei.fn λA H=>by obtain⟨M,G,D,E,O⟩:=l.cls A H;exact⟨M,G,D,E⟩
 have all:∀K∈Ax l,∃C,b4 (az B) K.1 C/\ei (az B) C/\∀q d,K.2 q=I d->cM (az B) C q j d:=by
  refine a6 ⟨_,W8 B,x<|J1 B,λq d A=>(aao B (HH B 7 l) A).mono y⟩<|a6 ⟨_,Xc B,x<|J3 B,λq d A=>?_⟩<|a6 ⟨_,Xm B,j6 _,λq d A=>?_⟩ dC
  ·replace A:tc (hg 7 l) l q=I d:=A;induction q using a8 with
   |nil=>exact nS A
   |cons i r=>
   cases i<;>try exact nS A
   induction r using a8 with
   |nil=>exact nS A
   |cons J r=>
   induction r using a8 with
   |nil=>exact nS A
   |cons P r=>
   induction r using a8 with|cons=>exact nS A|nil=>exact(S4 B (HH B 7 l) rfl A).mono y
  replace A:I3 q=I d:=A;induction q using a8 with
  |nil=>exact nS A
  |cons i r=>
  cases i<;>try exact nS A
  induction r using a8 with|cons=>exact nS A|nil=>exact bK A λxs ae A=>(cj A).2▸TC ae (d0 (cj A).1)
 intro s q d A;rcases E2 A with A|A;exact KU B (aC z y) s q d A;refine bK A λk m A=>?_;obtain⟨C,i,J,L⟩:=all (s,k)<|mem_of_lookup m;exact⟨C,i,J,L q d A⟩
def Zu(n:a4)(l:Nat)(y:209<=t):j9 (az n) (LH l) t (rx n.params):={LG n l (aC z y)with hand:=XH n l y}
def vc(k l:Nat):b0:=Ab (LH l) l k
def yr(n:a4)(k l:Nat):cf (az n) (vc k l) (209+k):=Mi (Zu n l<|bM _) k
section
variable{O:Nat->b0}{S:aZ}{M:List ar}{σ aW:aG}{r:fH}
def aI.nil:aI O S M σ [] (.next σ):=a5.nU λl y=>rfl
def aI.cons{st:aF}{p:List aF}(j:aH O S M σ st (.next aW))(k:aI O S M aW p r):aI O S M σ (st::p) r:=(j.and k).succ λl y q=>bF q.1 q.2
theorem aI.ret{st:aF}(j:aH O S M σ st (.ret d)):aI O S M σ (st::p) (.ret d):=j.succ λl y q=>bF q rfl
def vw(M:List ar)(st:aF):Bool:=(i7 st).elim au λx=>(ec x.1).elim au λr=>(fp r).elim (js r).isSome λy=>!M.contains y.1
inductive BI(M:List Str):Stmt->Prop
 |name {x p e q} (h:M.contains x=false):BI M (.Assign [.Name x p] e q)
 |tup {AA k p e q}:BI M (.Assign [.Tuple AA k p] e q)
def Ih{st:aF}(j:vw M st=ab):BI M st:=by obtain⟨x,k,j⟩:=fh j;obtain⟨r,b,j⟩:=fh j;rw[N6 k,oX b];induction p:fp r using b7 with|some c=>rw[p]at j;rw[jW p];exact .name (ks j)|none=>rw[p]at j;exact(mK j).elim λd a=>ua a▸.tup
def aH.asg{st:aF}(a:vw M st=ab)(ao:(σ.pure||fu d)=ab)(i:aj O S σ.plus (a3 st) d)(j:pS S (fo st) (a3 st) d=I w):aH O S M σ st (.next<|σ.vals w):=by cases Ih a with|name b=>exact i.succ λl y c=>oP (oU b) (bF (bF c<|eO ao rfl)<|nM j rfl)|tup=>exact i.succ λl y c=>bF (bF c<|eO ao rfl)<|nM j rfl
def K5(st:aF):Bool:=(pf st).elim au λx=>x.2.2.1.isEmpty
def X6{st:aF}(j:K5 st=ab):∃r a s,st=.If r a [] s:=(fh j).elim λx n=>⟨x.1,x.2.1,x.2.2.2,pn.mp n.2▸N9 n.1⟩
def aH.skip{st:aF}(a:K5 st=ab)(j:bS O S σ.plus (a3 st) au):aH O S M σ st (.next σ):=by obtain⟨r,c,s,rfl⟩:=X6 a;exact(j.and<|aI.nil (O:=O) (S:=S) (M:=M) (σ:=σ)).succ λl y j=>bF j.1 j.2
def Lg(st:aF):Bool:=(xh st).elim au λx=>x.1.isSome
def YF{st:aF}(j:Lg st=ab):∃f s,st=.Return (I f) s:=(fh j).elim λx n=>(mK n.2).elim λf q=>⟨f,x.2,q▸afb n.1⟩
theorem aH.ret{st:aF}(a:Lg st=ab)(j:aj O S σ.plus (a3 st) d):aH O S M σ st (.ret d):=by obtain⟨f,s,rfl⟩:=YF a;exact j.succ λl y j=>nM j rfl
def zA(st:aF):Bool:=(rW st).elim au λx=>x.2.2.2.1.isEmpty
def Dr{st:aF}(j:zA st=ab):∃r y a s,st=.For r y a [] s:=(fh j).elim λx n=>⟨x.1,x.2.1,x.2.2.1,x.2.2.2.2,pn.mp n.2▸afa n.1⟩
def hW.nil:hW O S M σ a p [] (.next σ):=a5.nU λl y=>rfl
def hW.cons{c:ai}{p:List aF}{d:aa}{a:List aa}{aO:bQ}(j:dq S c d []=I aO)(e:aI O S M (σ.vals aO) p (.next aW))(k:hW O S M aW c p a r):hW O S M σ c p (d::a) r:=(e.and k).succ λl y q=>bF j<|bF q.1 q.2
end
def xa(f:ai):ai:=((d_ f).ifs.head?).getD f
def jG(a:aZ)(f:ai):aZ:=(a.comp<|hY f).getD a
def pQ(a:aZ)(f:ai)(w:bQ)(d:aa):bQ:=(kU (jG a f) (d_ f).target d<|h2 (hY f) w).getD []
abbrev dB(k:Nat):Nat->b0:=hg k
def u3(g:mE.lookup s=ag)(q:oM.lookup s=ag)(c:ra.lookup s=I G)(e:(hu G.sc G.params&&b.length==G.params.length)=ab)(j:aI (dB k) (aZ.fn G.sc) G.own (cT G.params b) G.body (.ret d)):a5 λl m=>(dB (k+1) l).call s b=I d:=by obtain⟨t,j⟩:=j;refine⟨t,λl y i m=>?_⟩;show dj (fJ s b) (dj (k0 s b)<|(ra.lookup s).bind λG=>k9 (hg k l) G.own G.sc G.params G.body l b)=I d;unfold fJ k0;rw[g,q,c];show k9 (hg k l) G.own G.sc G.params G.body l b=I d;unfold k9;rw[if_pos e,j l l i i]
def Cu(b:mE.lookup s=I g)(c:g a=I d):a5 λl h=>(dB k l).call s a=I d:=⟨0,λl y h h=>by
  have i:fJ s a=I d:=by unfold fJ;rw[b];exact c
  induction k using cN with
  |zero=>
   show dj (fJ s a) (k0 s a)=I d;rw[i];rfl
  |succ k=>
   show dj (fJ s a) _=I d;rw[i];rfl⟩
section
variable{O:Nat->b0}{S:aZ}{aO:bQ}{M:List ar}{σ:aG}
def aj.leaf(K:Nat)(j:∀l t,bc (O<|l+K) (t+K) S aO f=x)(ae:x=I d):aj O S aO f d:=a5.of K λl t=>(j l t).trans ae
def bS.leaf(K:Nat)(j:∀l t,fW (O<|l+K) (t+K) S aO f=x)(ae:x=I k):bS O S aO f k:=a5.of K λl t=>(j l t).trans ae
def dw.leaf(K:Nat)(j:∀l b,fI (O<|l+K) (b+K) S aO r f=x)(ae:x=I a):dw O S aO r f a:=a5.of K λl b=>(j l b).trans ae
def aj.lf(K:Nat)(d:aa)(j:∀l t,bc (O<|l+K) (t+K) S aO f=I d):aj O S aO f d:=a5.of K j
def bS.lf(K:Nat)(k:Bool)(j:∀l t,fW (O<|l+K) (t+K) S aO f=I k):bS O S aO f k:=a5.of K j
def dw.lf(K:Nat)(q:List aa)(j:∀l a,fI (O<|l+K) (a+K) S aO r f=I q):dw O S aO r f q:=a5.of K j
def I0(S:aZ)(f:ai):Bool:=wa f&&(S.comp<|hY f).isSome&&(vE f).isEmpty&&(d_ f).ifs.isEmpty
def I1(S:aZ)(f:ai):Bool:=wa f&&(S.comp<|hY f).isSome&&(vE f).isEmpty&&(d_ f).ifs.length==1
def HP(j:(S.comp<|hY f).isSome=ab):S.comp (hY f)=some (jG S f):=by unfold jG;induction q:S.comp (hY f)using b7 with|none=>rw[q]at j;cases j|some m=>rfl
def HK(j:(kU (jG S f) (d_ f).target d<|h2 (hY f) aO).isSome=ab):kU (jG S f) (d_ f).target d (h2 (hY f) aO)=some (pQ S f aO d):=by unfold pQ;induction q:kU (jG S f) (d_ f).target d (h2 (hY f) aO)using b7 with|none=>rw[q]at j;cases j|some m=>rfl
def aj.k7{n:Type}(k:List n)(s d:n->aa)(i:I0 S e=ab)(h:dw O S aO (d_ e).target (d_ e).iter (k.map s))(j:∀b,(kU (jG S e) (d_ e).target (s b)<|h2 (hY e) aO).isSome=ab) (ae:∀b∈k,aj O (jG S e) (pQ S e aO<|s b) (fZ e)<|d b) (y:k.length<=1000000):aj O S aO e (.list<|k.map d):=by unfold I0 at i;simp only[c0,pn]at i;refine aj.comp i.1.1.1 (HP i.1.1.2) h ?_ (by rw[eT];exact y);rw[i.1.2,i.2];have:=gU.map (O:=O) (S:=jG S e) (aO:=h2 (hY e) aO) (elt:=fZ e) (t:=(d_ e).target) (ifs:=[]) s d (λc=>ab) k λb p=>⟨_,HK<|j b,gc.nil,λc=>ae b p⟩;rwa [List.filter_eq_self.mpr λc c=>rfl]at this
def aj.zS{n:Type}(d:List n)(s q:n->aa)(k:n->Bool)(i:I1 S e=ab)(w:dw O S aO (d_ e).target (d_ e).iter (d.map s))(j:∀c,(kU (jG S e) (d_ e).target (s c)<|h2 (hY e) aO).isSome=ab) (m:∀c∈d,bS O (jG S e) (pQ S e aO<|s c) (xa e)<|k c) (ae:∀c∈d,k c=ab->aj O (jG S e) (pQ S e aO<|s c) (fZ e) (q c)) (y:d.length<=1000000):aj O S aO e (.list<|(d.filter k).map q):=by
 unfold I1 at i;simp only[c0,pn,beq_iff_eq]at i;refine aj.comp i.1.1.1 (HP i.1.1.2) w ?_ (by rw[eT];exact aC (OM ..) y);rw[i.1.2];have:(d_ e).ifs=[xa e]:=by unfold xa;match(d_ e).ifs,i.2 with|[r],b=>rfl
 rw[this];exact gU.map s q k d λc p=>⟨_,HK<|j c,gc.one<|m c p,λx=>ae c p x⟩
def aH.to{st:aF}(a:vw M st=ab)(ao:(σ.pure||fu d)=ab)(j:pS S (fo st) (a3 st) d=I f_)(r:σ.vals f_=aW)(i:aj O S σ.plus (a3 st) d):aH O S M σ st (.next aW):=r▸aH.asg a ao i j
def aH.name(m:ar)(d:aa){st:aF}(a:vw M st=ab)(ao:σ.pure=ab)(j:pS S (fo st) (a3 st) d=I [(m,d)])(r:σ.vals [(m,d)]=aW)(i:aj O S σ.plus (a3 st) d):aH O S M σ st (.next aW):=aH.to a (by rw[ao];rfl) j r i
end
def ik(i p:Nat):bu .Add (af i) (af p)=I (af<|i+p):=rfl
def rN(j:p<=c):bu .Sub (af c) (af p)=I (af<|c -p):=by exact congrArg (λy=>I<|aa.int y) (AW j).symm
def kr(i:Nat)(j:0<p):bu .Mod (af i) (af p)=I (af<|i%p):=by show(if(((p:Nat):Int)!=0)=ab then I (aa.int _)else ag)=_;rw[if_pos<|oW j,Ou _<|iG _,<-Int.natCast_emod];rfl
def oF(i:Nat)(c:0<b)(j:b<2^250):bu .FloorDiv (af i) (af b)=I (af<|i/b):=by show(if(((b:Nat):Int)!=0)&&!pv (i:Nat) (b:Nat)then I (aa.int _)else ag)=_;rw[Hx<|show((b:Nat):Int).natAbs<2^250 from j,oW c,if_pos rfl,Ot _<|iG _,<-Ox];rfl
def ab7(p:i<2^100)(m:k<=1000):bu .Pow (af i) (af k)=I (af<|i^k):=by
 show(if decide (0<=((k:Nat):Int))&&!Bc (((eU (i:Nat):Nat):Int)*(k:Nat))then I (aa.int _)else ag)=_;have j:eU ((i:Nat):Int)<=100:=zw p;have g:Bc (((eU (i:Nat):Nat):Int)*(k:Nat))=au:=
  decide_eq_false (g8.mpr<|hv.mpr<|aC (xB j m)<|show 100*1000<=bitsLine by decide)
 rw[g,if_pos (by simp),n5];unfold af;rw[Int.natCast_pow]
noncomputable def q(x:Str)(d:aa)(σ:aG):aG:=(x,.val d)::σ
mutual
noncomputable def y0:aa->aa->Bool|.none=>λp=>p.ctorIdx==0|.bool i=>λp=>if j:p.ctorIdx=1 then aa.bool.elim (motive_1:=λ_=>Bool) p j λm=>i==m else au|.int i=>λp=>if j:p.ctorIdx=2 then aa.int.elim (motive_1:=λ_=>Bool) p j λm=>i==m else au|.float i=>λp=>if j:p.ctorIdx=3 then aa.float.elim (motive_1:=λ_=>Bool) p j λm=>i==m else au|.str i=>λp=>if j:p.ctorIdx=4 then aa.str.elim (motive_1:=λ_=>Bool) p j λm=>i==m else au|.tuple i=>λp=>if j:p.ctorIdx=5 then aa.tuple.elim (motive_1:=λ_=>Bool) p j λm=>y1 i m else au|.list i=>λp=>if j:p.ctorIdx=6 then aa.list.elim (motive_1:=λ_=>Bool) p j λm=>y1 i m else au|.obj g i=>λp=>if j:p.ctorIdx=7 then aa.obj.elim (motive_1:=λ_=>Bool) p j λd m=>pq g d&&CJ i m else au|.dict _=>λ_=>au|.ref _=>λ_=>au|.eb _ _=>λ_=>au|.iX _=>λ_=>au
noncomputable def y1:List aa->List aa->Bool
 |[]=>λk=>k.isEmpty
 |a::k=>λw=>match w with|[]=>au|b::w=>y0 a b&&y1 k w
noncomputable def CJ:List (ar×aa)->List (ar×aa)->Bool
 |[]=>λk=>k.isEmpty
 |(m,i)::k=>λw=>match w with|[]=>au|(c,p)::w=>m==c&&y0 i p&&CJ k w
end
mutual
theorem CL:∀{i p:aa},y0 i p=ab->i=p
 |.none,p,j=>by cases p<;>first|rfl|exact fT j
 |.bool k,p,j=>by cases p<;>first|exact congrArg _ (bL j)|exact fT j
 |.int k,p,j=>by cases p<;>first|exact congrArg _ (bL j)|exact fT j
 |.float k,p,j=>by cases p<;>first|exact congrArg _ (bL j)|exact fT j
 |.str k,p,j=>by cases p<;>first|exact congrArg _ (bL j)|exact fT j
 |.tuple d,p,j=>by cases p<;>first|exact congrArg _ (CK j)|exact fT j
 |.list d,p,j=>by cases p<;>first|exact congrArg _ (CK j)|exact fT j
 |.obj g d,p,j=>by cases p<;>first|exact fT j|exact O0 (aM j).1▸congrArg _ (Jt (aM j).2)
 |.dict k,p,j=>by cases p<;>exact fT j
 |.ref k,p,j=>by cases p<;>exact fT j
 |.eb _ _,p,j=>by cases p<;>exact fT j
 |.iX _,p,j=>by cases p<;>exact fT j
theorem CK:∀{a p:List aa},y1 a p=ab->a=p
 |[],p,j=>by cases p<;>first|rfl|exact fT j
 |a::k,p,j=>by induction p using a8 with|nil=>exact fT j|cons p w=>exact CL (aM j).1▸congrArg _ (CK (aM j).2)
theorem Jt:∀{i p:List (ar×aa)},CJ i p=ab->i=p
 |[],p,j=>by cases p<;>first|rfl|exact fT j
 |(m,i)::k,p,j=>by
  induction p using a8 with
  |nil=>exact fT j
  |cons p w=>
   cases p with|mk c p=>exact bL (aM (aM j).1).1▸CL (aM (aM j).1).2▸congrArg _ (Jt (aM j).2)
end
def km(a:Option aa)(d:aa):Bool:=match a with|some f=>y0 f d|none=>au
def k3(j:km a d=ab):a=some d:=by induction a using b7 with|none=>cases j|some f=>exact congrArg some<|CL j
section
variable{O:Nat->b0}{S:aZ}{M:List ar}{σ:aG}
def Mm(S:aZ)(M:List ar)(m:ar)(st:aF):Bool:=(i7 st).elim au λa=>(ec a.1).elim au λr=>(fp r).elim au λy=>m==y.1&&(M.contains m&&(rd a.2.1&&i1 S m))
def abx{st:aF}(j:Mm S M m st=ab):∃s f q,st=.Assign [.Name m s] f q/\M.contains m=ab/\(rd f&&i1 S m)=ab:=by obtain⟨c,k,j⟩:=fh j;obtain⟨r,b,j⟩:=fh j;obtain⟨y,a,j⟩:=fh j;exact⟨y.2,c.2.1,c.2.2,by rw[N6 k,oX b,jW a,bL (aM j).1],(aM (aM j).2).1,(aM (aM j).2).2⟩
def aH.fresh(m:ar){st:aF}(a:Mm S M m st=ab)(d:gH ds=ab)(i:aj O S σ.plus (a3 st) (.list ds))(r:σ.set m (.own ds)=aW):aH O S M σ st (.next aW):=by obtain⟨s,f,q,rfl,g,b⟩:=abx a;exact r▸i.succ λl y j=>eO g<|eO b<|bF (bF j rfl)<|eO d rfl
def Ip(f:aF):ai:=(AI f).elim h9 (·.2.2.1)
def Cj(S:aZ)(m:ar)(c:iJ)(st:aF):Bool:=(AI st).elim au λa=>(fp a.1).elim au λy=>m==y.1&&(a.2.1==c&&i1 S m)
def Iq{st:aF}(j:Cj S m c st=ab):∃s f q,st=.AugAssign (.Name m s) c f q/\i1 S m=ab:=by obtain⟨b,k,j⟩:=fh j;obtain⟨y,a,j⟩:=fh j;exact⟨y.2,b.2.2.1,b.2.2.2,by rw[ae7 k,jW a,bL (aM j).1,bL (aM (aM j).2).1],(aM (aM j).2).2⟩
def aH.Sb(m:ar){st:aF}(a:Cj S m .Add st=ab)(ae:σ.lookup m=I (.own l))(d:gH ds=ab)(y:l.length+ds.length<=1000000)(i:aj O S σ.plus (Ip st) (.list ds))(r:σ.set m (.own<|l++ds)=aW):aH O S M σ st (.next aW):=by
 obtain⟨s,f,q,rfl,b⟩:=Iq a;have g:(gH ds&&bG (l.length+ds.length) 1000000)=ab:=by rw[d,h_.mpr y];rfl
 exact r▸i.succ λk t j=>oP (by rw[b];decide) (bF j (by rw[ae];exact eO rfl<|bF rfl<|eO g rfl))
def aH.yG(m:ar)(c:iJ){st:aF}(g:Cj S m c st=ab)(ae:σ.lookup m=I (.val a))(i:aj O S σ.plus (Ip st) b)(t:∀l,(O l).aug c a b=I d)(w:(σ.pure||fu d)=ab)(r:σ.set m (.val d)=aW):aH O S M σ st (.next aW):=by obtain⟨s,f,q,rfl,k⟩:=Iq g;exact r▸i.succ λl y j=>oP (by rw[k];decide) (bF j (by rw[ae];exact bF (t l)<|eO w rfl))
def aH.loop{st:aF}(a:zA st=ab)(c:o7 S σ (et st)=ag)(l:m2 (et st)=ag)(g:dw O S σ.strict (fy st) (et st) ds)(ao:(σ.pure||gH ds)=ab)(j:hW O S M σ (fy st) (df st) ds w):aH O S M σ st w:=by obtain⟨k,y,e,s,rfl⟩:=Dr a;exact(g.and j).succ λd f j=>bF (vL c<|vL (by unfold w7;rw[show m2 y=ag from l];rfl)<|bF j.1<|eO ao rfl) j.2
end
section
variable{O:Nat->b0}{S:aZ}{aO:bQ}
def Dt(f:ai):Bool:=(pg f).elim au λx=>o1 x.1&&bG x.2.2.2.1.length 20&&x.2.2.1.endLine==x.2.2.2.2.line
def Z'(f:ai):ar:=(pg f).elim "" (·.2.1)
inductive HD:ai->Prop
 |mk {aQ m ap args p} (Kz:(o1 aQ&&bG args.length 20&&ap.endLine==p.line)=true):HD (.Call (.Attribute aQ m ap) args [] p)
def Ld(j:Dt f=ab):HD f:=(fh j).elim λx n=>FX n.1▸.mk n.2
theorem aj.en(i:Dt f=ab)(q:aj O S aO (tu f) a)(p:aL O S aO (bD f) ds)(b:a5 λl k=>(O l).en a (Z' f) ds=I d):aj O S aO f d:=by
 cases Ld i with|mk g=>
 exact((q.and p).and b).succ λl y j=>eO g<|bF j.1.1<|bF j.1.2 j.2
def zU(l:(c==("split":ar))=au)(e:mM i c b=I d):wk i c b=I d:=(if_neg<|oU l).trans e
def aaa{k:Nat}{i d:aa}{e:ar}{q:List aa}(c:(match i with|.obj Z t=>au|Z=>ab)=ab)(l:(e==("split":ar))=au)(b:mM i e q=I d):a5 λf Z=>(dB k f).en i e q=I d:=⟨0,λf y Z Z=>by
  induction k using cN with
  |zero=>exact zU l b
  |succ k=>cases i<;>first|exact zU l b|cases c⟩
def YD(f:ai):Bool:=(AP f).elim au λx=>x.1==.Not
def bS.not(i:YD f=ab)(j:bS O S aO (dT f) k):bS O S aO f (!k):=by obtain⟨c,a,b⟩:=fh i;obtain⟨m,s,rfl⟩:∃m s,f=.UnaryOp .Not m s:=⟨_,_,bL b▸afe a⟩;exact j.succ λl y j=>nM j rfl
def Yv(f:ai):Bool:=(kD f).isSome||(fp f).isSome
def bS.ev(i:Yv f=ab)(j:aj O S aO f d)(m:∀l,(O l).truth d=I k):bS O S aO f k:=by rcases afr.mp i with q|q;obtain⟨x,a⟩:=mK q;rw[AK a]at j ⊢;exact j.succ λl n j=>bF j<|m l;obtain⟨x,a⟩:=mK q;rw[jW a]at j ⊢;exact j.succ λl n j=>bF j<|m l
def sM(c:uB)(f:ai):List ai:=(AJ f).elim [] λx=>if x.1==c then x.2.1 else[]
def gc.Ml:gc O S aO .Or [] au:=a5.nU λl y=>rfl
def gc.Ad(j:bS O S aO f au)(k:gc O S aO .Or b au):gc O S aO .Or (f::b) au:=(j.and k).succ λl y j=>bF j.1 j.2
def S1(j:sM c f≠[]):∃s,f=.BoolOp c (sM c f) s:=by
 unfold sM at j ⊢;induction k:AJ f using b7 with
 |none=>rw[k]at j;exact absurd rfl j
 |some x=>
  rw[k]at j;by_cases q:(x.1==c)=ab;refine⟨x.2.2,(ae8 k).trans ?_⟩;show _=PySem.Expr.BoolOp c (if(x.1==c)=ab then x.2.1 else[]) _;rw[if_pos q,bL q];exact absurd (if_neg q) j
def bS.or(i:sM .Or f=bf)(a:bf≠[])(j:gc O S aO .Or bf k):bS O S aO f k:=by subst i;obtain⟨s,q⟩:=S1 a;rw[q];exact j.succ λl y j=>j
end
def cw(f:ai):ai:=((bD f).head?).getD f
section
variable{O:Nat->b0}{S:aZ}{M:List ar}{σ:aG}{r:fH}
def gM(f:aF):List aF:=(pf f).elim [] (·.2.2.1)
def Ds(f:aF):Bool:=(pf f).isSome
def Lc{st:aF}(j:Ds st=ab):∃r a d s,st=.If r a d s:=(mK j).elim λx n=>⟨_,_,_,_,N9 n⟩
def aH.hq{st:aF}(a:Ds st=ab)(j:bS O S σ.plus (a3 st) ab)(k:aI O S M σ (c5 st) r):aH O S M σ st r:=by obtain⟨e,c,d,s,rfl⟩:=Lc a;exact(j.and k).succ λl y j=>bF j.1 j.2
def aH.rl{st:aF}(a:Ds st=ab)(j:bS O S σ.plus (a3 st) au)(k:aI O S M σ (gM st) r):aH O S M σ st r:=by obtain⟨e,c,d,s,rfl⟩:=Lc a;exact(j.and k).succ λl y j=>bF j.1 j.2
def yb(st:aF):ai:=((t_ st).bind λx=>(kD x.1).bind λg=>g.2.1.head?).getD h9
def DM(st:aF):Option (ar×ar×a7×List ai×a7):=(t_ st).bind λx=>(pg x.1).bind λg=>(fp g.1).map λb=>(b.1,g.2)
def LQ{st:aF}(j:DM st=I a):∃d q,st=.Expr (.Call (.Attribute (.Name a.1 d) a.2.1 a.2.2.1) a.2.2.2.1 [] a.2.2.2.2) q:=bK j λm ae j=>bK j λg w j=>eH j λb i f=>⟨b.2,m.2,by rw[ae' ae,FX w,jW i,<-f]⟩
def LR(b c:ar)(r:ai->Bool)(st:aF):Bool:=(DM st).elim au λa=>(ec a.2.2.2.1).elim au λf=>b==a.1&&(a.2.1==c&&(a.2.2.1.endLine==a.2.2.2.2.line&&r f))
inductive HG(x m:Str)(t:ai->Bool):Stmt->Prop
 |mk {np ap e p q} (Kz:(ap.endLine==p.line)=true) (Xs:t e=true):HG x m t (.Expr (.Call (.Attribute (.Name x np) m ap) [e] [] p) q)
def Z4{a c r st}(j:LR a c r st=ab):HG a c r st:=by obtain⟨g,k,j⟩:=fh j;obtain⟨f,i,j⟩:=fh j;obtain⟨d,q,y⟩:=LQ k;have p:=aM (aM j).2;rw[y,oX i,bL (aM j).1,bL p.1];exact .mk (aM p.2).1 (aM p.2).2
def RL(m:ar):aF->Bool:=LR m "append" λ_=>ab
def aH.app(m:ar){st:aF}(a:RL m st=ab)(ae:σ.lookup m=I (.own l))(b:fu d=ab)(y:l.length<=1000000)(i:aj O S σ.plus (yb st) d)(r:σ.set m (.own<|l++[d])=aW):aH O S M σ st (.next aW):=by
 cases Z4 a with|mk g q=>
 have e:(fu d&&bG l.length 1000000)=ab:=by rw[b,h_.mpr y];rfl
 have f:sx (σ.lookup m)=I l:=by rw[ae];rfl
 exact r▸i.succ λk p j=>eO (by rw[g];rfl)<|bF f<|bF j<|eO e rfl
def MS(m:ar)(st:aF):Bool:=(DM st).elim au λa=>a.2.2.2.1.isEmpty&&(m==a.1&&(a.2.1==("reverse":ar)&&a.2.2.1.endLine==a.2.2.2.2.line))
inductive HL(x:Str):Stmt->Prop
 |mk {np ap p q} (Kz:(ap.endLine==p.line)=true):HL x (.Expr (.Call (.Attribute (.Name x np) ("reverse":Str) ap) [] [] p) q)
def acD{st:aF}(j:MS m st=ab):HL m st:=by obtain⟨d,k,j⟩:=fh j;obtain⟨c,q,y⟩:=LQ k;have i:=aM j;have p:=aM (aM i.2).2;rw[y,pn.mp i.1,bL (aM i.2).1,bL p.1];exact .mk p.2
def aH.rev(m:ar){st:aF}(a:MS m st=ab)(ae:σ.lookup m=I (.own k))(y:k.length<=1000000)(r:σ.set m (.own k.reverse)=aW):aH O S M σ st (.next aW):=by
 cases acD a with|mk g=>
 have b:sx (σ.lookup m)=I k:=by rw[ae];rfl
 exact r▸a5.nU λc d=>eO (by rw[g];rfl)<|bF b<|eO (h_.mpr y) rfl
end
def JT(i p k:Nat):dQ k (af i) (af p)=I (i==p):=by have j:p0 (af i) (af p)=I (i==p):=congrArg I (by rw[ui,beq_iff_eq,beq_iff_eq];exact Int.ofNat_inj);cases k<;>exact j
def sT(i p:Nat):hh .Eq (af i) (af p)=I (i==p):=JT i p 9
abbrev bz:=UInt64
noncomputable def h1:bz:=4607182418800017408
noncomputable def iU:bz:=4611686018427387904
noncomputable def s8:bz:=4616189618054758400
noncomputable def hi:bz:=4618441417868443648
noncomputable def ji:bz:=4602678819172646912
noncomputable def dH(i p:bz):Bool:=eJ i p==I qI
noncomputable def iw(i p:bz):Bool:=eJ i p==I lq
noncomputable def nA(i p:bz):Bool:=eJ i p==I lq||eJ i p==I qI
def mN(d p g:bz):bz:=eQ d p g<|fE (λy e=>eJ (eQ d p g y) (eQ d p g e)==I r6) 2
def qb(d p g:bz):bz:=eQ d p g<|fE (λy e=>eJ (eQ d p g y) (eQ d p g e)==I lq) 2
def lO{i p:bz}(j:g' p=au):bu .Div (.float i) (.float p)=I (.float<|g_ i p):=by show(if(!g' p)=ab then I (aa.float<|g_ i p)else ag)=_;rw[j];rfl
def DT{i p:bz}(j:g' p=au):bu .Mod (.float i) (.float p)=I (.float (uF i p).2):=by show(if(!g' p)=ab then I (aa.float (uF i p).2)else ag)=_;rw[j];rfl
def Kk:g' hi=au:=by decide+kernel
def C4:g' h1=au:=by decide+kernel
def WQ:g' iU=au:=by decide+kernel
set_option genInjectivity false in
structure BR where
 ck:bz
 fL:bz
 fM:bz
 rc:bz
 kj:bz
 ke:bz
def ae(r g b:bz):BR:=
 let ck:=mN r g b
 let fL:=qb r g b
 let fM:=Float64.sub ck fL
 ⟨ck,fL,fM,Float64.div (Float64.sub ck r) fM,Float64.div (Float64.sub ck g) fM,Float64.div (Float64.sub ck b) fM⟩
def gn(m:BR)(w e:bz):bz:=if dH w m.ck then bU m.ke m.kj else if dH e m.ck then bU (da iU m.rc) m.ke else bU (da s8 m.kj) m.rc
def fk(w e p:bz):bz:=(uF (g_ (gn (ae w e p) w e) hi) h1).2
def jl(w e p:bz):bz:=g_ (ae w e p).fM (ae w e p).ck
def hD(w e p:bz):bz:=g_ (da (ae w e p).ck (ae w e p).fL) iU
def hp(w e p:bz):bz:=if nA (hD w e p) ji then g_ (ae w e p).fM (da (ae w e p).ck (ae w e p).fL)else g_ (ae w e p).fM (bU (bU iU (ae w e p).ck) (ae w e p).fL)
def vZ(w e p:bz):Bool:=!dH (ae w e p).fL (ae w e p).ck&&!g' (ae w e p).fM&&!g' (ae w e p).ck
def vX(w e p:bz):Bool:=!dH (ae w e p).fL (ae w e p).ck&&!g' (ae w e p).fM&&(if nA (hD w e p) ji then !g' (da (ae w e p).ck (ae w e p).fL)else !g' (bU (bU iU (ae w e p).ck) (ae w e p).fL))
def QZ:aZ:=aZ.fn<|bY l_
def hA(y:Nat):aF:=aJ (bw l_) y
section
variable(k:Nat)(r g b:bz)
noncomputable def B8:aG:=[("r",.val<|.float r),("g",.val<|.float g),("b",.val<|.float b)]
def B_:aG:=q "maxc" (.float (ae r g b).ck)<|B8 r g b
def yA:aG:=q "minc" (.float (ae r g b).fL)<|B_ r g b
def HW:aG:=q "rangec" (.float (ae r g b).fM)<|yA r g b
def Ca:aG:=q "v" (.float (ae r g b).ck)<|HW r g b
def HX:aG:=q "s" (.float<|jl r g b)<|Ca r g b
def HY:aG:=q "rc" (.float (ae r g b).rc)<|HX r g b
def HZ:aG:=q "gc" (.float (ae r g b).kj)<|HY r g b
def Cb:aG:=q "bc" (.float (ae r g b).ke)<|HZ r g b
def Rp:aG:=q "h" (.float<|gn (ae r g b) r g)<|Cb r g b
def Rq:aG:=q "h" (.float<|fk r g b)<|Cb r g b
def XZ(j:vZ r g b=true):a5 λl n=>(dB (k+2) l).call "rgb_to_hsv" [.float r,.float g,.float b]=I (.tuple [.float<|fk r g b,.float<|jl r g b,.float (ae r g b).ck]):=by
 unfold vZ at j;simp only[c0,ez]at j;obtain⟨⟨d,q⟩,m⟩:=j;refine u3 (k:=k+1) (G:=eY l_ []) z z z z ?_;show aI (dB<|k+1) QZ [] (cT (bt l_) [.float r,.float g,.float b]) (bw l_) _;rw[show cT (bt l_) [.float r,.float g,.float b]=B8 r g b by kernel_rfl,(z:bw l_=[hA 0,hA 1,hA 2,hA 3,hA 4,hA 5,hA 6,hA 7,hA 8,hA 9,hA 10,hA 11])];refine aI.cons (aW:=B_ r g b) ?_<|aI.cons (aW:=yA r g b) ?_<|aI.cons (aW:=HW r g b) ?_<|aI.cons (aW:=Ca r g b) ?_<|aI.cons (aW:=Ca r g b) ?_<|aI.cons (aW:=HX r g b) ?_<|aI.cons (aW:=HY r g b) ?_<|aI.cons (aW:=HZ r g b) ?_<|aI.cons (aW:=Cb r g b) ?_<|aI.cons (aW:=Rp r g b) ?_<|aI.cons (aW:=Rq r g b) ?_<|aI.ret ?_;exact aH.name "maxc" (.float (ae r g b).ck) z z z z<|aj.lf 9 (.float (ae r g b).ck) λl t=>z;exact aH.name "minc" (.float (ae r g b).fL) z z z z<|aj.lf 9 (.float (ae r g b).fL) λl t=>z;exact aH.name "rangec" (.float (ae r g b).fM) z z z z<|aj.lf 9 (.float (ae r g b).fM) λl t=>z;exact aH.name "v" (.float (ae r g b).ck) z z z z<|aj.lf 9 (.float (ae r g b).ck) λl t=>z;exact aH.skip z (bS.leaf 9 (x:=I<|dH (ae r g b).fL (ae r g b).ck) (λl t=>z)<|by rw[d]);exact aH.name "s" (.float<|jl r g b) z z z z<|aj.leaf 9 (x:=bu .Div (.float (ae r g b).fM)<|.float (ae r g b).ck) (λl t=>z)<|lO m;exact aH.name "rc" (.float (ae r g b).rc) z z z z<|aj.leaf 9 (x:=bu .Div (.float<|bU (ae r g b).ck r)<|.float (ae r g b).fM) (λl t=>z)<|lO q;exact aH.name "gc" (.float (ae r g b).kj) z z z z<|aj.leaf 9 (x:=bu .Div (.float<|bU (ae r g b).ck g)<|.float (ae r g b).fM) (λl t=>z)<|lO q;exact aH.name "bc" (.float (ae r g b).ke) z z z z<|aj.leaf 9 (x:=bu .Div (.float<|bU (ae r g b).ck b)<|.float (ae r g b).fM) (λl t=>z)<|lO q;induction s:dH r (ae r g b).ck using cq with
 |true=>
  have f:gn (ae r g b) r g=bU (ae r g b).ke (ae r g b).kj:=by unfold gn;rw[s,if_pos rfl]
  refine aH.hq z (bS.leaf 9 (x:=I<|dH r (ae r g b).ck) (λl t=>z)<|by rw[s]) ?_;rw[(z:c5 (hA 9)=[aJ (c5<|hA 9) 0])];exact aI.cons (aH.name "h" (.float<|gn (ae r g b) r g) z z z z<|aj.leaf 9 (x:=I<|.float<|bU (ae r g b).ke (ae r g b).kj) (λl t=>z)<|by rw[f]) aI.nil
 |false=>
  refine aH.rl z (bS.leaf 9 (x:=I<|dH r (ae r g b).ck) (λl t=>z)<|by rw[s]) ?_;rw[(z:gM (hA 9)=[aJ (gM<|hA 9) 0])];induction c:dH g (ae r g b).ck using cq with
  |true=>
   have f:gn (ae r g b) r g=bU (da iU (ae r g b).rc) (ae r g b).ke:=by unfold gn;rw[s,if_neg z,c,if_pos rfl]
   refine aI.cons (aH.hq z (bS.leaf 9 (x:=I<|dH g (ae r g b).ck) (λl t=>z)<|by rw[c]) ?_) aI.nil;rw[(z:c5 (aJ (gM<|hA 9) 0)=[aJ (c5<|aJ (gM<|hA 9) 0) 0])];exact aI.cons (aH.name "h" (.float<|gn (ae r g b) r g) z z z z<|aj.leaf 9 (x:=I<|.float<|bU (da iU (ae r g b).rc) (ae r g b).ke) (λl t=>z)<|by rw[f]) aI.nil
  |false=>
   have f:gn (ae r g b) r g=bU (da s8 (ae r g b).kj) (ae r g b).rc:=by unfold gn;rw[s,if_neg z,c,if_neg z]
   refine aI.cons (aH.rl z (bS.leaf 9 (x:=I<|dH g (ae r g b).ck) (λl t=>z)<|by rw[c]) ?_) aI.nil;rw[(z:gM (aJ (gM<|hA 9) 0)=[aJ (gM<|aJ (gM<|hA 9) 0) 0])];exact aI.cons (aH.name "h" (.float<|gn (ae r g b) r g) z z z z<|aj.leaf 9 (x:=I<|.float<|bU (da s8 (ae r g b).kj) (ae r g b).rc) (λl t=>z)<|by rw[f]) aI.nil
 have f:((bu .Div (.float<|gn (ae r g b) r g)<|.float hi).bind λi=>bu .Mod i<|.float h1)=I (.float<|fk r g b):=by rw[lO Kk,c',DT C4];rfl
 exact aH.name "h" (.float<|fk r g b) z z z z<|aj.leaf 9 (λl t=>z) f;exact aH.ret z<|aj.lf 9 (.tuple [.float<|fk r g b,.float<|jl r g b,.float (ae r g b).ck]) λl t=>z
end
def QX:aZ:=aZ.fn<|bY l7
def fY(y:Nat):aF:=aJ (bw l7) y
section
variable(k:Nat)(r g b:bz)
def Km:aG:=q "sumc" (.float<|da (ae r g b).ck (ae r g b).fL)<|yA r g b
def Kn:aG:=q "rangec" (.float (ae r g b).fM)<|Km r g b
def C5:aG:=q "l" (.float<|hD r g b)<|Kn r g b
def Ko:aG:=q "s" (.float<|hp r g b)<|C5 r g b
def Kp:aG:=q "rc" (.float (ae r g b).rc)<|Ko r g b
def Kq:aG:=q "gc" (.float (ae r g b).kj)<|Kp r g b
def C6:aG:=q "bc" (.float (ae r g b).ke)<|Kq r g b
def Xe:aG:=q "h" (.float<|gn (ae r g b) r g)<|C6 r g b
def Xf:aG:=q "h" (.float<|fk r g b)<|C6 r g b
def XT(j:vX r g b=true):a5 λl n=>(dB (k+2) l).call "rgb_to_hls" [.float r,.float g,.float b]=I (.tuple [.float<|fk r g b,.float<|hD r g b,.float<|hp r g b]):=by
 unfold vX at j;simp only[c0,ez]at j;obtain⟨⟨m,q⟩,d⟩:=j;refine u3 (k:=k+1) (G:=eY l7 []) z z z z ?_;show aI (dB<|k+1) QX [] (cT (bt l7) [.float r,.float g,.float b]) (bw l7) _;rw[show cT (bt l7) [.float r,.float g,.float b]=B8 r g b by kernel_rfl,(z:bw l7=[fY 0,fY 1,fY 2,fY 3,fY 4,fY 5,fY 6,fY 7,fY 8,fY 9,fY 10,fY 11,fY 12])];refine aI.cons (aW:=B_ r g b) ?_<|aI.cons (aW:=yA r g b) ?_<|aI.cons (aW:=Km r g b) ?_<|aI.cons (aW:=Kn r g b) ?_<|aI.cons (aW:=C5 r g b) ?_<|aI.cons (aW:=C5 r g b) ?_<|aI.cons (aW:=Ko r g b) ?_<|aI.cons (aW:=Kp r g b) ?_<|aI.cons (aW:=Kq r g b) ?_<|aI.cons (aW:=C6 r g b) ?_<|aI.cons (aW:=Xe r g b) ?_<|aI.cons (aW:=Xf r g b) ?_<|aI.ret ?_;exact aH.name "maxc" (.float (ae r g b).ck) z z z z<|aj.lf 9 (.float (ae r g b).ck) λl t=>z;exact aH.name "minc" (.float (ae r g b).fL) z z z z<|aj.lf 9 (.float (ae r g b).fL) λl t=>z;exact aH.name "sumc" (.float<|da (ae r g b).ck (ae r g b).fL) z z z z<|aj.lf 9 (.float<|da (ae r g b).ck (ae r g b).fL) λl t=>z;exact aH.name "rangec" (.float (ae r g b).fM) z z z z<|aj.lf 9 (.float (ae r g b).fM) λl t=>z;exact aH.name "l" (.float<|hD r g b) z z z z<|aj.leaf 9 (x:=bu .Div (.float<|da (ae r g b).ck (ae r g b).fL)<|.float iU) (λl t=>z)<|lO WQ;exact aH.skip z (bS.leaf 9 (x:=I<|dH (ae r g b).fL (ae r g b).ck) (λl t=>z)<|by rw[m]);induction s:nA (hD r g b) ji using cq with
 |true=>
  rw[s,if_pos rfl,ez]at d;have f:hp r g b=g_ (ae r g b).fM (da (ae r g b).ck (ae r g b).fL):=by unfold hp;rw[s,if_pos rfl]
  refine aH.hq z (bS.leaf 9 (x:=I<|nA (hD r g b) ji) (λl t=>z)<|by rw[s]) ?_;rw[(z:c5 (fY 6)=[aJ (c5<|fY 6) 0])];exact aI.cons (aH.name "s" (.float<|hp r g b) z z z z<|aj.leaf 9 (x:=bu .Div (.float (ae r g b).fM)<|.float<|da (ae r g b).ck (ae r g b).fL) (λl t=>z) (by rw[f];exact lO d)) aI.nil
 |false=>
  rw[s,if_neg z,ez]at d;have f:hp r g b=g_ (ae r g b).fM (bU (bU iU (ae r g b).ck) (ae r g b).fL):=by unfold hp;rw[s,if_neg z]
  refine aH.rl z (bS.leaf 9 (x:=I<|nA (hD r g b) ji) (λl t=>z)<|by rw[s]) ?_;rw[(z:gM (fY 6)=[aJ (gM<|fY 6) 0])];exact aI.cons (aH.name "s" (.float<|hp r g b) z z z z<|aj.leaf 9 (x:=bu .Div (.float (ae r g b).fM)<|.float<|bU (bU iU (ae r g b).ck) (ae r g b).fL) (λl t=>z) (by rw[f];exact lO d)) aI.nil
 exact aH.name "rc" (.float (ae r g b).rc) z z z z<|aj.leaf 9 (x:=bu .Div (.float<|bU (ae r g b).ck r)<|.float (ae r g b).fM) (λl t=>z)<|lO q;exact aH.name "gc" (.float (ae r g b).kj) z z z z<|aj.leaf 9 (x:=bu .Div (.float<|bU (ae r g b).ck g)<|.float (ae r g b).fM) (λl t=>z)<|lO q;exact aH.name "bc" (.float (ae r g b).ke) z z z z<|aj.leaf 9 (x:=bu .Div (.float<|bU (ae r g b).ck b)<|.float (ae r g b).fM) (λl t=>z)<|lO q;induction s:dH r (ae r g b).ck using cq with
 |true=>
  have f:gn (ae r g b) r g=bU (ae r g b).ke (ae r g b).kj:=by unfold gn;rw[s,if_pos rfl]
  refine aH.hq z (bS.leaf 9 (x:=I<|dH r (ae r g b).ck) (λl t=>z)<|by rw[s]) ?_;rw[(z:c5 (fY 10)=[aJ (c5<|fY 10) 0])];exact aI.cons (aH.name "h" (.float<|gn (ae r g b) r g) z z z z<|aj.leaf 9 (x:=I<|.float<|bU (ae r g b).ke (ae r g b).kj) (λl t=>z)<|by rw[f]) aI.nil
 |false=>
  refine aH.rl z (bS.leaf 9 (x:=I<|dH r (ae r g b).ck) (λl t=>z)<|by rw[s]) ?_;rw[(z:gM (fY 10)=[aJ (gM<|fY 10) 0])];induction c:dH g (ae r g b).ck using cq with
  |true=>
   have f:gn (ae r g b) r g=bU (da iU (ae r g b).rc) (ae r g b).ke:=by unfold gn;rw[s,if_neg z,c,if_pos rfl]
   refine aI.cons (aH.hq z (bS.leaf 9 (x:=I<|dH g (ae r g b).ck) (λl t=>z)<|by rw[c]) ?_) aI.nil;rw[(z:c5 (aJ (gM<|fY 10) 0)=[aJ (c5<|aJ (gM<|fY 10) 0) 0])];exact aI.cons (aH.name "h" (.float<|gn (ae r g b) r g) z z z z<|aj.leaf 9 (x:=I<|.float<|bU (da iU (ae r g b).rc) (ae r g b).ke) (λl t=>z)<|by rw[f]) aI.nil
  |false=>
   have f:gn (ae r g b) r g=bU (da s8 (ae r g b).kj) (ae r g b).rc:=by unfold gn;rw[s,if_neg z,c,if_neg z]
   refine aI.cons (aH.rl z (bS.leaf 9 (x:=I<|dH g (ae r g b).ck) (λl t=>z)<|by rw[c]) ?_) aI.nil;rw[(z:gM (aJ (gM<|fY 10) 0)=[aJ (gM<|aJ (gM<|fY 10) 0) 0])];exact aI.cons (aH.name "h" (.float<|gn (ae r g b) r g) z z z z<|aj.leaf 9 (x:=I<|.float<|bU (da s8 (ae r g b).kj) (ae r g b).rc) (λl t=>z)<|by rw[f]) aI.nil
 have f:((bu .Div (.float<|gn (ae r g b) r g)<|.float hi).bind λi=>bu .Mod i<|.float h1)=I (.float<|fk r g b):=by rw[lO Kk,c',DT C4];rfl
 exact aH.name "h" (.float<|fk r g b) z z z z<|aj.leaf 9 (λl t=>z) f;exact aH.ret z<|aj.lf 9 (.tuple [.float<|fk r g b,.float<|hD r g b,.float<|hp r g b]) λl t=>z
end
def qY:aZ:=aZ.fn<|bY l'
def eE(y:Nat):aF:=aJ (bw l') y
noncomputable def NN(a:bz):Int:=match ia a with|.fin b c f=>GL b c f|_=>0
noncomputable def p3(m:bz):Bool:=match ia m with|.fin _ _ _=>ab|_=>au
section
variable(k:Nat)(h s v:bz)
def ed:Int:=NN<|cz h hi
def qs:bz:=bU (cz h hi)<|iI<|ed h
def eR:bz:=cz v<|bU h1 s
def i3:bz:=cz v<|bU h1<|cz s<|qs h
def i5:bz:=cz v<|bU h1<|cz s<|bU h1<|qs h
def i4:List bz:=match(ed h%6).toNat with|0=>[v,i5 h s v,eR s v]|1=>[i3 h s v,v,eR s v]|2=>[eR s v,v,i5 h s v]|3=>[eR s v,i3 h s v,v]|4=>[i5 h s v,eR s v,v]|_=>[v,eR s v,i3 h s v]
noncomputable def zi:aG:=[("h",.val<|.float h),("s",.val<|.float s),("v",.val<|.float v)]
def KA:aG:=q "i" (.int<|ed h)<|zi h s v
def KC:aG:=q "f" (.float<|qs h)<|KA h s v
def KD:aG:=q "p" (.float<|eR s v)<|KC h s v
def KG:aG:=q "q" (.float<|i3 h s v)<|KD h s v
def Xt:aG:=q "t" (.float<|i5 h s v)<|KG h s v
def rh:aG:=q "i" (af (ed h%6).toNat)<|q "t" (.float<|i5 h s v)<|q "q" (.float<|i3 h s v)<|q "p" (.float<|eR s v)<|q "f" (.float<|qs h)<|zi h s v
def LN:∀y,y<6->y=0\/y=1\/y=2\/y=3\/y=4\/y=5:=z
def aeN(q:dH s 0=au)(j:p3 (cz h hi)=ab)(w:iv (ed h)=ab):a5 λl n=>(dB (k+2) l).call "hsv_to_rgb" [.float h,.float s,.float v]=I (.tuple<|(i4 h s v).map .float):=by
 refine u3 (k:=k+1) (G:=eY l' []) z z z z ?_;show aI (dB<|k+1) qY [] (cT (bt l') [.float h,.float s,.float v]) (bw l') _;rw[show cT (bt l') [.float h,.float s,.float v]=zi h s v by kernel_rfl,(z:bw l'=[eE 0,eE 1,eE 2,eE 3,eE 4,eE 5,eE 6,eE 7,eE 8,eE 9,eE 10,eE 11,eE 12])];refine aI.cons (aW:=zi h s v) ?_<|aI.cons (aW:=KA h s v) ?_<|aI.cons (aW:=KC h s v) ?_<|aI.cons (aW:=KD h s v) ?_<|aI.cons (aW:=KG h s v) ?_<|aI.cons (aW:=Xt h s v) ?_<|aI.cons (aW:=rh h s v) ?_ ?_;exact aH.skip z (bS.leaf 9 (x:=I<|dH s 0) (λl t=>z)<|by rw[q]);refine aH.name "i" (.int<|ed h) z z z z ?_;refine aj.call (ds:=[.float<|cz h hi]) z z ?_<|Cu (k:=k+1) (g:=yc) z ?_;rw[(z:bD (a3<|eE 1)=[cw<|a3<|eE 1])];exact aL.cons z (aj.lf 9 (.float<|cz h hi) λl t=>z) aL.nil;unfold p3 at j;unfold yc ed NN;dsimp only;split at j;rename_i f;first|rw[f]|rfl
 cases j;have f:((I<|aa.float<|cz h hi).bind λA=>bu .Sub A<|.int<|ed h)=I (.float<|qs h):=by show(if iv (ed h)=ab then I (aa.float<|bU (cz h hi)<|iI<|ed h)else ag)=_;rw[w];rfl
 exact aH.name "f" (.float<|qs h) z z z z<|aj.leaf 9 (λl t=>z) f;exact aH.name "p" (.float<|eR s v) z z z z<|aj.lf 9 (.float<|eR s v) λl t=>z;exact aH.name "q" (.float<|i3 h s v) z z z z<|aj.lf 9 (.float<|i3 h s v) λl t=>z;exact aH.name "t" (.float<|i5 h s v) z z z z<|aj.lf 9 (.float<|i5 h s v) λl t=>z;have f:bu .Mod (.int<|ed h) (af 6)=I (af (ed h%6).toNat):=by show I (aa.int<|Int.fmod _ ((6:Nat):Int))=_;rw[Ou _ z];exact congrArg (λy=>I<|aa.int y) (qA<|F8 _ z).symm
 exact aH.name "i" (af (ed h%6).toNat) z z z z<|aj.leaf 9 (λl t=>z) f;have r:(ed h%6).toNat<6:=by exact(Ga<|F8 _ z).mpr<|Oq (ed h) z
 have nh:∀p,((ed h%6).toNat==0)=p->bS (dB<|k+1) qY (rh h s v).plus (a3<|eE 7) p:=λn f=>f▸bS.leaf 9 (x:=hh .Eq (af (ed h%6).toNat)<|af 0) (λl t=>z) (sT _ _);have b3:∀p,((ed h%6).toNat==1)=p->bS (dB<|k+1) qY (rh h s v).plus (a3<|eE 8) p:=λn f=>f▸bS.leaf 9 (x:=hh .Eq (af (ed h%6).toNat)<|af 1) (λl t=>z) (sT _ _);have cv:∀p,((ed h%6).toNat==2)=p->bS (dB<|k+1) qY (rh h s v).plus (a3<|eE 9) p:=λn f=>f▸bS.leaf 9 (x:=hh .Eq (af (ed h%6).toNat)<|af 2) (λl t=>z) (sT _ _);have e_:∀p,((ed h%6).toNat==3)=p->bS (dB<|k+1) qY (rh h s v).plus (a3<|eE 10) p:=λn f=>f▸bS.leaf 9 (x:=hh .Eq (af (ed h%6).toNat)<|af 3) (λl t=>z) (sT _ _);have d:∀p,((ed h%6).toNat==4)=p->bS (dB<|k+1) qY (rh h s v).plus (a3<|eE 11) p:=λn f=>f▸bS.leaf 9 (x:=hh .Eq (af (ed h%6).toNat)<|af 4) (λl t=>z) (sT _ _);have c:∀p,((ed h%6).toNat==5)=p->bS (dB<|k+1) qY (rh h s v).plus (a3<|eE 12) p:=λn f=>f▸bS.leaf 9 (x:=hh .Eq (af (ed h%6).toNat)<|af 5) (λl t=>z) (sT _ _);rcases LN _ r with f|f|f|f|f|f;have m:i4 h s v=[v,i5 h s v,eR s v]:=by unfold i4;rw[f];rfl
 rw[m];refine aI.ret (aH.hq z (nh _ (by rw[f];rfl)) ?_);rw[(z:c5 (eE 7)=[aJ (c5<|eE 7) 0])];exact aI.ret<|aH.ret z<|aj.lf 9 (.tuple [.float v,.float<|i5 h s v,.float<|eR s v]) λl t=>z;have m:i4 h s v=[i3 h s v,v,eR s v]:=by unfold i4;rw[f];rfl
 rw[m];refine aI.cons (aH.skip z<|nh _ (by rw[f];rfl)) (aI.ret<|aH.hq z (b3 _ (by rw[f];rfl)) ?_);rw[(z:c5 (eE 8)=[aJ (c5<|eE 8) 0])];exact aI.ret<|aH.ret z<|aj.lf 9 (.tuple [.float<|i3 h s v,.float v,.float<|eR s v]) λl t=>z;have m:i4 h s v=[eR s v,v,i5 h s v]:=by unfold i4;rw[f];rfl
 rw[m];refine aI.cons (aH.skip z<|nh _ (by rw[f];rfl)) (aI.cons (aH.skip z<|b3 _ (by rw[f];rfl))<|aI.ret<|aH.hq z (cv _ (by rw[f];rfl)) ?_);rw[(z:c5 (eE 9)=[aJ (c5<|eE 9) 0])];exact aI.ret<|aH.ret z<|aj.lf 9 (.tuple [.float<|eR s v,.float v,.float<|i5 h s v]) λl t=>z;have m:i4 h s v=[eR s v,i3 h s v,v]:=by unfold i4;rw[f];rfl
 rw[m];refine aI.cons (aH.skip z<|nh _ (by rw[f];rfl)) (aI.cons (aH.skip z<|b3 _ (by rw[f];rfl))<|aI.cons (aH.skip z<|cv _ (by rw[f];rfl))<|aI.ret<|aH.hq z (e_ _ (by rw[f];rfl)) ?_);rw[(z:c5 (eE 10)=[aJ (c5<|eE 10) 0])];exact aI.ret<|aH.ret z<|aj.lf 9 (.tuple [.float<|eR s v,.float<|i3 h s v,.float v]) λl t=>z;have m:i4 h s v=[i5 h s v,eR s v,v]:=by unfold i4;rw[f];rfl
 rw[m];refine aI.cons (aH.skip z<|nh _ (by rw[f];rfl)) (aI.cons (aH.skip z<|b3 _ (by rw[f];rfl))<|aI.cons (aH.skip z<|cv _ (by rw[f];rfl))<|aI.cons (aH.skip z<|e_ _ (by rw[f];rfl))<|aI.ret<|aH.hq z (d _ (by rw[f];rfl)) ?_);rw[(z:c5 (eE 11)=[aJ (c5<|eE 11) 0])];exact aI.ret<|aH.ret z<|aj.lf 9 (.tuple [.float<|i5 h s v,.float<|eR s v,.float v]) λl t=>z;have m:i4 h s v=[v,eR s v,i3 h s v]:=by unfold i4;rw[f];rfl
 rw[m];refine aI.cons (aH.skip z<|nh _ (by rw[f];rfl)) (aI.cons (aH.skip z<|b3 _ (by rw[f];rfl))<|aI.cons (aH.skip z<|cv _ (by rw[f];rfl))<|aI.cons (aH.skip z<|e_ _ (by rw[f];rfl))<|aI.cons (aH.skip z<|d _ (by rw[f];rfl))<|aI.ret<|aH.hq z (c _ (by rw[f];rfl)) ?_);rw[(z:c5 (eE 12)=[aJ (c5<|eE 12) 0])];exact aI.ret<|aH.ret z<|aj.lf 9 (.tuple [.float v,.float<|eR s v,.float<|i3 h s v]) λl t=>z
end
noncomputable def b5:ai:=.Constant .none 0 ⟨0,0,0,0⟩
noncomputable def qr:bz:=4599676419421066581
noncomputable def t4:bz:=4595172819793696085
noncomputable def pa:bz:=4604180019048437077
def yu:aZ:=aZ.fn<|bY l9
def kb(y:Nat):aF:=aJ (bw l9) y
section
variable(k:Nat)(ht iZ h:bz)
def fQ:bz:=(uF h h1).2
def pb:bz:=if iw (fQ h) t4 then da ht (cz (cz (bU iZ ht)<|fQ h) hi)else if iw (fQ h) ji then iZ else if iw (fQ h) pa then da ht (cz (cz (bU iZ ht)<|bU pa<|fQ h) hi)else ht
noncomputable def Z3:aG:=[("m1",.val<|.float ht),("m2",.val<|.float iZ),("hue",.val<|.float h)]
def zQ:aG:=q "hue" (.float<|fQ h) [("m1",.val<|.float ht),("m2",.val<|.float iZ)]
def FR:a5 λl b=>(dB (k+2) l).call "_v" [.float ht,.float iZ,.float h]=I (.float<|pb ht iZ h):=by
 refine u3 (k:=k+1) (G:=eY l9 []) z z z z ?_;show aI (dB<|k+1) yu [] (cT (bt l9) [.float ht,.float iZ,.float h]) (bw l9) _;rw[show cT (bt l9) [.float ht,.float iZ,.float h]=Z3 ht iZ h by kernel_rfl,(z:bw l9=[kb 0,kb 1,kb 2,kb 3,kb 4])];refine aI.cons (aW:=zQ ht iZ h) (aH.name "hue" (.float<|fQ h) z z z z<|aj.leaf 9 (x:=bu .Mod (.float h)<|.float h1) (λl t=>z)<|DT C4) ?_;unfold pb;have b3:bS (dB<|k+1) yu (zQ ht iZ h).plus (a3<|kb 1) (iw (fQ h) t4):=bS.lf 9 (iw (fQ h) t4) λl t=>z;have cv:bS (dB<|k+1) yu (zQ ht iZ h).plus (a3<|kb 2) (iw (fQ h) ji):=bS.lf 9 (iw (fQ h) ji) λl t=>z;have e_:bS (dB<|k+1) yu (zQ ht iZ h).plus (a3<|kb 3) (iw (fQ h) pa):=bS.lf 9 (iw (fQ h) pa) λl t=>z;induction s:iw (fQ h) t4 using cq with
 |true=>
  rw[s]at b3;rw[if_pos rfl];refine aI.ret<|aH.hq z b3 ?_;rw[(z:c5 (kb 1)=[aJ (c5<|kb 1) 0])];exact aI.ret<|aH.ret z<|aj.lf 9 (.float<|da ht<|cz (cz (bU iZ ht)<|fQ h) hi) λl t=>z
 |false=>
  rw[s]at b3;rw[if_neg z];refine aI.cons (aH.skip z b3) ?_;induction a:iw (fQ h) ji using cq with
  |true=>
   rw[a]at cv;rw[if_pos rfl];refine aI.ret<|aH.hq z cv ?_;rw[(z:c5 (kb 2)=[aJ (c5<|kb 2) 0])];exact aI.ret<|aH.ret z<|aj.lf 9 (.float iZ) λl t=>z
  |false=>
   rw[a]at cv;rw[if_neg z];refine aI.cons (aH.skip z cv) ?_;induction p:iw (fQ h) pa using cq with
   |true=>
    rw[p]at e_;rw[if_pos rfl];refine aI.ret<|aH.hq z e_ ?_;rw[(z:c5 (kb 3)=[aJ (c5<|kb 3) 0])];exact aI.ret<|aH.ret z<|aj.lf 9 (.float<|da ht<|cz (cz (bU iZ ht)<|bU pa<|fQ h) hi) λl t=>z
   |false=>
    rw[p]at e_;rw[if_neg z];refine aI.cons (aH.skip z e_) ?_;exact aI.ret<|aH.ret z<|aj.lf 9 (.float ht) λl t=>z
end
def QY:aZ:=aZ.fn<|bY l8
def nu(y:Nat):aF:=aJ (bw l8) y
section
variable(k:Nat)(h l s:bz)
def hn:bz:=if nA l ji then cz l (da h1 s)else bU (da l s) (cz l s)
def jk:bz:=bU (cz iU l)<|hn l s
def zl:List bz:=[pb (jk l s) (hn l s)<|da h qr,pb (jk l s) (hn l s) h,pb (jk l s) (hn l s)<|bU h qr]
noncomputable def Dw:aG:=[("h",.val<|.float h),("l",.val<|.float l),("s",.val<|.float s)]
def Lq:aG:=q "m2" (.float<|hn l s)<|Dw h l s
def YW:aG:=q "m1" (.float<|jk l s)<|Lq h l s
def jV(y:Nat):ai:=((ft<|a3<|nu 3)[y]?).getD b5
def XX(g:dH s 0=false):a5 λa c=>(dB (k+3) a).call "hls_to_rgb" [.float h,.float l,.float s]=I (.tuple<|(zl h l s).map .float):=by
 refine u3 (k:=k+2) (G:=eY l8 []) z z z z ?_;show aI (dB<|k+2) QY [] (cT (bt l8) [.float h,.float l,.float s]) (bw l8) _;rw[show cT (bt l8) [.float h,.float l,.float s]=Dw h l s by kernel_rfl,(z:bw l8=[nu 0,nu 1,nu 2,nu 3])];refine aI.cons (aW:=Dw h l s) (aH.skip z<|bS.leaf 9 (x:=I<|dH s 0) (λa t=>z)<|by rw[g])<|aI.cons (aW:=Lq h l s) ?_<|aI.cons (aW:=YW h l s) ?_<|aI.ret<|aH.ret z ?_;induction b:nA l ji using cq with
 |true=>
  have f:hn l s=cz l (da h1 s):=by unfold hn;rw[b,if_pos rfl]
  refine aH.hq z (bS.leaf 9 (x:=I<|nA l ji) (λa t=>z)<|by rw[b]) ?_;rw[(z:c5 (nu 1)=[aJ (c5<|nu 1) 0])];exact aI.cons (aH.name "m2" (.float<|hn l s) z z z z<|aj.leaf 9 (x:=I<|.float<|cz l<|da h1 s) (λa t=>z)<|by rw[f]) aI.nil
 |false=>
  have f:hn l s=bU (da l s) (cz l s):=by unfold hn;rw[b,if_neg z]
  refine aH.rl z (bS.leaf 9 (x:=I<|nA l ji) (λa t=>z)<|by rw[b]) ?_;rw[(z:gM (nu 1)=[aJ (gM<|nu 1) 0])];exact aI.cons (aH.name "m2" (.float<|hn l s) z z z z<|aj.leaf 9 (x:=I<|.float<|bU (da l s)<|cz l s) (λa t=>z)<|by rw[f]) aI.nil
 exact aH.name "m1" (.float<|jk l s) z z z z<|aj.lf 9 (.float<|jk l s) λa t=>z;refine aj.tuple z (ds:=(zl h l s).map .float) ?_ (show 3<=1000000 by exact dU _ _);rw[(z:ft (a3<|nu 3)=[jV 0,jV 1,jV 2])];refine aL.cons z (aj.call (ds:=[.float<|jk l s,.float<|hn l s,.float<|da h qr]) z z ?_<|FR k _ _ _)<|aL.cons z (aj.call (ds:=[.float<|jk l s,.float<|hn l s,.float h]) z z ?_<|FR k _ _ _)<|aL.cons z (aj.call (ds:=[.float<|jk l s,.float<|hn l s,.float<|bU h qr]) z z ?_<|FR k _ _ _) aL.nil;rw[show bD (jV 0)=[cw<|jV 0,((bD<|jV 0)[1]?).getD b5,((bD<|jV 0)[2]?).getD b5]by kernel_rfl];exact aL.cons z (aj.lf 9 (.float<|jk l s) λa t=>z)<|aL.cons z (aj.lf 9 (.float<|hn l s) λa t=>z)<|aL.cons z (aj.lf 9 (.float<|da h qr) λa t=>z) aL.nil;rw[show bD (jV 1)=[cw<|jV 1,((bD<|jV 1)[1]?).getD b5,((bD<|jV 1)[2]?).getD b5]by kernel_rfl];exact aL.cons z (aj.lf 9 (.float<|jk l s) λa t=>z)<|aL.cons z (aj.lf 9 (.float<|hn l s) λa t=>z)<|aL.cons z (aj.lf 9 (.float h) λa t=>z) aL.nil;rw[show bD (jV 2)=[cw<|jV 2,((bD<|jV 2)[1]?).getD b5,((bD<|jV 2)[2]?).getD b5]by kernel_rfl];exact aL.cons z (aj.lf 9 (.float<|jk l s) λa t=>z)<|aL.cons z (aj.lf 9 (.float<|hn l s) λa t=>z)<|aL.cons z (aj.lf 9 (.float<|bU h qr) λa t=>z) aL.nil
end
def Lh(f:ai):Bool:=(CU f).elim au λba=>(qo ba.2).isSome
def Nw(f:ai):ai:=(qo<|bD f).elim f id
def YH(j:Lh a=ab):∃d q y s b,a=.Call (.Name d q) y [] s/\qo y=I b:=(fh j).elim λba n=>(J4 n.1).elim λq g=>g.elim λs a=>(uA.mp n.2).elim λb c=>⟨ba.1,q,ba.2,s,b,a,c⟩
def aj.star(B:Lh c=ab)(C:(i.global (lI c)&&(w.lookup<|lI c).isNone)=ab)(t:aj g i w (Nw c) a)(l:tO a=I b)(D:b.length<=1000)(A:a5 λE k=>(g E).call (lI c) b=I d):aj g i w c d:=by obtain⟨s,q,y,j,m,rfl,ae⟩:=YH B;have r:Nw (.Call (.Name s q) y [] j)=m:=y5 ae rfl;rw[r]at t;exact(t.and A).succ λE H G=>eO C<|y5 ae<|bF G.1<|bF l<|eO (h_.mpr<|aC D z) G.2
def q7(j:0<p)(g:n_ (d5 au i p)=au):bu .Div (af i) (af p)=I (.float<|d5 au i p):=by
 have fg:(decide (((i:Nat):Int)<0)!=decide (((p:Nat):Int)<0))=au:=by rw[decide_eq_false<|g8.mpr<|iG i,decide_eq_false<|g8.mpr<|iG p];rfl
 show(if(((p:Nat):Int)!=0&&!n_ (d5 (decide (((i:Nat):Int)<0)!=decide (((p:Nat):Int)<0)) ((i:Nat):Int).natAbs ((p:Nat):Int).natAbs))=ab then I (aa.float<|d5 (decide (((i:Nat):Int)<0)!=decide (((p:Nat):Int)<0)) ((i:Nat):Int).natAbs ((p:Nat):Int).natAbs)else ag)=_;rw[fg,AV,AV,if_pos (by rw[g];simp;exact i_ o)]
def I9(b:mE.lookup s=I oG)(c:oG a=ag)(q:oM.lookup s=I g)(h:g a=I d):a5 λi j=>(dB k i).call s a=I d:=⟨0,λi y j j=>by
  have m:fJ s a=ag:=by unfold fJ;rw[b];exact c
  have l:k0 s a=I d:=by unfold k0;rw[q];exact h
  induction k using cN with
  |zero=>
   show dj (fJ s a) (k0 s a)=I d;rw[m];exact l
  |succ k=>
   show dj (fJ s a) (dj (k0 s a) _)=I d;rw[m,l];rfl⟩
noncomputable def aw(m:Nat):bz:=d5 au m 64
noncomputable def Ck(k:Nat):bz:=d5 au k 3
noncomputable def nt(k:Nat):Nat:=if k=0 then 1 else if k=1 then 0 else 2
def oj(y:Nat):ai:=((ft<|a3<|dO 0)[y]?).getD b5
section
variable(a b c:Int)(k w t x y ba G L:Nat)
noncomputable def jS:aa:=.tuple [.int a,.int b,.int c]
def DV:aG:=[("place",.val<|jS a b c),("letter",.val<|gN k),("white",.val<|af w),("turns",.val<|af t)]
def zW:aG:=(DV a b c k w t).vals [("great",af G),("least",af L),("axis",af<|nt k)]
def tM:List bz:=[aw x,aw y,aw ba]
def wt:aG:=q "parts" (.list<|(tM x y ba).map .float)<|zW a b c k w t G L
def X4:∀k,k<3->mM (.str "ifl") "index" [gN k]=I (af<|nt k)|0,_=>z|1,_=>z|2,_=>z|k+3,j=>absurd j<|fD.mpr<|dU 3 k
variable{a b c k w t x y ba G L}
def Sn(h:iq lY [.int a,.int b,.int c]=I (.int r)):(λq=>dj (mC q)<|mD q) [jS a b c]=I (.int r):=by show dj (iq lY _) _=_;rw[h];rfl
def So(h:iq nO [.int a,.int b,.int c]=I (.int r)):(λq=>dj (q3 q)<|q4 q) [jS a b c]=I (.int r):=by show dj (iq nO _) _=_;rw[h];rfl
def QQ(m:k<3)(h:iq lY [.int a,.int b,.int c]=I (.int r))(j:iq nO [.int a,.int b,.int c]=I (.int n))(f:(w:Int)+r=(G:Nat))(p:(w:Int)+n=(L:Nat)):aH (dB 7) jH [] (DV a b c k w t) (dO 0) (.next<|zW a b c k w t G L):=by refine aH.to (d:=.tuple [af G,af L,af<|nt k]) (f_:=[("great",af G),("least",af L),("axis",af<|nt k)]) z z z z (aj.tuple z ?_<|show 3<=1000000 by exact dU _ _);rw[(z:ft (a3<|dO 0)=[oj 0,oj 1,oj 2])];refine aL.cons z ?_<|aL.cons z ?_<|aL.cons z ?_ aL.nil;refine aj.bin (op:=.Add) (a:=af w) (b:=.int r) z (aj.lf 9 (af w) λl e=>z) (aj.call (ds:=[jS a b c]) z z ?_<|I9 (k:=7) (oG:=mB) (g:=λq=>dj (mC q)<|mD q) z rfl z<|Sn h) λl=>congrArg (λy=>I<|aa.int y) f;rw[(z:bD (ek<|oj 0)=[cw<|ek<|oj 0])];exact aL.cons z (aj.lf 9 (jS a b c) λl e=>z) aL.nil;refine aj.bin (op:=.Add) (a:=af w) (b:=.int n) z (aj.lf 9 (af w) λl e=>z) (aj.call (ds:=[jS a b c]) z z ?_<|I9 (k:=7) (oG:=vA) (g:=λq=>dj (q3 q)<|q4 q) z rfl z<|So j) λl=>congrArg (λy=>I<|aa.int y) p;rw[(z:bD (ek<|oj 1)=[cw<|ek<|oj 1])];exact aL.cons z (aj.lf 9 (jS a b c) λl e=>z) aL.nil;refine aj.en (a:=.str "ifl") (ds:=[gN k]) z (aj.lf 9 (.str "ifl") λl e=>z) ?_<|aaa (k:=7) rfl z<|X4 k m;rw[(z:bD (oj 2)=[cw<|oj 2])];exact aL.cons z (aj.lf 9 (gN k) λl e=>z) aL.nil
def WL:((bO 100).all λx=>!n_ (aw x))=ab:=by decide+kernel
def Ke(j:x<100):n_ (aw x)=au:=by have:=bZ.mp WL x<|ee.mpr j;rwa [ez]at this
def QR(ae:(w:Int)+a=(x:Nat))(f:(w:Int)+b=(y:Nat))(m:(w:Int)+c=(ba:Nat))(j:x<100/\y<100/\ba<100):aH (dB 7) jH [] (zW a b c k w t G L) (dO 1) (.next<|wt a b c k w t x y ba G L):=by
 refine aH.name "parts" (.list<|(tM x y ba).map .float) z z z z ?_;refine aj.k7 [(a,x),(b,y),(c,ba)] (λq:Int×Nat=>aa.int q.1) (λq=>.float<|aw q.2) z (dw.lf 9 [.int a,.int b,.int c] λl p=>z) (λq=>z) (λq n=>?_) (show 3<=1000000 by exact dU _ _);have d:∀q:Int×Nat,(w:Int)+q.1=(q.2:Nat)->q.2<100->aj (dB 7) (jG jH<|a3<|dO 1) (pQ jH (a3<|dO 1) (zW a b c k w t G L).plus<|aa.int q.1) (fZ<|a3<|dO 1) (.float<|aw q.2):=λq g e=>by refine aj.leaf 9 (x:=(bu .Add (af w)<|.int q.1).bind λa=>bu .Div a<|af 64) (λl p=>z) ?_;rw[show bu .Add (af w) (.int q.1)=I (af q.2)from congrArg (λr=>I<|aa.int r) g,c'];exact q7 z<|Ke e
 rcases cJ.mp n with rfl|n;exact d (a,x) ae j.1;rcases cJ.mp n with rfl|n;exact d (b,y) f j.2.1;rw[cm]at n;subst n;exact d (c,ba) m j.2.2
end
def zC(y:Nat):aF:=aJ (c5<|dO 2) y
def Ae(y:Nat):aF:=aJ (gM<|dO 2) y
def oy(y:Nat):ai:=((ft<|a3<|zC 1)[y]?).getD b5
def lN(y:Nat):ai:=((ft<|a3<|Ae 1)[y]?).getD b5
def It:∀k,n_ (Ck<|nt k)=au:=λk=>by unfold nt;split;decide+kernel;split;decide+kernel;decide+kernel
def CZ(j:0<p)(c:i<1000):n_ (d5 au i p)=au:=by have:=PySem.Flt.quot_fits (sg:=au) (n:=i) (d:=p) j (du c<|aC (show 1000<=2^10 by decide)<|ps (by decide)<|by decide);simpa using this
section
variable(a b c:Int)(k w t x y ba G L:Nat)(iz ec gY kf eF g0 g4 g5:bz)
def DW:aG:=(wt a b c k w t x y ba G L).vals [("other",.float gY),("one",.float ec),("hue",.float iz)]
def tv:aG:=(DW a b c k w t x y ba G L iz ec gY).vals [("due",.tuple [.float kf,.float eF]),("lamp",.tuple [.float g0,.float g4,.float g5])]
def oO:bz:=da (bU (Ck<|nt k) iz)<|iI t
def tf:bz:=bU (bU (Ck<|nt k) iz)<|iI t
variable{a b c k w t x y ba G L iz ec gY kf eF g0 g4 g5}
def Sd(j:iv (t:Nat)=ab):(((bu .Div (af<|nt k)<|af 3).bind λw=>bu .Sub w<|.float iz).bind λw=>bu .Add w<|af t)=I (.float<|oO k t iz):=by rw[q7 z<|It k,c'];show(if iv (t:Nat)=ab then I (aa.float<|oO k t iz)else ag)=_;rw[j];rfl
def Se(j:iv (t:Nat)=ab):(((bu .Div (af<|nt k)<|af 3).bind λw=>bu .Sub w<|.float iz).bind λw=>bu .Sub w<|af t)=I (.float<|tf k t iz):=by rw[q7 z<|It k,c'];show(if iv (t:Nat)=ab then I (aa.float<|tf k t iz)else ag)=_;rw[j];rfl
def QU(r:t%2=1)(p:iv (t:Nat)=ab)(i:L<=G)(f:0<G)(j:G<100)(g:vZ (aw x) (aw y) (aw ba)=ab)(q:dH (jl (aw x) (aw y)<|aw ba) 0=au)(e:p3 (cz (oO k t<|fk (aw x) (aw y)<|aw ba) hi)=ab)(n:iv (ed<|oO k t<|fk (aw x) (aw y)<|aw ba)=ab)(s:i4 (oO k t<|fk (aw x) (aw y)<|aw ba) (jl (aw x) (aw y)<|aw ba) (ae (aw x) (aw y)<|aw ba).ck=[g0,g4,g5]):aH (dB 7) jH [] (wt a b c k w t x y ba G L) (dO 2) (.next<|tv a b c k w t x y ba G L (fk (aw x) (aw y)<|aw ba) (jl (aw x) (aw y)<|aw ba) (ae (aw x) (aw y)<|aw ba).ck (d5 au (G -L) G) (aw G) g0 g4 g5):=by
 refine aH.hq z (bS.leaf 9 (x:=(bu .Mod (af t)<|af 2).bind t2) (λl m=>z) (by rw[kr _ z,c',r];rfl)) ?_;rw[(z:c5 (dO 2)=[zC 0,zC 1])];refine aI.cons (aW:=DW a b c k w t x y ba G L (fk (aw x) (aw y)<|aw ba) (jl (aw x) (aw y)<|aw ba) (ae (aw x) (aw y)<|aw ba).ck) ?_<|aI.cons ?_ aI.nil;refine aH.to (d:=.tuple [.float<|fk (aw x) (aw y)<|aw ba,.float<|jl (aw x) (aw y)<|aw ba,.float (ae (aw x) (aw y)<|aw ba).ck]) (f_:=[("other",.float (ae (aw x) (aw y)<|aw ba).ck),("one",.float<|jl (aw x) (aw y)<|aw ba),("hue",.float<|fk (aw x) (aw y)<|aw ba)]) z z z rfl ?_;exact aj.star (a:=.list<|(tM x y ba).map .float) z z (aj.lf 9 (.list<|(tM x y ba).map .float) λl m=>z) rfl (show 3<=1000 by exact dU _ _)<|XZ 5 _ _ _ g;refine aH.to (d:=.tuple [.tuple [.float<|d5 au (G -L) G,.float<|aw G],.tuple [.float g0,.float g4,.float g5]]) (f_:=[("due",.tuple [.float<|d5 au (G -L) G,.float<|aw G]),("lamp",.tuple [.float g0,.float g4,.float g5])]) z z z rfl (aj.tuple z ?_<|show 2<=1000000 by exact dU _ _);rw[(z:ft (a3<|zC 1)=[oy 0,oy 1])];refine aL.cons z (aj.tuple z ?_<|show 2<=1000000 by exact dU _ _)<|aL.cons z ?_ aL.nil;rw[(z:ft (oy 0)=[dT<|oy 0,ek<|oy 0])];have h:((bu .Sub (af G)<|af L).bind λa=>bu .Div a<|af G)=I (.float<|d5 au (G -L) G):=by rw[rN i,c',q7 f<|CZ f<|cH (qH _ _)<|r4 j z]
 exact aL.cons z (aj.leaf 9 (λl m=>z) h)<|aL.cons z (aj.leaf 9 (x:=bu .Div (af G)<|af 64) (λl m=>z)<|q7 z<|Ke j) aL.nil;rw[show aa.tuple [.float g0,.float g4,.float g5]=aa.tuple ((i4 (oO k t<|fk (aw x) (aw y)<|aw ba) (jl (aw x) (aw y)<|aw ba) (ae (aw x) (aw y)<|aw ba).ck).map .float)by rw[s];rfl];refine aj.call (ds:=[.float<|oO k t<|fk (aw x) (aw y)<|aw ba,.float<|jl (aw x) (aw y)<|aw ba,.float (ae (aw x) (aw y)<|aw ba).ck]) z z ?_<|aeN 5 _ _ _ q e n;rw[show bD (oy 1)=[cw<|oy 1,((bD<|oy 1)[1]?).getD b5,((bD<|oy 1)[2]?).getD b5]by kernel_rfl];exact aL.cons z (aj.leaf 9 (λl m=>z)<|Sd p)<|aL.cons z (aj.lf 9 (.float<|jl (aw x) (aw y)<|aw ba) λl m=>z)<|aL.cons z (aj.lf 9 (.float (ae (aw x) (aw y)<|aw ba).ck) λl m=>z) aL.nil
end
noncomputable def z2(a:bz):Int:=match ia a with|.fin b c f=>xF b c f|_=>0
noncomputable def iV:bz:=iI 64
def jo(d:bz):Int:=z2<|cz iV d
def l4(d:bz):Bool:=p3<|cz iV d
def acG(j:l4 d=ab):vB [.float<|cz iV d]=I (.int<|jo d):=by unfold l4 p3 at j;unfold jo z2 vB;dsimp only;split at j;rename_i f;rw[f];cases j
section
variable{a b c:Int}{k w t x y ba G L:Nat}{iz ec gY kf eF g0 g4 g5:bz}
def QS(H:t%2=0)(E:iv (t:Nat)=ab)(i:L<=G)(r:0<c_ (G+L) (128 -G -L))(s:G+L<=128)(C:vX (aw x) (aw y) (aw ba)=ab)(D:dH (hp (aw x) (aw y)<|aw ba) 0=au)(e:zl (tf k t<|fk (aw x) (aw y)<|aw ba) (hD (aw x) (aw y)<|aw ba) (hp (aw x) (aw y)<|aw ba)=[g0,g4,g5]):aH (dB 7) jH [] (wt a b c k w t x y ba G L) (dO 2) (.next<|tv a b c k w t x y ba G L (fk (aw x) (aw y)<|aw ba) (hD (aw x) (aw y)<|aw ba) (hp (aw x) (aw y)<|aw ba) (d5 au (G+L) 128) (d5 au (G -L)<|c_ (G+L)<|128 -G -L) g0 g4 g5):=by
 refine aH.rl z (bS.leaf 9 (x:=(bu .Mod (af t)<|af 2).bind t2) (λl p=>z) (by rw[kr _ z,c',H];rfl)) ?_;rw[(z:gM (dO 2)=[Ae 0,Ae 1])];refine aI.cons (aW:=DW a b c k w t x y ba G L (fk (aw x) (aw y)<|aw ba) (hD (aw x) (aw y)<|aw ba)<|hp (aw x) (aw y)<|aw ba) ?_<|aI.cons ?_ aI.nil;refine aH.to (d:=.tuple [.float<|fk (aw x) (aw y)<|aw ba,.float<|hD (aw x) (aw y)<|aw ba,.float<|hp (aw x) (aw y)<|aw ba]) (f_:=[("other",.float<|hp (aw x) (aw y)<|aw ba),("one",.float<|hD (aw x) (aw y)<|aw ba),("hue",.float<|fk (aw x) (aw y)<|aw ba)]) z z z rfl ?_;exact aj.star (a:=.list<|(tM x y ba).map .float) z z (aj.lf 9 (.list<|(tM x y ba).map .float) λl p=>z) rfl (show 3<=1000 by exact dU _ _)<|XT 5 _ _ _ C;refine aH.to (d:=.tuple [.tuple [.float<|d5 au (G+L) 128,.float<|d5 au (G -L)<|c_ (G+L)<|128 -G -L],.tuple [.float g0,.float g4,.float g5]]) (f_:=[("due",.tuple [.float<|d5 au (G+L) 128,.float<|d5 au (G -L)<|c_ (G+L)<|128 -G -L]),("lamp",.tuple [.float g0,.float g4,.float g5])]) z z z rfl (aj.tuple z ?_<|show 2<=1000000 by exact dU _ _);rw[(z:ft (a3<|Ae 1)=[lN 0,lN 1])];refine aL.cons z (aj.tuple z ?_<|show 2<=1000000 by exact dU _ _)<|aL.cons z ?_ aL.nil;rw[(z:ft (lN 0)=[dT<|lN 0,ek<|lN 0])];have f:G+L<1000:=cH s z;have J:G -L<1000:=cH (aC (qH _ _)<|b_ _ _) f;have A:((bu .Add (af G)<|af L).bind λa=>bu .Div a<|af 128)=I (.float<|d5 au (G+L) 128):=by rw[ik,c',q7 z<|CZ z f]
 have m:G<=128:=aC (b_ _ _) s;have n:L<=128 -G:=Nat.le_sub_of_add_le<|fU G L▸s;refine aL.cons z (aj.leaf 9 (λl p=>z) A)<|aL.cons z (aj.bin (op:=.Div) (a:=af<|G -L) (b:=af<|c_ (G+L)<|128 -G -L) z (aj.leaf 9 (x:=bu .Sub (af G)<|af L) (λl p=>z)<|rN i) (aj.call (ds:=[af<|G+L,af<|128 -G -L]) z z ?_<|Cu (k:=7) (g:=vA) z ?_) λl=>q7 r<|CZ r J) aL.nil;rw[show bD (ek<|ek<|lN 0)=[cw<|ek<|ek<|lN 0,((bD<|ek<|ek<|lN 0)[1]?).getD b5]by kernel_rfl];have B:((bu .Sub (af 128)<|af G).bind λa=>bu .Sub a<|af L)=I (af<|128 -G -L):=by rw[rN m,c',rN n]
 exact aL.cons z (aj.leaf 9 (x:=bu .Add (af G)<|af L) (λl p=>z)<|ik _ _)<|aL.cons z (aj.leaf 9 (λl p=>z) B) aL.nil;show I (aa.int<|if((128 -G -L:Nat):Int)<((G+L:Nat):Int)then((128 -G -L:Nat):Int)else((G+L:Nat):Int))=I (.int ((c_ (G+L) (128 -G -L):Nat):Int));by_cases j:128 -G -L<G+L;rw[if_pos<|rZ.mpr j,qE<|c2 j];rw[if_neg λq=>j<|rZ.mp q,uw<|fD.mp j];rw[show aa.tuple [.float g0,.float g4,.float g5]=aa.tuple ((zl (tf k t<|fk (aw x) (aw y)<|aw ba) (hD (aw x) (aw y)<|aw ba)<|hp (aw x) (aw y)<|aw ba).map .float)by rw[e];rfl];refine aj.call (ds:=[.float<|tf k t<|fk (aw x) (aw y)<|aw ba,.float<|hD (aw x) (aw y)<|aw ba,.float<|hp (aw x) (aw y)<|aw ba]) z z ?_<|XX 4 _ _ _ D;rw[show bD (lN 1)=[cw<|lN 1,((bD<|lN 1)[1]?).getD b5,((bD<|lN 1)[2]?).getD b5]by kernel_rfl];exact aL.cons z (aj.leaf 9 (λl p=>z)<|Se E)<|aL.cons z (aj.lf 9 (.float<|hD (aw x) (aw y)<|aw ba) λl p=>z)<|aL.cons z (aj.lf 9 (.float<|hp (aw x) (aw y)<|aw ba) λl p=>z) aL.nil
def QT(f:l4 g0=ab)(h:l4 g4=ab)(i:l4 g5=ab):aj (dB 7) jH (tv a b c k w t x y ba G L iz ec gY kf eF g0 g4 g5).plus (a3<|dO 3) (.list<|[g0,g4,g5].map λd=>.int<|jo d -(w:Nat)):=by
 refine aj.k7 [g0,g4,g5] aa.float _ z (dw.lf 9 [.float g0,.float g4,.float g5] λl j=>z) (λq=>z) (λd n=>?_) (show 3<=1000000 by exact dU _ _);have e:l4 d=ab:=by rcases cJ.mp n with rfl|n;exact f;rcases cJ.mp n with rfl|n;exact h;rw[cm]at n;exact n▸i
 refine aj.bin (op:=.Sub) (a:=.int<|jo d) (b:=af w) z (aj.call (ds:=[.float<|cz iV d]) z z ?_<|Cu (k:=7) (g:=vB) z<|acG e) (aj.lf 9 (af w) λl j=>z) λl=>rfl;rw[(z:bD (dT<|fZ<|a3<|dO 3)=[cw<|dT<|fZ<|a3<|dO 3])];exact aL.cons z (aj.leaf 9 (x:=if iv 64 then I (.float<|cz iV d)else ag) (λl j=>z) z) aL.nil
def aat(a b c:Int)(k w t x y ba G L:Nat)(iz ec gY kf eF g0 g4 g5:bz)(e d m:Int):aG:=(tv a b c k w t x y ba G L iz ec gY kf eF g0 g4 g5).vals [("blue",.int m),("green",.int d),("red",.int e)]
def wq(k:Nat)(e w m:Int):aa:=if k=2 then jS (e -3) w (m+3)else jS e w m
def YB:∀k,k<3->hh .Eq (gN k) (.str "l")=I (decide (k=2))|0,_=>z|1,_=>z|2,_=>z|k+3,j=>absurd j<|fD.mpr<|dU 3 k
def abz(g:dH ec kf=ab)(q:dH gY eF=ab):hh .NotEq (.tuple [.float ec,.float gY]) (.tuple [.float kf,.float eF])=I au:=by
 have f:dQ 9 (.tuple [.float ec,.float gY]) (.tuple [.float kf,.float eF])=I ab:=by show((if dH ec kf=ab then I ab else ag).bind λk=>agp (λw=>k&&w)<|(if dH gY eF=ab then I ab else ag).bind λk=>agp (λw=>k&&w)<|I ab)=_;rw[g,q];rfl
 show(dQ 9 _ _).map (!·)=_;rw[f];rfl
def Qa(m:k<3){o4 o5 o6:Int}(g:dH ec kf=ab)(q:dH gY eF=ab):aI (dB 7) jH [] (aat a b c k w t x y ba G L iz ec gY kf eF g0 g4 g5 o4 o5 o6) [dO 4] (.ret<|wq k o4 o5 o6):=by refine aI.ret<|aH.ret z<|aj.ite (k:=au) z (bS.leaf 9 (x:=hh .NotEq (.tuple [.float ec,.float gY])<|.tuple [.float kf,.float eF]) (λl d=>z)<|abz g q) (λj=>nomatch j) λ_=>aj.ite (k:=decide (k=2)) z (bS.leaf 9 (x:=hh .Eq (gN k)<|.str "l") (λl d=>z)<|YB k m) (λj=>?_) λj=>?_;rw[show wq k o4 o5 o6=jS (o4 -3) o5 (o6+3)from if_pos<|of_decide_eq_true j];exact aj.lf 12 (jS (o4 -3) o5<|o6+3) λl d=>z;rw[show wq k o4 o5 o6=jS o4 o5 o6 from if_neg<|of_decide_eq_false j];exact aj.lf 12 (jS o4 o5 o6) λl d=>z
end
noncomputable def dy(x:bz):Bool:=match ia x with|.fin au _ _=>ab|_=>au
noncomputable def dz(x:bz):Nat:=(agY x).natAbs
def l2(j:dy x=ab):∃c f,ia x=.fin au c f:=by unfold dy at j;split at j;exact⟨_,_,o⟩;cases j
def aaG{x:bz}(j:ia x=.fin au c f):dy x=ab:=by unfold dy;rw[j]
def z6{x:bz}(j:ia x=.fin au c f):agY x=(dz x:Nat):=by unfold dz;rw[GN j,Float64.val_eq j];rfl
def aA{i p:Bool}(q:(i&&p)=ab):i=ab:=(aM q).1
def aaB{m i p:Nat}(j:p<i)(g:m<=p):kL m p<kL m i:=by unfold kL;rw[ux g,ux<|aC g<|c2 j,g9,g9];exact Gz g j
def aaC{m i p:Nat}(j:p<i)(g:i<=m):kL m i<kL m p:=by unfold kL;rw[ux g,ux<|aC (c2 j) g,af6,af6];exact Nat.sub_lt_sub_left (du j g) j
def D2(j:p<i)(k:kL m i<=kL m p):i+p<=2*m:=(Gp m p).elim (λg=>absurd k<|m_.mpr<|aaB j g) λg=>by have k:i -m<=m -p:=aC (aC (dU _ _) k) (by unfold kL;rw[ux g];exact bM _);rw[uy];exact aC (jv (A'.mp k) p) (cL<|by rw[ef,n9 g])
def L6(j:p<i)(k:kL m p<=kL m i):2*m<=i+p:=(Gp i m).elim (λg=>absurd k<|m_.mpr<|aaC j g) λg=>by have k:m -p<=i -m:=aC (aC (b_ _ _) k) (by unfold kL;rw[ux g,g9];exact bM _);rw[uy];exact aC (jv (A'.mp k) m) (cL<|by rw[ef,n9 g])
def L7(j:2*m=i+p):kL m i=kL m p:=by rw[uy]at j;unfold kL;rw[<-af5 m m i,j,af4,<-af5 i p m,<-j,fU p m,af4,fU]
def VL(j:a<r)(s:r%2=0)(l:a%2=0):a+1<r:=xy j λf=>by rw[<-f,OX,l]at s;exact absurd s (by decide)
def Fo{L n:bz}{F A aa:Nat}(O:GJ L au F aa)(H:GJ n au A aa)(y:0<aa)(i:F<=A)(I:dy n=ab):dy L=ab/\dz L<=dz n:=by
 obtain⟨C,rfl,w,d,p⟩:=O;obtain⟨a,rfl,b,f,j⟩:=H;have lt':a<Pt:=by refine xy b λG=>?_;subst G;obtain⟨P,k,B⟩:=l2 I;have:ia (Float64.pack au Pt)=.inf au:=z;rw[this]at B;cases B
 have K:¬aa*((2^54 -1)*2^2045)<=2*A:=λq=>absurd (f.mpr q)<|fs lt';have D:C<Pt:=xy w λG=>K<|aC (d.mp G)<|kJ 2 i;obtain⟨P,G,B,J⟩:=agV au D;obtain⟨Q,N,E,c⟩:=agV au lt';refine⟨aaG B,?_⟩;unfold dz;rw[GN B,GN E,J,c];refine fD.mp λq=>?_;have M:a<C:=m_.mp λx=>absurd (Float64.V_mono x)<|m_.mpr q;have c9:=p D a;have dp:=j lt' C;have gh:=(p D<|a+1).1;have dZ:aa*pw a<aa*pw C:=O5 q y;have g:=agU<|e5 a;have fa:aa*pw a<aa*pw (a+1):=O5 g y;have dd:=D2 dZ c9.1;have cp:=L6 dZ dp.1;have gg:2*F<=2*A:=kJ 2 i;have gK:2*F=aa*pw C+aa*pw a:=ur (aC gg cp) dd;have oH:2*A=aa*pw C+aa*pw a:=ur cp<|gK▸gg;have s:C%2=0:=c9.2 (fs q)<|L7 gK;have l:a%2=0:=dp.2 (i_ q) (L7 oH).symm;have Aj:aa*pw (a+1)<aa*pw C:=O5 (agU<|VL M s l) y;have vO:=D2 Aj gh;rw[gK]at vO;exact absurd (Nat.le_of_add_le_add_left vO)<|m_.mpr fa
def l0(ae:dy m=ab)(i:dy b=ab)(a:dy w=ab)(r:dy f=ab)(g:dz m<=dz w)(q:dz b<=dz f)(d:dy (cz w f)=ab):dy (cz m b)=ab/\dz (cz m b)<=dz (cz w f):=by obtain⟨_,_,j⟩:=l2 ae;obtain⟨_,_,p⟩:=l2 i;obtain⟨_,_,c⟩:=l2 a;obtain⟨_,_,e⟩:=l2 r;exact Fo (agX j p) (agX c e) (agl _) (xB g q) d
def H6{a b:bz}{g k:Nat}{d s:Int}(ae:ia a=.fin au g d)(i:ia b=.fin au k s)(c:0<dz a):GJ (da a b) au (dz a+dz b) 1:=by have w:=(Float64.add_right ae i).2;rw[z6 ae,z6 i,<-F9,AV,decide_eq_false<|g8.mpr<|iG _]at w;exact w λh=>absurd (F' h)<|i_<|af3 c _
def ND{a b:bz}{g k:Nat}{d s:Int}(ae:ia a=.fin au g d)(i:ia b=.fin au k s)(c:dz b<dz a):GJ (bU a b) au (dz a -dz b) 1:=by have w:=(Float64.sub_right ae i).2;rw[z6 ae,z6 i,<-AW (c2 c),AV,decide_eq_false<|g8.mpr<|iG _]at w;exact w λh=>absurd (F' h)<|i_<|agh c
def H5(ae:dy m=ab)(i:dy b=ab)(r:dy f=ab)(c:0<dz m)(a:dz b<=dz f)(d:dy (da m f)=ab):dy (da m b)=ab/\dz (da m b)<=dz (da m f):=by obtain⟨_,_,j⟩:=l2 ae;obtain⟨_,_,p⟩:=l2 i;obtain⟨_,_,e⟩:=l2 r;exact Fo (H6 j p c) (H6 j e c) O9 (gy a _) d
def NB(ae:dy m=ab)(i:dy b=ab)(r:dy f=ab)(c:dz b<=dz f)(a:dz f<dz m)(d:dy (bU m b)=ab):dy (bU m f)=ab/\dz (bU m f)<=dz (bU m b):=by obtain⟨_,_,j⟩:=l2 ae;obtain⟨_,_,p⟩:=l2 i;obtain⟨_,_,e⟩:=l2 r;exact Fo (ND j e a) (ND j p<|cH c a) O9 (O_ c _) d
def h4(c:Nat)(x:bz):Bool:=dy x&&bG (4*dz x) ((4*c+1)*2^1074)&&bG ((4*c -1)*2^1074) (4*dz x)
def L5(d:h4 c n=ab)(q:h4 c g=ab)(k:dy x=ab)(i:dz n<=dz x)(p:dz x<=dz g):h4 c x=ab:=by unfold h4 at*;simp only[c0,h_]at*;exact⟨⟨k,aC (kJ 4 p) q.1.2⟩,aC d.2<|kJ 4 i⟩
def aei{i p d:Nat}(ao:0<d)(j:p+d<=i):2*(i+p)+d<4*i:=by refine du (OW (Nat.lt_add_of_pos_left ao:d<d+d) _) ?_;rw[<-uy,<-xA,hy];exact aC (kJ 2<|gy j i) (cL<|by rw[<-uy,<-qF])
def acb{y c:Nat}(j:2*y<=c):4*y<=2*c:=(qF 2 2 y).symm▸kJ 2 j
def aej(ao:0<d)(j:p+d<=i)(c:4*i -d<=4*y):¬2*y<=i+p:=λq=>jZ _<|du (aei ao j)<|A'.mp<|aC c<|acb q
def aek(ao:0<d)(j:p+d<=i)(c:4*y<=4*p+d):¬i+p<=2*y:=by omega
def Ql(C:0<c)(j:h4 c x=ab):p3 x=ab/\z2 x=(c:Nat):=by
 unfold h4 at j;simp only[c0,h_]at j;obtain⟨⟨k,g⟩,A⟩:=j;obtain⟨B,f,a⟩:=l2 k;refine⟨by unfold p3;rw[a],?_⟩;unfold z2;rw[a];show Float64.sgn au (Bg (GK B 1 f).1 (GK B 1 f).2)=_;have D:=Float64.shift_one B f 1074<|Float64.decode_ge a;have ao:=Float64.shift_pos B 1 f (by decide);unfold dz at g A;rw[GN a]at g A;generalize H:(GK B 1 f).1=y at*;generalize t:(GK B 1 f).2=d at*;generalize w:B*2^(f+1074).toNat=K at*;have l:0<2^1074:=agl 1074;generalize(2:Nat)^1074=r at*;have s:y*r=K*d:=D;have E:4*y<=(4*c+1)*d:=by
  refine af9 ?_ l;calc 4*y*r=4*K*d:=by rw[qF,s,qF]
   _<=(4*c+1)*r*d:=xC d g
   _=(4*c+1)*d*r:=by ac_rfl
 have p:(4*c -1)*d<=4*y:=by
  refine af9 ?_ l;calc(4*c -1)*d*r=(4*c -1)*r*d:=by ac_rfl
   _<=4*K*d:=xC d A
   _=4*y*r:=by rw[qF,qF,s]
 have b:=Float64.halfEven_nearest y d ao c;have i:(4*c+1)*d=4*(d*c)+d:=by rw[Gm,qF,qG c d,O8]
 have F:(4*c -1)*d=4*(d*c) -d:=by rw[Nat.sub_mul,qF,qG c d,O8]
 have G:d<=d*c:=Nat.le_mul_of_pos_right d C;have:Bg y d=c:=by
  rcases A9 (Bg y d) c with q|q|q;have:d*(Bg y d)+d<=d*c:=by rw[<-Gu];exact kJ d q
  exact absurd (L6 (du (qD ao) this) b)<|aej ao this<|F▸p;exact q;have:d*c+d<=d*(Bg y d):=by rw[<-Gu];exact kJ d q
  exact absurd (D2 (du (qD ao) this) b)<|aek ao this<|i▸E
 rw[this];rfl
def o3(l t m:bz):bz:=cz t<|bU h1<|cz l m
def t5(c q m:bz):bz:=da c<|cz (cz (bU q c) m) hi
def v9(lo g m:bz):Bool:=dy m&&bG (dz lo) (dz m)&&bG (dz m) (dz g)
def MH(l t lo g:bz)(c:Nat):Bool:=dy l&&dy t&&dy lo&&dy g&&dy (cz l g)&&qB (dz<|cz l g) (dz h1)&&dy (bU h1<|cz l lo)&&dy (o3 l t lo)&&h4 c (cz iV<|o3 l t lo)&&h4 c (cz iV<|o3 l t g)
def NW(c q lo g:bz)(a:Nat):Bool:=dy c&&qB 0 (dz c)&&dy (bU q c)&&dy lo&&dy g&&dy (cz (bU q c) g)&&dy (cz (cz (bU q c) g) hi)&&dy (t5 c q g)&&h4 a (cz iV<|t5 c q lo)&&h4 a (cz iV<|t5 c q g)
def L_:dy h1=ab:=by decide+kernel
def z3:dy hi=ab:=by decide+kernel
def qd:dy iV=ab:=by decide+kernel
def L8(j:h4 c x=ab):dy x=ab:=by unfold h4 at j;simp only[c0]at j;exact j.1.1
def ab'(j:MH l t n g c=ab)(ae:v9 n g m=ab):h4 c (cz iV<|o3 l t m)=ab:=by have A:=(aA<|aA<|aA<|aA<|aA<|aA<|aA<|aA<|aA j);have e:=(aM<|aA<|aA<|aA<|aA<|aA<|aA<|aA<|aA j).2;have G:=(aM<|aA<|aA<|aA<|aA<|aA<|aA<|aA j).2;have F:=(aM<|aA<|aA<|aA<|aA<|aA<|aA j).2;have D:=(aM<|aA<|aA<|aA<|aA<|aA j).2;have q:=qC.mp (aM<|aA<|aA<|aA<|aA j).2;have E:=(aM<|aA<|aA<|aA j).2;have k:=(aM<|aA<|aA j).2;have w:=(aM<|aA j).2;have f:=(aM j).2;have d:=aA<|aA ae;have i:=m8 (aM<|aA ae).2;have p:=m8 (aM ae).2;have r:=l0 A d A F (bM _) p D;have H:=l0 A G A d (bM _) i r.1;have J:=cH r.2 q;have fg:=NB L_ H.1 r.1 H.2 J E;have b8:=NB L_ r.1 D r.2 q fg.1;have B:=l0 e fg.1 e E (bM _) fg.2 k;have I:=l0 e b8.1 e fg.1 (bM _) b8.2 B.1;have C:=l0 qd B.1 qd k (bM _) B.2<|L8 w;have y:=l0 qd I.1 qd B.1 (bM _) I.2 C.1;exact L5 f w C.1 y.2 C.2
def aeG(j:NW c d n g e=ab)(ae:v9 n g m=ab):h4 e (cz iV<|t5 c d m)=ab:=by have r:=(aA<|aA<|aA<|aA<|aA<|aA<|aA<|aA<|aA j);have ao:=qC.mp (aM<|aA<|aA<|aA<|aA<|aA<|aA<|aA<|aA j).2;have l:=(aM<|aA<|aA<|aA<|aA<|aA<|aA<|aA j).2;have D:=(aM<|aA<|aA<|aA<|aA<|aA<|aA j).2;have s:=(aM<|aA<|aA<|aA<|aA<|aA j).2;have B:=(aM<|aA<|aA<|aA<|aA j).2;have q:=(aM<|aA<|aA<|aA j).2;have C:=(aM<|aA<|aA j).2;have w:=(aM<|aA j).2;have f:=(aM j).2;have E:=aA<|aA ae;have i:=m8 (aM<|aA ae).2;have p:=m8 (aM ae).2;have c9:=l0 l E l s (bM _) p B;have dp:=l0 l D l E (bM _) i c9.1;have k:=l0 c9.1 z3 B z3 c9.2 (bM _) q;have t:=l0 dp.1 z3 c9.1 z3 dp.2 (bM _) k.1;have fg:=H5 r k.1 q ao k.2 C;have b8:=H5 r t.1 k.1 ao t.2 fg.1;have A:=l0 qd fg.1 qd C (bM _) fg.2<|L8 f;have y:=l0 qd b8.1 qd fg.1 (bM _) b8.2 A.1;exact L5 w f A.1 y.2 A.2
def tC{d:bz}(b:0<c)(j:h4 c (cz iV d)=ab):l4 d=ab/\jo d=(c:Nat):=Ql b j
noncomputable def DE(aa h:Nat):bz:=d5 au (aa*2^20 -1)<|h*2^20
noncomputable def Dj(aa h:Nat):bz:=d5 au (aa*2^20+1)<|h*2^20
noncomputable def LL(f h:Nat):bz:=d5 au (f*2^20 -1)<|6*h*2^20
noncomputable def KV(f h:Nat):bz:=d5 au (f*2^20+1)<|6*h*2^20
noncomputable def o8(d i:Nat):bz:=d5 au (d -i) d
noncomputable def kq(d i:Nat):bz:=d5 au (d+i) 128
noncomputable def jU(d i:Nat):bz:=d5 au (d -i)<|c_ (d+i)<|128 -d -i
def Cw(d c i:Nat):Bool:=h4 d (cz iV<|aw d)&&h4 i (cz iV<|eR (o8 d i)<|aw d)&&MH (o8 d i) (aw d) (DE (d -c)<|d -i) (Dj (d -c)<|d -i) c&&!dH (o8 d i) 0&&h4 i (cz iV<|jk (kq d i)<|jU d i)&&h4 d (cz iV<|hn (kq d i)<|jU d i)&&NW (jk (kq d i)<|jU d i) (hn (kq d i)<|jU d i) (LL (c -i)<|d -i) (KV (c -i)<|d -i) c&&!dH (jU d i) 0&&dH (o8 d i) (o8 d i)&&dH (aw d) (aw d)&&dH (kq d i) (kq d i)&&dH (jU d i) (jU d i)
noncomputable def zX:List (Int×Int×Int):=[(6,4,-4),(7,2,-3),(5,4,-3),(8,0,-2),(6,2,-2),(5,3,-2),(7,0,-1),(6,1,-1),(4,3,-1),(5,1,0),(4,2,0),(3,2,1)]
noncomputable def a9(n:Nat)(i:Int):Nat:=((n:Int)+i).toNat
def mG(k:List Nat):Bool:=k.all λn=>zX.all λc=>Cw (a9 (20+n) c.1) (a9 (20+n) c.2.1)<|a9 (20+n) c.2.2
def sS{a c:List Nat}(j:mG a=ab)(k:mG c=ab):mG (a++c)=ab:=by unfold mG at j k ⊢;rw[afG,j,k];rfl
def T1:mG [0,1,2]=ab:=by decide+kernel
def T2:mG [3,4,5]=ab:=by decide+kernel
def T3:mG [6,7,8]=ab:=by decide+kernel
def T4:mG [9,10,11]=ab:=by decide+kernel
def T5:mG [12,13,14]=ab:=by decide+kernel
def T6:mG [15,16,17]=ab:=by decide+kernel
def T7:mG [18,19,20]=ab:=by decide+kernel
def TQ:((bO 21).all λn=>zX.all λc=>Cw (a9 (20+n) c.1) (a9 (20+n) c.2.1)<|a9 (20+n) c.2.2)=ab:=by rw[show bO 21=[0,1,2]++([3,4,5]++([6,7,8]++([9,10,11]++([12,13,14]++([15,16,17]++([18,19,20]))))))from rfl];exact sS T1<|sS T2<|sS T3<|sS T4<|sS T5<|sS T6 T7
def Jd(a d:Nat):Bool:=bU (aw a) (aw<|a -d)==aw d&&g_ (aw d) (aw a)==o8 a (a -d)&&!g' (aw a)&&g_ (da (aw a)<|aw<|a -d) iU==kq a (a -d)&&nA (kq a<|a -d) ji==bG (a+(a -d)) 64&&(if bG (a+(a -d)) 64 then !g' (da (aw a)<|aw<|a -d)&&g_ (aw d) (da (aw a)<|aw<|a -d)==jU a (a -d)else !g' (bU (bU iU<|aw a)<|aw<|a -d)&&g_ (aw d) (bU (bU iU<|aw a)<|aw<|a -d)==jU a (a -d))
noncomputable def pH:List Nat:=[2,4,5,7,8,10]
def TR:((bO 33).all λe=>pH.all λd=>qB (16+e) d||Jd (16+e) d)=ab:=by decide+kernel
def Ug:((bO 33).all λe=>(bO 33).all λj=>eJ (aw<|16+e) (aw<|16+j)==I (compare e j))=ab:=by decide+kernel
def adU:((bO 33).all λe=>(bO 11).all λd=>qB (16+e) d||bU (aw<|16+e) (aw<|16+e -d)==aw d)=ab:=by decide+kernel
def U_:(pH.all λw=>(bO 11).all λd=>g_ (aw d) (aw w)==d5 au d w)=ab:=by decide+kernel
def afk:(pH.all λw=>!g' (aw w))=ab:=by decide+kernel
def zo(s:br)(r n:Int):bz:=
 let a (m:Int):bz:=d5 au (r -m).toNat (r -n).toNat
 let j:=if s.1=r then bU (a s.2.2) (a s.2.1)else if s.2.1=r then bU (da iU<|a s.1) (a s.2.2)else bU (da s8<|a s.2.1) (a s.1)
 (uF (g_ j hi) h1).2
noncomputable def aU(s:br):br:=
 let r:=c1 s.1<|c1 s.2.1 s.2.2
 let n:=c_ s.1<|c_ s.2.1 s.2.2
 (r,s.1+s.2.1+s.2.2 -r -n,n)
noncomputable def h6(s:br)(k:Nat):br:=if k=0 then(s.2.1,s.1,s.2.2)else if k=1 then(s.1,s.2.2,s.2.1)else(s.2.2,s.2.1,s.1)
noncomputable def iu(c:br)(a:Int):Nat:=if a=c.1 then 2 else if a=c.2.2 then 0 else 1
def Uc(s:br)(k:Nat):List Nat:=[iu (aU s) (h6 s k).1,iu (aU s) (h6 s k).2.1,iu (aU s) (h6 s k).2.2]
noncomputable def Nc(y:Nat):List Nat:=match y with|0=>[2,1,0]|1=>[1,2,0]|2=>[0,2,1]|3=>[0,1,2]|4=>[1,0,2]|_=>[2,0,1]
def qh(j:bz):bz:=if(ed j%6).toNat%2=1 then qs j else bU h1 (qs j)
def gs(j l t:bz)(g:Nat):bz:=if g=2 then t else if g=1 then o3 l t (qh j)else eR l t
def aeK(j l t:bz):i4 j l t=(Nc (ed j%6).toNat).map (gs j l t):=by
 have x:(ed j%6).toNat<6:=(Ga<|F8 _ z).mpr<|Oq (ed j) z;have b:∀y,(ed j%6).toNat=y->y%2=1->o3 l t (qh j)=i3 j l t:=λy f d=>by unfold qh;rw[if_pos (by rw[f];exact d)];rfl
 have a:∀y,(ed j%6).toNat=y->¬y%2=1->o3 l t (qh j)=i5 j l t:=λy f d=>by unfold qh;rw[if_neg (by rw[f];exact d)];rfl
 have q:gs j l t 2=t:=rfl;have g:gs j l t 0=eR l t:=rfl;have c:gs j l t 1=o3 l t (qh j):=rfl;unfold i4;rcases LN _ x with f|f|f|f|f|f;rw[f];exact(show[t,i5 j l t,eR l t]=[gs j l t 2,gs j l t 1,gs j l t 0]by rw[q,c,g,a _ f<|by decide]);rw[f];exact(show[i3 j l t,t,eR l t]=[gs j l t 1,gs j l t 2,gs j l t 0]by rw[q,c,g,b _ f<|by decide]);rw[f];exact(show[eR l t,t,i5 j l t]=[gs j l t 0,gs j l t 2,gs j l t 1]by rw[q,c,g,a _ f<|by decide]);rw[f];exact(show[eR l t,i3 j l t,t]=[gs j l t 0,gs j l t 1,gs j l t 2]by rw[q,c,g,b _ f<|by decide]);rw[f];exact(show[i5 j l t,eR l t,t]=[gs j l t 1,gs j l t 0,gs j l t 2]by rw[q,c,g,a _ f<|by decide]);rw[f];exact(show[t,eR l t,i3 j l t]=[gs j l t 2,gs j l t 0,gs j l t 1]by rw[q,c,g,b _ f<|by decide])
def yY(j:bz):Nat×bz:=if iw (fQ j) t4 then(1,fQ j)else if iw (fQ j) ji then(2,0)else if iw (fQ j) pa then(1,bU pa<|fQ j)else(0,0)
def wF(a q:bz)(g:Nat×bz):bz:=if g.1=2 then q else if g.1=1 then t5 a q g.2 else a
def aeO(c q j:bz):pb c q j=wF c q (yY j):=by unfold pb yY wF t5;cases iw (fQ j) t4<;>cases iw (fQ j) ji<;>cases iw (fQ j) pa<;>rfl
def Cy(s:br)(k r:Nat):Bool:=
 let c:=aU s
 let j:=oO k r<|zo s c.1 c.2.2
 p3 (cz j hi)&&iv (ed j)&&Nc (ed j%6).toNat==Uc s k&&v9 (DE (c.1 -c.2.1).toNat (c.1 -c.2.2).toNat) (Dj (c.1 -c.2.1).toNat (c.1 -c.2.2).toNat) (qh j)
def rB(a:br)(g:Nat)(j:bz):Bool:=(yY j).1==g&&(g !=1||v9 (LL (a.2.1 -a.2.2).toNat (a.1 -a.2.2).toNat) (KV (a.2.1 -a.2.2).toNat (a.1 -a.2.2).toNat) (yY j).2)
def Cx(s:br)(k r:Nat):Bool:=
 let c:=aU s
 let j:=tf k r<|zo s c.1 c.2.2
 rB c (iu c (h6 s k).1) (da j qr)&&rB c (iu c (h6 s k).2.1) j&&rB c (iu c (h6 s k).2.2) (bU j qr)
def yW(s:br)(k r:Nat):Bool:=if r%2=1 then Cy s k r else Cx s k r
def mQ:List br:=(bO 6).flatMap λy=>(fl y).2.2
def mF(a:List br):Bool:=a.all λs=>(bO 3).all λk=>(bO 9).all λr=>yW s k<|r+1
def Je{a:List br}(y:Nat)(j:mF (a.take y)=ab)(k:mF (a.drop y)=ab):mF a=ab:=by rw[<-OU y a];unfold mF at j k ⊢;rw[afG,j,k];rfl
def TS:mF ((mQ.take 23).take 12)=ab:=by decide+kernel
def TU:mF ((mQ.take 23).drop 12)=ab:=by decide+kernel
def TV:mF ((mQ.drop 23).take 12)=ab:=by decide+kernel
def TX:mF ((mQ.drop 23).drop 12)=ab:=by decide+kernel
def TY:mF (mQ.take 23)=ab:=Je 12 TS TU
def TZ:mF (mQ.drop 23)=ab:=Je 12 TV TX
def M9(s:br):Bool:=zX.contains (aU s)&&decide (s.1≠s.2.1)&&decide (s.2.1≠s.2.2)&&decide (s.1≠s.2.2)&&pH.contains ((aU s).1 -(aU s).2.2).toNat&&decide (-4<=(aU s).2.2)&&decide ((aU s).1<=8)
def acQ:(mQ.all M9)=ab:=by decide+kernel
structure eW(x:Nat):Prop where
 lo:16<=x
 gL:x<=48
def eW.zD{m:Nat}(j:eW m):m -16<33:=jw<|O' j.gL 16
def CC(ae:eW m)(i:eW b):eJ (aw m) (aw b)=I (compare m b):=by have:=bZ.mp (bZ.mp Ug (m -16)<|ee.mpr ae.zD) (b -16)<|ee.mpr i.zD;rw[r3 ae.lo,r3 i.lo]at this;rw[bL this];have g:=ae.lo;have q:=i.lo;congr 1;rcases A9 m b with j|j|j;rw[A6.mpr j,A6.mpr<|Gz g j];subst j;rw[A4.mpr rfl,A4.mpr rfl];rw[A5.mpr j,A5.mpr<|Gz q j]
def Dc(ae:eW m)(i:eW b):(eJ (aw m) (aw b)==I r6)=decide (b<m):=by rw[CC ae i];rcases A9 m b with j|j|j;rw[A6.mpr j,decide_eq_false<|by omega];rfl;subst j;rw[A4.mpr rfl,decide_eq_false<|by omega];rfl;rw[A5.mpr j,decide_eq_true j];rfl
def DJ(ae:eW m)(i:eW b):(eJ (aw m) (aw b)==I lq)=decide (m<b):=by rw[CC ae i];rcases A9 m b with j|j|j;rw[A6.mpr j,decide_eq_true j];rfl;subst j;rw[A4.mpr rfl,decide_eq_false<|by omega];rfl;rw[A5.mpr j,decide_eq_false<|by omega];rfl
def CS(ae:eW m)(i:eW b):dH (aw m) (aw b)=decide (m=b):=by unfold dH;rw[CC ae i];rcases A9 m b with j|j|j;rw[A6.mpr j,decide_eq_false<|by exact fs o];rfl;subst j;rw[A4.mpr rfl,decide_eq_true rfl];rfl;rw[A5.mpr j,decide_eq_false<|by exact i_ o];rfl
def yJ(s:Nat->Nat->Bool):fE s 2=if s 2 (if s 1 0 then 1 else 0)then 2 else if s 1 0 then 1 else 0:=rfl
def aav(ae:eW m)(i:eW b)(k:eW a):mN (aw m) (aw b) (aw a)=aw (c1 m<|c1 b a):=by have l:(eJ (eQ (aw m) (aw b) (aw a) 1) (eQ (aw m) (aw b) (aw a) 0)==I r6)=decide (m<b):=Dc i ae;have e:(eJ (eQ (aw m) (aw b) (aw a) 2) (eQ (aw m) (aw b) (aw a) 1)==I r6)=decide (b<a):=Dc k i;have f:(eJ (eQ (aw m) (aw b) (aw a) 2) (eQ (aw m) (aw b) (aw a) 0)==I r6)=decide (m<a):=Dc k ae;unfold mN;rw[yJ,l];by_cases g:m<b;rw[decide_eq_true g,if_pos rfl,e];by_cases d:b<a;rw[decide_eq_true d,if_pos rfl,uv<|c2 d,uv<|c2<|r4 g d];rfl;rw[decide_eq_false d,if_neg h8,Gs<|fD.mp d,uv<|c2 g];rfl;rw[decide_eq_false g,if_neg h8,f];by_cases d:m<a;rw[decide_eq_true d,if_pos rfl,uv<|c2<|cH (fD.mp g) d,uv<|c2 d];rfl;rw[decide_eq_false d,if_neg h8,Gs<|A_.mpr ⟨fD.mp g,fD.mp d⟩];rfl
def aar(ae:eW m)(i:eW b)(k:eW a):qb (aw m) (aw b) (aw a)=aw (c_ m<|c_ b a):=by have l:(eJ (eQ (aw m) (aw b) (aw a) 1) (eQ (aw m) (aw b) (aw a) 0)==I lq)=decide (b<m):=DJ i ae;have e:(eJ (eQ (aw m) (aw b) (aw a) 2) (eQ (aw m) (aw b) (aw a) 1)==I lq)=decide (a<b):=DJ k i;have f:(eJ (eQ (aw m) (aw b) (aw a) 2) (eQ (aw m) (aw b) (aw a) 0)==I lq)=decide (a<m):=DJ k ae;unfold qb;rw[yJ,l];by_cases g:b<m;rw[decide_eq_true g,if_pos rfl,e];by_cases d:a<b;rw[decide_eq_true d,if_pos rfl,qE<|c2 d,qE<|c2<|r4 d g];rfl;rw[decide_eq_false d,if_neg h8,uw<|fD.mp d,qE<|c2 g];rfl;rw[decide_eq_false g,if_neg h8,f];by_cases d:a<m;rw[decide_eq_true d,if_pos rfl,qE<|c2<|du d<|fD.mp g,qE<|c2 d];rfl;rw[decide_eq_false d,if_neg h8,uw<|Nat.le_min.mpr ⟨fD.mp g,fD.mp d⟩];rfl
def Aw(f:eW d)(j:m<=d)(a:d -m<11):bU (aw d) (aw m)=aw (d -m):=by have:=bZ.mp (bZ.mp adU (d -16)<|ee.mpr f.zD) (d -m)<|ee.mpr a;rw[r3 f.lo,mj]at this;rcases this with q|q;exact absurd (qC.mp q)<|fD.mpr (qH ..);rw[agi j]at q;exact bL q
def CP(i:w∈pH)(a:d<11):g_ (aw d) (aw w)=d5 au d w:=bL<|bZ.mp (bZ.mp U_ w i) d<|ee.mpr a
def X0(d:eW m)(g:eW b)(n:eW a)(i:c1 m (c1 b a) -c_ m (c_ b a)∈pH):ae (aw m) (aw b) (aw a)=⟨aw<|c1 m<|c1 b a,aw<|c_ m<|c_ b a,aw<|c1 m (c1 b a) -c_ m (c_ b a),d5 au (c1 m (c1 b a) -m)<|c1 m (c1 b a) -c_ m (c_ b a),d5 au (c1 m (c1 b a) -b)<|c1 m (c1 b a) -c_ m (c_ b a),d5 au (c1 m (c1 b a) -a)<|c1 m (c1 b a) -c_ m (c_ b a)⟩:=by have f:eW (c1 m<|c1 b a):=⟨aC d.lo<|xx _ _,A_.mpr ⟨d.gL,A_.mpr ⟨g.gL,n.gL⟩⟩⟩;have l:c1 m (c1 b a) -c_ m (c_ b a)<11:=(show∀w∈pH,w<11 by decide) _ i;have e:m<=c1 m (c1 b a):=xx _ _;have p:b<=c1 m (c1 b a):=aC (xx _ _)<|A7 _ _;have c:a<=c1 m (c1 b a):=aC (A7 _ _)<|A7 _ _;have q:c_ m (c_ b a)<=m:=O3 _ _;have s:c_ m (c_ b a)<=b:=aC (O4 _ _)<|O3 _ _;have A:c_ m (c_ b a)<=a:=aC (O4 _ _)<|O4 _ _;have t:∀{k},c_ m (c_ b a)<=k->c1 m (c1 b a) -k<11:=λj=>cH (O_ j _) l;show(⟨mN _ _ _,qb _ _ _,bU (mN _ _ _)<|qb _ _ _,g_ (bU (mN _ _ _) _)<|bU (mN _ _ _)<|qb _ _ _,g_ (bU (mN _ _ _) _)<|bU (mN _ _ _)<|qb _ _ _,g_ (bU (mN _ _ _) _)<|bU (mN _ _ _)<|qb _ _ _⟩:BR)=_;rw[aav d g n,aar d g n,Aw f (aC q e) l,Aw f e<|t q,Aw f p<|t s,Aw f c<|t A,CP i<|t q,CP i<|t s,CP i<|t A]
def Jj(s:br)(m:Int):Bool:=(iu (aU s) m==2&&m==(aU s).1)||((iu (aU s) m==1&&m==(aU s).2.1)||(iu (aU s) m==0&&m==(aU s).2.2))
def cA(s:br)(m:Int):Bool:=decide (-4<=m)&&decide (m<=8)&&decide (m<=(aU s).1)&&Jj s m
def M8(s:br):Bool:=cA s s.1&&cA s s.2.1&&cA s s.2.2&&cA s (aU s).2.1&&decide ((aU s).2.2<(aU s).2.1)&&decide ((aU s).2.1<(aU s).1)
def acP:(mQ.all M8)=ab:=by decide+kernel
structure eg(p:br)(w:Nat):Prop where
 s:M9 p=true
 s2:M8 p=true
 lo:20<=w
 gL:w<=40
structure u_(p:br)(x:Int):Prop where
 lo:-4<=x
 gL:x<=8
 le:x<=(aU p).1
 c:(iu (aU p) x=2/\x=(aU p).1)\/(iu (aU p) x=1/\x=(aU p).2.1)\/(iu (aU p) x=0/\x=(aU p).2.2)
def zt(j:cA s m=ab):u_ s m:=by unfold cA Jj at j;simp only[c0,mj,decide_eq_true_eq,beq_iff_eq]at j;exact⟨j.1.1.1,j.1.1.2,j.1.2,j.2⟩
def AF(j:i<=p):a9 n i<=a9 n p:=OB<|Om j _
def N0:c1 (a9 n i) (a9 n p)=a9 n (c1 i p):=by rcases afE i p with j|j;rw[xo j,uv<|AF j];rw[Ov j,Gs<|AF j]
def N1:c_ (a9 n i) (a9 n p)=a9 n (c_ i p):=by rcases afE i p with j|j;rw[Ow j,uw<|AF j];rw[xp j,qE<|AF j]
def NJ{m b:Int}(i:0<=b)(j:b<=m):m.toNat -b.toNat=(m -b).toNat:=by obtain⟨a,rfl⟩:=afB i;obtain⟨k,rfl⟩:=Int.le.dest j;rw[show(a:Int)+k -a=k by exact(congrArg (· -(a:Int))<|AU _ _).trans<|afz _ _,n5,n5,<-F9,n5,OY]
section
variable{p:br}{w:Nat}(h:eg p w)
include h
def eg.mA:p.1≠p.2.1/\p.2.1≠p.2.2/\p.1≠p.2.2/\-4<=(aU p).2.2/\(aU p).1<=8/\aU p∈zX/\((aU p).1 -(aU p).2.2).toNat∈pH:=by have r:=h.s;exact⟨of_decide_eq_true (aM<|aA<|aA<|aA<|aA<|aA r).2,of_decide_eq_true (aM<|aA<|aA<|aA<|aA r).2,of_decide_eq_true (aM<|aA<|aA<|aA r).2,of_decide_eq_true (aM<|aA r).2,of_decide_eq_true (aM r).2,iH.mp<|aA<|aA<|aA<|aA<|aA<|aA r,iH.mp (aM<|aA<|aA r).2⟩
def eg.nG:(u_ p p.1/\u_ p p.2.1/\u_ p p.2.2)/\u_ p (aU p).2.1/\(aU p).2.2<(aU p).2.1/\(aU p).2.1<(aU p).1:=by have r:=h.s2;exact⟨⟨zt<|aA<|aA<|aA<|aA<|aA r,zt (aM<|aA<|aA<|aA<|aA r).2,zt (aM<|aA<|aA<|aA r).2⟩,zt (aM<|aA<|aA r).2,of_decide_eq_true (aM<|aA r).2,of_decide_eq_true (aM r).2⟩
def eg.nn(g:-4<=i):0<=(w:Int)+i:=F7 (hv.mpr<|aC (show 4<=20 by decide) h.lo) g
def eg.nat(g:-4<=a)(q:a<=8):(w:Int)+a=(a9 w a:Nat)/\eW (a9 w a):=⟨(qA<|h.nn g).symm,OB<|F7 (hv.mpr h.lo) g,OB<|F7 (hv.mpr h.gL) q⟩
def eg.ka:(-4<=p.1/\p.1<=8)/\(-4<=p.2.1/\p.2.1<=8)/\(-4<=p.2.2/\p.2.2<=8):=by obtain⟨i,d,g⟩:=h.nG.1;exact⟨⟨i.lo,i.gL⟩,⟨d.lo,d.gL⟩,g.lo,g.gL⟩
def eg.mid:-4<=(aU p).2.1/\(aU p).2.1<=8/\(aU p).2.2<(aU p).2.1/\(aU p).2.1<(aU p).1:=⟨h.nG.2.1.lo,h.nG.2.1.gL,h.nG.2.2⟩
def eg.inj{i p:Int}(g:-4<=i)(q:-4<=p):a9 w i=a9 w p↔i=p:=⟨λf=>Int.add_left_cancel (a:=(w:Int)) (by rw[<-qA (h.nn g),<-qA (h.nn q)];exact congrArg Oy f),λf=>f▸rfl⟩
def eg.KW:eW (a9 w (aU p).1):=(h.nat (jY h.mid.1<|hK h.mid.2.2.2) h.mA.2.2.2.2.1).2
def eg.vJ(g:-4<=a)(q:a<=(aU p).1):a9 w (aU p).1 -a9 w a=((aU p).1 -a).toNat:=by unfold a9;rw[NJ (h.nn g)<|Om q _,afy]
def eg.gl:c1 (a9 w p.1) (c1 (a9 w p.2.1)<|a9 w p.2.2)=a9 w (aU p).1/\c_ (a9 w p.1) (c_ (a9 w p.2.1)<|a9 w p.2.2)=a9 w (aU p).2.2/\a9 w (aU p).1 -a9 w (aU p).2.2=((aU p).1 -(aU p).2.2).toNat/\a9 w (aU p).2.2<a9 w (aU p).1:=by obtain⟨c,q,hF,gO⟩:=h.mid;have t:=uj hF gO;have d:=h.vJ h.mA.2.2.2.1<|hK t;refine⟨by rw[N0,N0];rfl,by rw[N1,N1];rfl,d,O1 ?_⟩;rw[d];exact Int.lt_toNat.mpr<|Oz t
def eg.v3:ae (aw<|a9 w p.1) (aw<|a9 w p.2.1) (aw<|a9 w p.2.2)=⟨aw<|a9 w (aU p).1,aw<|a9 w (aU p).2.2,aw ((aU p).1 -(aU p).2.2).toNat,d5 au ((aU p).1 -p.1).toNat ((aU p).1 -(aU p).2.2).toNat,d5 au ((aU p).1 -p.2.1).toNat ((aU p).1 -(aU p).2.2).toNat,d5 au ((aU p).1 -p.2.2).toNat ((aU p).1 -(aU p).2.2).toNat⟩:=by obtain⟨⟨c9,dp⟩,⟨n,t⟩,j,y⟩:=h.ka;obtain⟨dd,cp,gg,gK⟩:=h.gl;obtain⟨_,_,_,k,d,_,a⟩:=h.mA;obtain⟨f,e,b⟩:=h.nG.1;rw[X0 (h.nat c9 dp).2 (h.nat n t).2 (h.nat j y).2 (by rw[dd,cp,gg];exact a),dd,cp,gg,h.vJ c9 f.le,h.vJ n e.le,h.vJ j b.le]
def eg.K0:fk (aw<|a9 w p.1) (aw<|a9 w p.2.1) (aw<|a9 w p.2.2)=zo p (aU p).1 (aU p).2.2:=by obtain⟨⟨c9,dp⟩,⟨n,t⟩,j,y⟩:=h.ka;obtain⟨_,_,_,k,d,_,a⟩:=h.mA;obtain⟨c,q,hF,gO⟩:=h.mid;have r:=jY c<|hK gO;have f:=h.nat r d;have i:=h.inj c9 r;have m:=h.inj n r;unfold fk;rw[h.v3];unfold gn zo;dsimp only;rw[CS (h.nat c9 dp).2 f.2,CS (h.nat n t).2 f.2];by_cases dZ:p.1=(aU p).1;rw[decide_eq_true<|i.mpr dZ,if_pos rfl,if_pos dZ];rw[decide_eq_false λx=>dZ<|i.mp x,if_neg h8,if_neg dZ];by_cases fa:p.2.1=(aU p).1;rw[decide_eq_true<|m.mpr fa,if_pos rfl,if_pos fa];rw[decide_eq_false λx=>fa<|m.mp x,if_neg h8,if_neg fa]
def eg.cls(ae:m=p.1\/m=p.2.1\/m=p.2.2):(iu (aU p) m=2/\m=(aU p).1)\/(iu (aU p) m=1/\m=(aU p).2.1)\/(iu (aU p) m=0/\m=(aU p).2.2):=by obtain⟨f,e,b⟩:=h.nG.1;rcases ae with rfl|rfl|rfl;exact f.c;exact e.c;exact b.c
def eg.l3:Cw (a9 w (aU p).1) (a9 w (aU p).2.1) (a9 w (aU p).2.2)=ab:=by have:=bZ.mp (bZ.mp TQ (w -20)<|ee.mpr<|jw<|O' h.gL 20) _ h.mA.2.2.2.2.2.1;rwa [r3 h.lo]at this
def eg.mP:Jd (a9 w (aU p).1) ((aU p).1 -(aU p).2.2).toNat=ab:=by obtain⟨_,_,_,k,d,_,a⟩:=h.mA;obtain⟨c,b,hF,gO⟩:=h.mid;obtain⟨dd,cp,gg,gK⟩:=h.gl;have f:=h.KW;have:=bZ.mp (bZ.mp TR (a9 w (aU p).1 -16)<|ee.mpr f.zD) _ a;rw[r3 f.lo,mj]at this;rcases this with q|q;exact absurd (qC.mp q)<|fD.mpr (gg▸qH ..);exact q
def eg.back:a9 w (aU p).1 -((aU p).1 -(aU p).2.2).toNat=a9 w (aU p).2.2:=by obtain⟨dd,cp,gg,gK⟩:=h.gl;rw[<-gg];exact agi<|c2 gK
end
def Z9(i p g:Int):lY [i,p,g]=c1 i (c1 p g):=by show f7 [i,p,g] (fE _ 2)=_;rw[yJ];show f7 [i,p,g] (if decide (f7 [i,p,g] 2>f7 [i,p,g] (if decide (p>i)=ab then 1 else 0))=ab then 2 else if decide (p>i)=ab then 1 else 0)=_;by_cases q:p>i;rw[decide_eq_true q,if_pos rfl];show f7 [i,p,g] (if decide (g>p)=ab then 2 else 1)=_;by_cases w:g>p;rw[decide_eq_true w,if_pos rfl];show g=_;rw[xo<|hK w,xo<|hK<|uj q w];rw[decide_eq_false w,if_neg h8];show p=_;rw[Ov<|g8.mp w,xo<|hK q];rw[decide_eq_false q,if_neg h8];show f7 [i,p,g] (if decide (g>i)=ab then 2 else 0)=_;by_cases w:g>i;rw[decide_eq_true w,if_pos rfl];show g=_;rw[xo<|hK<|n4 (g8.mp q) w,xo<|hK w];rw[decide_eq_false w,if_neg h8];show i=_;exact(Ov<|Int.max_le.mpr ⟨g8.mp q,g8.mp w⟩).symm
def aak(i p g:Int):nO [i,p,g]=c_ i (c_ p g):=by show f7 [i,p,g] (fE _ 2)=_;rw[yJ];show f7 [i,p,g] (if decide (f7 [i,p,g] 2<f7 [i,p,g] (if decide (p<i)=ab then 1 else 0))=ab then 2 else if decide (p<i)=ab then 1 else 0)=_;by_cases q:p<i;rw[decide_eq_true q,if_pos rfl];show f7 [i,p,g] (if decide (g<p)=ab then 2 else 1)=_;by_cases w:g<p;rw[decide_eq_true w,if_pos rfl];show g=_;rw[xp<|hK w,xp<|hK<|uj w q];rw[decide_eq_false w,if_neg h8];show p=_;rw[Ow<|g8.mp w,xp<|hK q];rw[decide_eq_false q,if_neg h8];show f7 [i,p,g] (if decide (g<i)=ab then 2 else 0)=_;by_cases w:g<i;rw[decide_eq_true w,if_pos rfl];show g=_;rw[xp<|hK<|Int.lt_of_lt_of_le w<|g8.mp q,xp<|hK w];rw[decide_eq_false w,if_neg h8];show i=_;exact(Ow<|Int.le_min.mpr ⟨g8.mp q,g8.mp w⟩).symm
def LW{i l g Z aa:Int}{k f t s D ba d E:Nat}{m ec gY r eF j e p:bz}(q:k<3)(M:iq lY [.int i,.int l,.int g]=I (.int Z))(N:iq nO [.int i,.int l,.int g]=I (.int aa))(O:(f:Int)+Z=(d:Nat))(P:(f:Int)+aa=(E:Nat))(ae:(f:Int)+i=(s:Nat))(S:(f:Int)+l=(D:Nat))(T:(f:Int)+g=(ba:Nat))(Q:s<100/\D<100/\ba<100)(R:aH (dB 7) jH [] (wt i l g k f t s D ba d E) (dO 2) (.next<|tv i l g k f t s D ba d E m ec gY r eF j e p))(iA:l4 j=ab)(U:l4 e=ab)(dR:l4 p=ab)(H:dH ec r=ab)(J:dH gY eF=ab):a5 λC V=>p6 (hg 7 C) V [jS i l g,gN k,af f,af t]=I (wq k (jo j -(f:Nat)) (jo e -(f:Nat))<|jo p -(f:Nat)):=by have W:aI (dB 7) jH [] (DV i l g k f t) [dO 0,dO 1,dO 2] (.next<|tv i l g k f t s D ba d E m ec gY r eF j e p):=aI.cons (QQ q M N O P)<|aI.cons (QR ae S T Q)<|aI.cons R aI.nil;have X:=QT (a:=i) (b:=l) (c:=g) (k:=k) (w:=f) (t:=t) (x:=s) (y:=D) (ba:=ba) (G:=d) (L:=E) (iz:=m) (ec:=ec) (gY:=gY) (kf:=r) (eF:=eF) iA U dR;have Y:=Qa (a:=i) (b:=l) (c:=g) (w:=f) (t:=t) (x:=s) (y:=D) (ba:=ba) (G:=d) (L:=E) (iz:=m) (g0:=j) (g4:=e) (g5:=p) (o4:=jo j -(f:Nat)) (o5:=jo e -(f:Nat)) (o6:=jo p -(f:Nat)) q H J;refine((W.and X).and Y).mono λC V K=>?_;refine eO rfl<|bF (bF (K.1.1:xs (hg 7 C) jH [] V (cT (bt mb) [jS i l g,gN k,af f,af t]) [dO 0,dO 1,dO 2]=_) rfl)<|eO z<|bF (bF K.1.2 rfl)<|bF z<|bF K.2 rfl
section
variable{p:br}{w:Nat}(h:eg p w)
include h
def eg.pk:g' (aw ((aU p).1 -(aU p).2.2).toNat)=au:=by have:=bZ.mp afk _ h.mA.2.2.2.2.2.2;rwa [ez]at this
def eg.L1:dH (aw<|a9 w (aU p).2.2) (aw<|a9 w (aU p).1)=au:=by obtain⟨c,q,hF,gO⟩:=h.mid;obtain⟨_,_,_,k,d,_⟩:=h.mA;rw[CS (h.nat (a:=(aU p).2.2) k<|jY (hK h.mid.2.2.1) h.mid.2.1).2 h.KW];exact decide_eq_false<|fs h.gl.2.2.2
def eg.XY:vZ (aw<|a9 w p.1) (aw<|a9 w p.2.1) (aw<|a9 w p.2.2)=ab/\jl (aw<|a9 w p.1) (aw<|a9 w p.2.1) (aw<|a9 w p.2.2)=o8 (a9 w (aU p).1) (a9 w (aU p).2.2)/\(ae (aw<|a9 w p.1) (aw<|a9 w p.2.1)<|aw<|a9 w p.2.2).ck=aw (a9 w (aU p).1):=by have g:=h.mP;have y:=bL (aM<|aA<|aA<|aA<|aA g).2;have n:=(ez _).mp (aM<|aA<|aA<|aA g).2;rw[h.back]at y;unfold vZ jl;rw[h.v3];dsimp only;exact⟨by rw[h.L1,h.pk,n];rfl,y,rfl⟩
def eg.XS:vX (aw<|a9 w p.1) (aw<|a9 w p.2.1) (aw<|a9 w p.2.2)=ab/\hD (aw<|a9 w p.1) (aw<|a9 w p.2.1) (aw<|a9 w p.2.2)=kq (a9 w (aU p).1) (a9 w (aU p).2.2)/\hp (aw<|a9 w p.1) (aw<|a9 w p.2.1) (aw<|a9 w p.2.2)=jU (a9 w (aU p).1) (a9 w (aU p).2.2):=by
 have g:=h.mP;have f:=bL (aM<|aA<|aA g).2;have d:=bL (aM<|aA g).2;have a:=(aM g).2;rw[h.back]at f d a;have oA:hD (aw<|a9 w p.1) (aw<|a9 w p.2.1) (aw<|a9 w p.2.2)=kq (a9 w (aU p).1) (a9 w (aU p).2.2):=by unfold hD;rw[h.v3];exact f
 have b:hp (aw<|a9 w p.1) (aw<|a9 w p.2.1) (aw<|a9 w p.2.2)=jU (a9 w (aU p).1) (a9 w (aU p).2.2):=by unfold hp;rw[oA,h.v3,d];dsimp only;by_cases q:bG (a9 w (aU p).1+a9 w (aU p).2.2) 64=ab;rw[if_pos q]at a;rw[if_pos q];exact bL (aM a).2;rw[if_neg q]at a;rw[if_neg q];exact bL (aM a).2
 refine⟨?_,oA,b⟩;unfold vX;rw[oA,h.v3,d];dsimp only;rw[h.L1,h.pk];by_cases q:bG (a9 w (aU p).1+a9 w (aU p).2.2) 64=ab;rw[if_pos q]at a ⊢;rw[(ez _).mp<|aA a];rfl;rw[if_neg q]at a ⊢;rw[(ez _).mp<|aA a];rfl
end
section
variable{p:br}{w:Nat}(h:eg p w)
include h
theorem eg.best:iq lY [.int p.1,.int p.2.1,.int p.2.2]=I (.int (aU p).1)/\iq nO [.int p.1,.int p.2.1,.int p.2.2]=I (.int (aU p).2.2):=by constructor;show I (aa.int<|lY [p.1,p.2.1,p.2.2])=_;rw[Z9];rfl;show I (aa.int<|nO [p.1,p.2.1,p.2.2])=_;rw[aak];rfl
def eg.ZC:-4<=(aU p).1:=jY h.mid.1<|hK h.mid.2.2.2
def eg.XP:(aU p).2.2<=8:=jY (hK h.mid.2.2.1) h.mid.2.1
def eg.wu:(w:Int)+(aU p).2.2=(a9 w (aU p).2.2:Nat)/\eW (a9 w (aU p).2.2):=h.nat h.mA.2.2.2.1 h.XP
def eg.DZ:(w:Int)+(aU p).2.1=(a9 w (aU p).2.1:Nat)/\eW (a9 w (aU p).2.1):=h.nat h.mid.1 h.mid.2.1
def eg.tA:(w:Int)+(aU p).1=(a9 w (aU p).1:Nat)/\eW (a9 w (aU p).1):=h.nat h.ZC h.mA.2.2.2.2.1
omit h in
theorem eW.pos{m:Nat}(q:eW m):0<m:=aC (show 1<=16 by decide) q.lo
omit h in
theorem tX{m b:Int}{a:Nat}(q:b+m=(a:Nat)):((a:Nat):Int) -b=m:=by rw[<-q,AU,afz]
omit h in
theorem eW.two{d i:Nat}(e:eW d)(k:eW i):0<c_ (d+i) (128 -d -i)/\d+i<=128:=⟨Nat.lt_min.mpr ⟨af3 e.pos _,agh<|cH k.gL<|du (show 48<128 -48 by decide)<|O_ e.gL 128⟩,aC (ll e.gL k.gL)<|by decide⟩
theorem eg.pos:0<a9 w (aU p).1/\0<a9 w (aU p).2.1/\0<a9 w (aU p).2.2/\a9 w (aU p).1<100:=⟨h.tA.2.pos,h.DZ.2.pos,h.wu.2.pos,cH h.tA.2.gL<|by decide⟩
def eg.E9{k:bz}(ae:m=p.1\/m=p.2.1\/m=p.2.2)(ao:v9 (DE ((aU p).1 -(aU p).2.1).toNat ((aU p).1 -(aU p).2.2).toNat) (Dj ((aU p).1 -(aU p).2.1).toNat ((aU p).1 -(aU p).2.2).toNat) (qh k)=ab):l4 (gs k (o8 (a9 w (aU p).1)<|a9 w (aU p).2.2) (aw<|a9 w (aU p).1)<|iu (aU p) m)=ab/\jo (gs k (o8 (a9 w (aU p).1)<|a9 w (aU p).2.2) (aw<|a9 w (aU p).1)<|iu (aU p) m) -(w:Nat)=m:=by have j:=(aA<|aA<|aA<|aA<|aA<|aA<|aA<|aA<|aA<|aA<|aA h.l3);have y:=(aM<|aA<|aA<|aA<|aA<|aA<|aA<|aA<|aA<|aA<|aA h.l3).2;have n:=(aM<|aA<|aA<|aA<|aA<|aA<|aA<|aA<|aA<|aA h.l3).2;obtain⟨c,l,hF,gO⟩:=h.mid;obtain⟨i,q,aN,b⟩:=h.pos;obtain⟨dd,cp,gg,gK⟩:=h.gl;have g:=h.vJ (a:=(aU p).2.1) c<|hK gO;rcases h.cls ae with⟨f,t⟩|⟨f,t⟩|⟨f,t⟩;rw[f,t];have d:=tC i j;exact⟨d.1,by show jo (aw _) -_=_;rw[d.2];exact tX h.tA.1⟩;rw[f,t];rw[gg,g]at n;have d:=tC q<|ab' n ao;exact⟨d.1,by show jo (o3 _ _ _) -_=_;rw[d.2];exact tX h.DZ.1⟩;rw[f,t];have d:=tC aN y;exact⟨d.1,by show jo (eR _ _) -_=_;rw[d.2];exact tX h.wu.1⟩
def eg.E8(ae:m=p.1\/m=p.2.1\/m=p.2.2)(ao:rB (aU p) (iu (aU p) m) k=ab):l4 (pb (jk (kq (a9 w (aU p).1)<|a9 w (aU p).2.2)<|jU (a9 w (aU p).1)<|a9 w (aU p).2.2) (hn (kq (a9 w (aU p).1)<|a9 w (aU p).2.2)<|jU (a9 w (aU p).1)<|a9 w (aU p).2.2) k)=ab/\jo (pb (jk (kq (a9 w (aU p).1)<|a9 w (aU p).2.2)<|jU (a9 w (aU p).1)<|a9 w (aU p).2.2) (hn (kq (a9 w (aU p).1)<|a9 w (aU p).2.2)<|jU (a9 w (aU p).1)<|a9 w (aU p).2.2) k) -(w:Nat)=m:=by
 have d:=(aM<|aA<|aA<|aA<|aA<|aA<|aA<|aA h.l3).2;have a:=(aM<|aA<|aA<|aA<|aA<|aA<|aA h.l3).2;have i:=(aM<|aA<|aA<|aA<|aA<|aA h.l3).2;obtain⟨l,n,hF,gO⟩:=h.mid;obtain⟨c,q,aN,b⟩:=h.pos;obtain⟨dd,cp,gg,gK⟩:=h.gl;have g:a9 w (aU p).2.1 -a9 w (aU p).2.2=((aU p).2.1 -(aU p).2.2).toNat:=by unfold a9;rw[NJ (h.nn h.mA.2.2.2.1)<|Om (hK hF) _,afy]
 unfold rB at ao;simp only[c0,beq_iff_eq,mj]at ao;rw[aeO];rcases h.cls ae with⟨f,t⟩|⟨f,t⟩|⟨f,t⟩;rw[f]at ao;have j:=tC c a;unfold wF;rw[ao.1,if_pos rfl,t];exact⟨j.1,by rw[j.2];exact tX h.tA.1⟩;rw[f]at ao;rw[gg,g]at i;have j:=tC q (aeG i<|ao.2.resolve_left<|by decide);unfold wF;rw[ao.1,if_neg (by decide),if_pos rfl,t];exact⟨j.1,by rw[j.2];exact tX h.DZ.1⟩;rw[f]at ao;have j:=tC aN d;unfold wF;rw[ao.1,if_neg (by decide),if_neg (by decide),t];exact⟨j.1,by rw[j.2];exact tX h.wu.1⟩
theorem Mt(k:Nat):((h6 p k).1=p.1\/(h6 p k).1=p.2.1\/(h6 p k).1=p.2.2)/\((h6 p k).2.1=p.1\/(h6 p k).2.1=p.2.1\/(h6 p k).2.1=p.2.2)/\((h6 p k).2.2=p.1\/(h6 p k).2.2=p.2.1\/(h6 p k).2.2=p.2.2):=by unfold h6;split;exact⟨.inr<|.inl rfl,.inl rfl,.inr<|.inr rfl⟩;split;exact⟨.inl rfl,.inr<|.inr rfl,.inr<|.inl rfl⟩;exact⟨.inr<|.inr rfl,.inr<|.inl rfl,.inl rfl⟩
omit h in
theorem Mu(m:k<3):wq k (h6 p k).1 (h6 p k).2.1 (h6 p k).2.2=aN (fA p k):=DI m rfl rfl rfl
omit h in
def J7(h:r<=9):iv ((r:Nat):Int)=ab:=bZ.mp (show((bO 10).all λk=>iv ((k:Nat):Int))=ab from z) r<|ee.mpr<|jw h
def eg.aan(m:k<3)(D:a%2=1)(C:a<=9)(A:Cy p k a=ab):a5 λl y=>p6 (hg 7 l) y [aN p,gN k,af w,af a]=I (aN<|fA p k):=by
 obtain⟨fg,b8,cP⟩:=h.XY;have f:=(ez _).mp (aM<|aA<|aA<|aA<|aA<|aA<|aA<|aA<|aA h.l3).2;have B:=(aM<|aA<|aA<|aA h.l3).2;have b:=(aM<|aA<|aA h.l3).2;unfold Cy at A;dsimp only at A;rw[<-h.K0]at A;have g:=aA<|aA<|aA A;have G:=(aM<|aA<|aA A).2;have H:=bL (aM<|aA A).2;have j:=(aM A).2;obtain⟨s,dZ,fa⟩:=Mt h k;obtain⟨iA,q⟩:=h.E9 s j;obtain⟨E,jn⟩:=h.E9 dZ j;obtain⟨dR,jO⟩:=h.E9 fa j;have d:=h.nat h.ka.1.1 h.ka.1.2;have x:=h.nat h.ka.2.1.1 h.ka.2.1.2;have oW:=h.nat h.ka.2.2.1 h.ka.2.2.2;have c:=h.tA;have i:=h.wu;have e:=aeK (oO k a<|fk (aw<|a9 w p.1) (aw<|a9 w p.2.1)<|aw<|a9 w p.2.2) (jl (aw<|a9 w p.1) (aw<|a9 w p.2.1)<|aw<|a9 w p.2.2) (Mine.ae (aw<|a9 w p.1) (aw<|a9 w p.2.1)<|aw<|a9 w p.2.2).ck;rw[H,b8,cP]at e;rw[<-b8,<-cP]at e;have dW:=LW (k:=k) (t:=a) m h.best.1 h.best.2 c.1 i.1 d.1 x.1 oW.1 ⟨cH d.2.gL z,cH x.2.gL z,cH oW.2.gL z⟩
  (QU D (J7 C) (c2 h.gl.2.2.2) h.pos.1 h.pos.2.2.2 fg (by rw[b8];exact f) g G e) (by rw[b8,cP];exact iA) (by rw[b8,cP];exact E) (by rw[b8,cP];exact dR) (by rw[b8];exact B) (by rw[cP];exact b)
 refine dW.mono λl y J=>J.trans ?_;rw[b8,cP,q,jn,jO,Mu m]
def eg.aam(m:k<3)(b:a%2=0)(j:a<=9)(g:Cx p k a=ab):a5 λl y=>p6 (hg 7 l) y [aN p,gN k,af w,af a]=I (aN<|fA p k):=by
 obtain⟨fg,b8,cP⟩:=h.XS;have e:=(ez _).mp (aM<|aA<|aA<|aA<|aA h.l3).2;have cq:=(aM<|aA h.l3).2;have f:=(aM h.l3).2;unfold Cx at g;dsimp only at g;rw[<-h.K0]at g;obtain⟨s,dZ,fa⟩:=Mt h k;obtain⟨iA,q⟩:=h.E8 s<|aA<|aA g;obtain⟨A,jn⟩:=h.E8 dZ (aM<|aA g).2;obtain⟨dR,jO⟩:=h.E8 fa (aM g).2;have d:=h.nat h.ka.1.1 h.ka.1.2;have x:=h.nat h.ka.2.1.1 h.ka.2.1.2;have oW:=h.nat h.ka.2.2.1 h.ka.2.2.2;have c:=h.tA;have i:=h.wu;have dW:=LW (k:=k) (t:=a) m h.best.1 h.best.2 c.1 i.1 d.1 x.1 oW.1 ⟨cH d.2.gL z,cH x.2.gL z,cH oW.2.gL z⟩
  (QS b (J7 j) (c2 h.gl.2.2.2) (c.2.two i.2).1 (c.2.two i.2).2 fg (by rw[cP];exact e) rfl) (by rw[b8,cP];exact iA) (by rw[b8,cP];exact A) (by rw[b8,cP];exact dR) (by rw[b8];exact cq) (by rw[cP];exact f)
 refine dW.mono λl y B=>B.trans ?_;rw[b8,cP,q,jn,jO,Mu m]
end
def Qk(ao:s∈mQ)(m:k<3)(i:20<=a)(q:a<=40)(b3:1<=r)(w':r<=9):a5 λx A=>p6 (hg 7 x) A [aN s,gN k,af a,af r]=I (aN<|fA s k):=by
 have j:eg s a:=⟨bZ.mp acQ s ao,bZ.mp acP s ao,i,q⟩;have d:∀g,mF g=ab->s∈g->yW s k r=ab:=λg y c=>by have:=bZ.mp (bZ.mp (bZ.mp y s c) k<|ee.mpr m) (r -1)<|ee.mpr<|du (agg b3 O9) w';rwa [n9 b3]at this
 have b:yW s k r=ab:=by rw[<-OU 23 mQ]at ao;exact(ml.mp ao).elim (d _ TY)<|d _ TZ
 unfold yW at b;rcases agc r with f|f;rw[if_neg (by rw[f];decide)]at b;exact j.aam m f w' b;rw[if_pos f]at b;exact j.aan m f w' b
abbrev bI(k:Nat):Nat->b0:=vc k
def KR(j:oM.lookup s=I e)(b:e a=I d):lR l s a=I d:=by unfold lR k0;rw[j];show dj (e a) _=_;rw[b];rfl
def KS(c:oM.lookup s=ag)(j:(Ax l).lookup s=I g)(b:g a=I d):lR l s a=I d:=by unfold lR k0;rw[c,j];exact b
def yT(g:fJ s a=ag)(j:lR l s a=I d):(bI k l).call s a=I d:=by
 induction k using cN with
 |zero=>
  show dj (fJ s a) (lR l s a)=I d;rw[g];exact j
 |succ k=>
  show dj (fJ s a) (dj (lR l s a) _)=I d;rw[g,j];rfl
def z4(j:mE.lookup s=ag):fJ s a=ag:=by unfold fJ;rw[j];rfl
def aaH(j:mE.lookup s=I e)(c:e a=ag):fJ s a=ag:=by unfold fJ;rw[j];exact c
def jK(b:mE.lookup s=I g)(c:g a=I d):a5 λl h=>(bI k l).call s a=I d:=⟨0,λl y h h=>by
  have i:fJ s a=I d:=by unfold fJ;rw[b];exact c
  induction k using cN with
  |zero=>show dj (fJ s a) _=I d;rw[i];rfl
  |succ k=>show dj (fJ s a) _=I d;rw[i];rfl⟩
def sQ(b:mE.lookup s=ag)(q:oM.lookup s=I g)(c:g a=I d):a5 λl e=>(bI k l).call s a=I d:=⟨0,λl y e e=>yT (z4 b)<|KR q c⟩
def yS(b:mE.lookup s=I oG)(c:oG a=ag)(q:oM.lookup s=I g)(e:g a=I d):a5 λl h=>(bI k l).call s a=I d:=⟨0,λl y h h=>yT (aaH b c)<|KR q e⟩
def I8(g:mE.lookup s=ag)(q:oM.lookup s=ag)(c:∀l,(Ax l).lookup s=ag)(m:ra.lookup s=I G)(p:(hu G.sc G.params&&b.length==G.params.length)=ab)(j:aI (bI k) (aZ.fn G.sc) G.own (cT G.params b) G.body (.ret d)):a5 λl r=>(bI (k+1) l).call s b=I d:=by
 obtain⟨t,j⟩:=j;refine⟨t,λl y i r=>?_⟩;have w:lR l s b=ag:=by unfold lR k0;rw[q,c];rfl
 show dj (fJ s b) (dj (lR l s b)<|(ra.lookup s).bind λG=>k9 (vc k l) G.own G.sc G.params G.body l b)=I d;rw[z4 g,w,m];show k9 (vc k l) G.own G.sc G.params G.body l b=I d;unfold k9;rw[if_pos p,j l l i i]
def LV{k:Nat}{i d:aa}{e:ar}{q:List aa}(c:(match i with|.obj Z t=>au|Z=>ab)=ab)(l:(e==("split":ar))=au)(b:mM i e q=I d):a5 λf Z=>(bI k f).en i e q=I d:=⟨0,λf y Z Z=>by
  induction k using cN with
  |zero=>exact zU l b
  |succ k=>cases i<;>first|exact zU l b|cases c⟩
def Tc(j:a5 λl y=>p6 (hg 7 l) y b=I d):a5 λl c=>(bI k l).call "_law_mirrored" b=I d:=by obtain⟨t,j⟩:=j;exact⟨t,λl y i c=>yT (z4 z)<|KS (g:=p6 (hg 7 l) l) z z<|j l l i i⟩
def Tb(j:a5 λl y=>tc (hg 7 l) y b=I d):a5 λl c=>(bI k l).call "_law_borne" b=I d:=by obtain⟨t,j⟩:=j;exact⟨t,λl y i c=>yT (z4 z)<|KS (g:=tc (hg 7 l) l) z z<|j l l i i⟩
def nr(h:Nat->b0)(a:aZ)(c:List ar)(σ:aG)(d:ai)(p:List aF)(w:fH):Prop:=a5 λl y=>ud (h l) a c y σ d p=I w
noncomputable def xi(f:aF):Option (ai×List aF×List aF×a7):=if j:f.ctorIdx=11 then ahg (motive_2:=λk=>Option<|ai×List aF×List aF×a7) f j λi p g d=>I (i,p,g,d)else ag
def aff(j:xi f=I x):f=.While x.1 x.2.1 x.2.2.1 x.2.2.2:=by by_cases w:f.ctorIdx=11;exact ahg (motive_2:=λf=>xi f=I x->f=.While x.1 x.2.1 x.2.2.1 x.2.2.2) f w (λi p g d j=>aS j▸rfl) j;exact nS<|(dif_neg w).symm.trans j
def xg(f:aF):ai:=(xi f).elim b5 (·.1)
def rU(f:aF):List aF:=(xi f).elim [] (·.2.1)
def YK(st:aF):Bool:=(xi st).elim au λx=>x.2.2.1.isEmpty
section
variable{O:Nat->b0}{S:aZ}{M:List ar}{σ aW:aG}{r:fH}{t:ai}{b:List aF}
def nr.stop(j:bS O S σ.plus t au):nr O S M σ t b (.next σ):=j.succ λl y j=>bF j rfl
def nr.go(j:bS O S σ.plus t ab)(k:aI O S M σ b (.next aW))(a:nr O S M aW t b r):nr O S M σ t b r:=((j.and k).and a).succ λl y q=>bF q.1.1<|bF q.1.2 q.2
def aH.aeQ{st:aF}(a:YK st=ab)(j:nr O S M σ (xg st) (rU st) r):aH O S M σ st r:=by
 obtain⟨x,k,b⟩:=fh a;have f:st=.While x.1 x.2.1 [] x.2.2.2:=pn.mp b▸aff k;have s:xg st=x.1:=by unfold xg;rw[k];rfl
 have l:rU st=x.2.1:=by unfold rU;rw[k];rfl
 rw[s,l]at j;rw[f];exact j.succ λc y j=>j
end
def UG:∀n:List Nat,n.length<=6->∀k,k<4->l6 (.str ⟨⟨n⟩⟩) .none (af k) .none=I (.str ⟨⟨n.take k⟩⟩)
 |[],_,0,_=>z|[],_,1,_=>z|[],_,2,_=>z|[],_,3,_=>z
 |[i],_,0,_=>z|[i],_,1,_=>z|[i],_,2,_=>z|[i],_,3,_=>z
 |[i,p],_,0,_=>z|[i,p],_,1,_=>z|[i,p],_,2,_=>z|[i,p],_,3,_=>z
 |[i,p,g],_,0,_=>z|[i,p,g],_,1,_=>z|[i,p,g],_,2,_=>z|[i,p,g],_,3,_=>z
 |[i,p,g,d],_,0,_=>z|[i,p,g,d],_,1,_=>z|[i,p,g,d],_,2,_=>z|[i,p,g,d],_,3,_=>z
 |[i,p,g,d,m],_,0,_=>z|[i,p,g,d,m],_,1,_=>z|[i,p,g,d,m],_,2,_=>z|[i,p,g,d,m],_,3,_=>z
 |[i,p,g,d,m,s],_,0,_=>z|[i,p,g,d,m,s],_,1,_=>z|[i,p,g,d,m,s],_,2,_=>z|[i,p,g,d,m,s],_,3,_=>z
 |_::_::_::_::_::_::_::_,j,_,_=>absurd j (by simp)
 |_,_,k+4,j=>absurd j<|fD.mpr<|dU 4 k
def UE:∀n:List Nat,n.length<=6->∀k,k<4->l6 (.str ⟨⟨n⟩⟩) (af k) .none .none=I (.str ⟨⟨n.drop k⟩⟩)
 |[],_,0,_=>z|[],_,1,_=>z|[],_,2,_=>z|[],_,3,_=>z
 |[i],_,0,_=>z|[i],_,1,_=>z|[i],_,2,_=>z|[i],_,3,_=>z
 |[i,p],_,0,_=>z|[i,p],_,1,_=>z|[i,p],_,2,_=>z|[i,p],_,3,_=>z
 |[i,p,g],_,0,_=>z|[i,p,g],_,1,_=>z|[i,p,g],_,2,_=>z|[i,p,g],_,3,_=>z
 |[i,p,g,d],_,0,_=>z|[i,p,g,d],_,1,_=>z|[i,p,g,d],_,2,_=>z|[i,p,g,d],_,3,_=>z
 |[i,p,g,d,m],_,0,_=>z|[i,p,g,d,m],_,1,_=>z|[i,p,g,d,m],_,2,_=>z|[i,p,g,d,m],_,3,_=>z
 |[i,p,g,d,m,s],_,0,_=>z|[i,p,g,d,m,s],_,1,_=>z|[i,p,g,d,m,s],_,2,_=>z|[i,p,g,d,m,s],_,3,_=>z
 |_::_::_::_::_::_::_::_,j,_,_=>absurd j (by simp)
 |_,_,k+4,j=>absurd j<|fD.mpr<|dU 4 k
def kP(h:Nat->b0)(a:aZ)(w:bQ)(f:Option ai)(d:aa):Prop:=a5 λl y=>sZ (h l) y a w f=I d
section
variable{O:Nat->b0}{S:aZ}{aO:bQ}
theorem kP.none:kP O S aO .none .none:=a5.nU λl y=>rfl
theorem kP.some(j:aj O S aO f d):kP O S aO (.some f) d:=j.succ λl y j=>j
def CI(f:ai):Option (ai×Option ai×Option ai×Option ai):=(kF f).bind λx=>(qm x.2.1).map λq=>(x.1,q)
def aj.cut{lo g st:Option ai}(j:CI f=I (c,lo,g,st))(C:aj O S aO c i)(y:kP O S aO lo l)(k:kP O S aO g h)(B:kP O S aO st b)(s:∀m,(O m).slice i l h b=I d):aj O S aO f d:=by refine bK j λx D j=>eH j λq A p=>?_;rw[F0 D];cases p;exact(((C.and y).and k).and B).succ λm E w=>y5 A<|bF w.1.1.1<|bF w.1.1.2<|bF w.1.2<|bF w.2<|s m
end
def Lm{t:List Nat}(a:b<t.length)(y:t.length<=1000):d3 (.list<|t.map af) (af b)=I (af<|t.getD b 0):=by show(iO (t.map af).length ((b:Nat):Int)).bind (λb=>(t.map af)[b]?)=_;rw[v8 (by rw[eT];exact a)<|aC (c2 a)<|aC y z,c',m5,AZ,n6 a];rfl
def ip(y:Nat):aF:=aJ (bw ma) y
def i6(y:Nat):aF:=aJ (rU<|ip 5) y
def lG:aZ:=aZ.fn<|bY ma
noncomputable def f5(k:Nat):Nat:=if k=0 then 102 else if k=1 then 105 else 108
noncomputable def dt(g:Nat):ar:=⟨⟨[g]⟩⟩
def b6(q:List Nat):ar:=⟨⟨q.map f5⟩⟩
noncomputable def dX:List Nat:=[173,847,6150,6155,6156,6157,8203,8204,8205,8288,65279]++(bO 16).map (65024+·)
noncomputable def kW:List Nat:=[97,65,119808,119860,119912,120016,120172,120224,120276,120328,120380,120432]
noncomputable def jd:List Nat:=[172,174,846,848,6149,6151,6154,6158,8202,8206,8287,8289,65023,65040,65278,65280]
def k4:List (ar×aa):=[("ff",.str<|dt 64256),("fi",.str<|dt 64257),("fl",.str<|dt 64258),("ffi",.str<|dt 64259),("ffl",.str<|dt 64260)]
def iW(j:Nat):List Nat:=if j<27 then[dX.getD j 0]else[]
noncomputable def h3(k:List Nat):Option Nat:=([([0,0],64256),([0,1],64257),([0,2],64258),([0,0,1],64259),([0,0,2],64260)]:List (List Nat×Nat)).lookup k
def cS(d:Nat)(q:List Nat):Nat:=if 11<d then(if(h3<|q.take 3).isSome then 3 else if(h3<|q.take 2).isSome then 2 else 1)else 1
def je(d:Nat)(c:List Nat):Nat:=(h3 c).getD<|kW.getD (d%12) 0+f5 (c.getD 0 0) -97
noncomputable def lL:Nat->List Nat->Nat->List Nat|0,_,_=>[]|n+1,a,r=>if a.isEmpty then[]else iW (r%29)++je (r/29%24) (a.take<|cS (r/29%24) a)::lL n (a.drop<|cS (r/29%24) a) (r/696)
noncomputable def p':List (List Nat):=(bO 4).flatMap λy=>match y with|0=>[[]]|1=>(bO 3).map λi=>[i]|2=>(bO 3).flatMap λi=>(bO 3).map λp=>[i,p]|_=>(bO 3).flatMap λi=>(bO 3).flatMap λp=>(bO 3).map λg=>[i,p,g]
def K8:∀{l:List Nat},l.length<=3->(∀m∈l,m<3)->l∈p'
 |[],_,_=>by decide
 |[i],_,j=>by
  have:=j i (by simp)
  have d:∀i,i<3->[i]∈p':=by decide
  exact d i this
 |[i,p],_,j=>by
  have d:∀i,i<3->∀p,p<3->[i,p]∈p':=by decide
  exact d i (j i<|by simp) p (j p<|by simp)
 |[i,p,g],_,j=>by
  have d:∀i,i<3->∀p,p<3->∀g,g<3->[i,p,g]∈p':=by decide
  exact d i (j i<|by simp) p (j p<|by simp) g (j g<|by simp)
 |_::_::_::_::_,j,_=>absurd j (by simp)
def Lf(a:Option aa)(s:Option aa):Bool:=match s with|some d=>km a d|none=>a.isNone
def YE(j:Lf a s=ab):a=s:=by induction s using b7 with|none=>exact agn.mp j|some d=>exact k3 j
def YX:(p'.all λk=>Lf (k4.lookup<|b6 k)<|(h3 k).map λg=>.str<|dt g)=ab:=by decide+kernel
def Lr(g:l.length<=3)(q:∀m∈l,m<3):k4.lookup (b6 l)=(h3 l).map λa=>.str (dt a):=YE<|bZ.mp YX l<|K8 g q
def XR(k:j<29):o_ (.list<|dX.map af) (af j) (af<|j+1) .none=I (.list<|(iW j).map af):=by
 refine k3 ?_;have:((bO 29).all λj=>km (o_ (.list<|dX.map af) (af j) (af<|j+1) .none)<|.list<|(iW j).map af)=ab:=by decide+kernel
 exact bZ.mp this j<|ee.mpr k
def Vb(j:k<12)(y:Nat):97<=kW.getD k 0+f5 y:=by
 have f:f5 y=102\/f5 y=105\/f5 y=108:=by unfold f5;split;exact .inl rfl;split;exact .inr<|.inl rfl;exact .inr<|.inr rfl
 rcases f with f|f|f<;>rw[f]<;>exact aC (by decide)<|dU _ _
def FF{q:List Nat}(j:∀m∈q,m<3):∀m∈q.take k,m<3:=λm ae=>j m<|afY ae
def pk:aG:=[("dress",.val<|.list<|kW.map af),("hidden",.val<|.list<|dX.map af),("joined",.val<|.dict k4)]
def xm(q:List Nat):aG:=[("dress",.val<|.list<|kW.map af),("hidden",.val<|.list<|dX.map af),("joined",.val<|.dict k4),("word",.val<|.str<|b6 q)]
def pj(r:Nat)(s:List Nat)(q:List Nat):Option (aa×aa)->aG|none=>("number",.val<|af r)::("codes",.own<|s.map af)::xm q|some (c,d)=>("number",.val<|af r)::("word",.val<|.str<|b6 q)::("codes",.own<|s.map af)::("piece",.val c)::("kind",.val d)::pk
def Og(r:Nat)(s:List Nat)(q:List Nat):Option (aa×aa)->aG|none=>("codes",.own<|s.map af)::("number",.val<|af r)::xm q|some (c,d)=>("codes",.own<|s.map af)::("number",.val<|af r)::("word",.val<|.str<|b6 q)::("piece",.val c)::("kind",.val d)::pk
def ug(r:Nat)(s:List Nat)(q:List Nat)(d:aa):Option aa->aG|none=>("kind",.val d)::("codes",.own<|s.map af)::("number",.val<|af r)::xm q|some c=>("kind",.val d)::("codes",.own<|s.map af)::("number",.val<|af r)::("word",.val<|.str<|b6 q)::("piece",.val c)::pk
def F2(r:Nat)(s:List Nat)(q:List Nat)(d c:aa)(p:Bool):aG:=("piece",.val c)::("kind",.val d)::("codes",.own<|s.map af)::("number",.val<|af r)::(if p then("word",.val<|.str<|b6 q)::pk else xm q)
def Of(r:Nat)(s:List Nat)(q:List Nat)(d c:aa)(p:Bool):aG:=("codes",.own<|s.map af)::("piece",.val c)::("kind",.val d)::("number",.val<|af r)::(if p then("word",.val<|.str<|b6 q)::pk else xm q)
def Oh(r:Nat)(s:List Nat)(q:List Nat)(d c:aa):aG:=("word",.val<|.str<|b6 q)::("codes",.own<|s.map af)::("piece",.val c)::("kind",.val d)::("number",.val<|af r)::pk
def Wr:∀k:List Nat,gH (k.map af)=ab:=by
 intro k;induction k with
 |nil=>
  exact rfl
 |cons i k c=>
  exact by rw[e4];exact c
def Ia(i p:List Nat):i.map af++p.map af=(i++p).map af:=kH.symm
def qg:ai:=a3<|i6 2
def Di:ai:=(((kF qg).bind λx=>qm x.2.1).bind (·.2.1)).getD qg
def DD:ai:=(((kF<|a3<|i6 4).bind λx=>qm x.2.1).bind (·.1)).getD qg
def tK(d:Nat)(q:List Nat)(k:Nat):Bool:=decide (11<d)&&(h3<|q.take k).isSome
def abX(d:Nat)(a:List Nat):iq lY (af 1::(([2,3].filter<|tK d a).map af))=I (af<|cS d a):=by
 unfold cS;by_cases j:11<d;rw[if_pos j];have l:tK d a 2=(h3<|a.take 2).isSome:=by unfold tK;rw[decide_eq_true j];rfl
 have p:tK d a 3=(h3<|a.take 3).isSome:=by unfold tK;rw[decide_eq_true j];rfl
 rw[kG,kG,OH,l,p];cases(h3<|a.take 2).isSome<;>cases(h3<|a.take 3).isSome<;>exact z;rw[if_neg j];have f:∀k,tK d a k=au:=λk=>by unfold tK;rw[decide_eq_false j];rfl
 rw[kG,kG,OH,f,f];exact z
section
variable{ds:List Nat}(iy:∀x∈ds,x<3)(lQ:ds.length<=6)(num:Nat)(cs:List Nat)(x:Option (aa×aa))(aD:Nat)(uc:Option aa)(pc:aa)(b:Bool)
def wG:cS aD ds<4:=by unfold cS;split;split;decide;split<;>decide;decide
include iy lQ
theorem N2(m:k<4):l6 (.str<|b6 ds) .none (af k) .none=I (.str<|b6<|ds.take k):=by unfold b6;rw[List.map_take];exact UG _ (by rw[eT];exact lQ) k m
def aed(m:k<4):((I<|decide ((11:Int)<((aD:Nat):Int))).bind λi=>if i then(((l6 (.str<|b6 ds) .none (af k) .none).bind λl=>lB l<|.dict k4).bind λb=>if b then(I ab)else I au)else I au)=I (tK aD ds k):=by
 rw[N2 iy lQ m,c',c'];have p:lB (.str<|b6<|ds.take k) (.dict k4)=I (h3<|ds.take k).isSome:=by show I (k4.lookup<|b6<|ds.take k).isSome=_;rw[Lr (aC (xu _ _)<|m9 m)<|FF iy,ago]
 rw[p,c'];have:decide ((11:Int)<((aD:Nat):Int))=decide (11<aD):=decide_eq_decide.mpr rZ;rw[this];unfold tK;cases decide (11<aD)<;>cases(h3<|ds.take k).isSome<;>rfl
def abW:aj (bI 7) lG (ug num cs ds (af aD) uc).plus qg (.str<|b6<|ds.take<|cS aD ds):=by
 have m:=wG (ds:=ds) aD;have c:CI qg=I (((kF qg).map (·.1)).getD qg,ag,I Di,ag):=z;rcases uc with _|r;all_goals
  refine aj.cut (h:=af<|cS aD ds) c (aj.lf 9 (.str<|b6 ds) λl t=>z) kP.none (kP.some<|aj.call (ds:=[.list<|af 1::(([2,3].filter<|tK aD ds).map af)]) z z ?_<|yS (k:=7) (oG:=mB) (g:=λds=>dj (mC ds)<|mD ds) z z z ?_) kP.none λl=>N2 iy lQ m
  rw[(z:bD Di=[cw Di])]
  refine aL.cons z (aj.bin (op:=.Add) (a:=.list [af 1]) (b:=.list<|([2,3].filter<|tK aD ds).map af) z (aj.lf 9 (.list [af 1]) λl t=>z) (aj.zS [2,3] af af (tK aD ds) z (dw.lf 9 [af 2,af 3] λl t=>z) (λi=>z) (λk m=>?_) (λk _ _=>aj.lf 9 (af k) λl t=>z)<|show 2<=1000000 by exact dU _ _) λl=>?_) aL.nil
  have d:k<4:=by rcases cJ.mp m with rfl|m;decide;rw[cm]at m;subst m;decide
  exact bS.leaf 9 (λl t=>z)<|aed iy lQ aD d
  refine if_pos<|kI ?_
  rw[eT]
  exact aC (gy (OM _ _) _) z
  show dj (iq lY _) _=_
  rw[abX];rfl
omit iy lQ in
theorem B6(y:cs.length<=1000):aH (bI 7) lG ["codes"] (pj num cs ds x) (i6 0) (.next<|Og num (cs++iW (num%29)) ds x):=by
 have b:(iW<|num%29).length<=1:=by unfold iW;split<;>simp
 have f:((bu .Mod (af num)<|af 29).bind λk=>((bu .Mod (af num)<|af 29).bind λi=>bu .Add i<|af 1).bind λj=>o_ (.list<|dX.map af) k j .none)=I (.list<|(iW<|num%29).map af):=by rw[kr _ z,c',c',ik,c'];exact XR<|h' _ z
 rcases x with _|⟨r,n⟩;all_goals exact aH.Sb "codes" (l:=cs.map af) (ds:=(iW<|num%29).map af) z z (Wr _) (by rw[eT,eT];exact aC (ll y b) z) (aj.leaf 9 (λc t=>z) f) (by rw[Ia];rfl)
omit iy lQ in
theorem u1:aH (bI 7) lG ["codes"] (Og num cs ds x) (i6 1) (.next (ug num cs ds (af<|num/29%24) (x.map (·.1)))):=by
 have f:((bu .FloorDiv (af num)<|af 29).bind λi=>bu .Mod i<|af 24)=I (af<|num/29%24):=by rw[oF _ z z,c',kr _ z]
 rcases x with _|⟨r,n⟩;all_goals exact aH.to (d:=af<|num/29%24) (f_:=[("kind",af<|num/29%24)]) z z z z<|aj.leaf 9 (λl t=>z) f
def vo:aH (bI 7) lG ["codes"] (ug num cs ds (af aD) uc) (i6 2) (.next<|F2 num cs ds (af aD) (.str<|b6<|ds.take<|cS aD ds) uc.isSome):=by have ao:=abW iy lQ num cs aD uc;rcases uc with _|r;all_goals exact aH.to (d:=.str<|b6<|ds.take<|cS aD ds) (f_:=[("piece",.str<|b6<|ds.take<|cS aD ds)]) z z z z ao
end
def Cc:ai:=yb<|i6 3
def rp(k:List Nat):(b6 k).length=k.length:=by show(Array.mk<|k.map f5).size=_;simp
def Mw(j:h3 (a.take<|cS d a)=ag):cS d a=1:=by unfold cS at j ⊢;by_cases g:11<d;rw[if_pos g]at j ⊢;by_cases p:(h3<|a.take 3).isSome=ab;rw[if_pos p]at j;rw[j]at p;cases p;rw[if_neg p]at j ⊢;by_cases l:(h3<|a.take 2).isSome=ab;rw[if_pos l]at j;rw[j]at l;cases l;rw[if_neg l];rw[if_neg g]
section
variable{bA:Nat}{a_:List Nat}(iy:∀x∈bA::a_,x<3)(lQ:(bA::a_).length<=6)(num:Nat)(cs:List Nat)(aD:Nat)(b:Bool)
include iy
def Ut:aj (bI 7) lG (F2 num cs (bA::a_) (af aD) (.str<|b6<|(bA::a_).take<|cS aD<|bA::a_) b).plus Cc (af<|je aD<|(bA::a_).take<|cS aD<|bA::a_):=by
 have m:=wG (ds:=bA::a_) aD;have p:=Lr (l:=(bA::a_).take<|cS aD<|bA::a_) (aC (xu _ _)<|m9 m)<|FF iy;unfold je;cases b;all_goals
  refine aj.ite (k:=(h3<|(bA::a_).take<|cS aD<|bA::a_).isSome) z (bS.leaf 9 (x:=lB (.str<|b6<|(bA::a_).take<|cS aD<|bA::a_)<|.dict k4) (λj t=>z) (by show I (k4.lookup _).isSome=_;rw[p,ago])) (λd=>?_) λd=>?_
  obtain⟨n,w⟩:=uA.mp d
  rw[w]
  refine aj.call (ds:=[.str<|dt n]) z z ?_<|jK (k:=7) (g:=Cs) z rfl
  rw[(z:bD (dT Cc)=[cw<|dT Cc])]
  exact aL.cons z (aj.leaf 9 (x:=k4.lookup<|b6<|(bA::a_).take<|cS aD<|bA::a_) (λj t=>z) (by rw[p,w];rfl)) aL.nil
  have e:h3 ((bA::a_).take<|cS aD<|bA::a_)=ag:=agq.mp (by rw[d];decide)
  have h:=Mw e
  rw[e,h]
  have f:(((bu .Mod (af aD)<|af 12).bind λb=>d3 (.list<|kW.map af) b).bind λi=>bu .Add i<|af<|f5 bA).bind (λi=>bu .Sub i<|af 97)=I (af<|kW.getD (aD%12) 0+f5 bA -97):=by rw[kr _ z,c',Lm (show aD%12<12 from h' _ z) z,c',ik,c',rN<|Vb (h' _ z) bA]
  exact aj.leaf 12 (λj t=>z) f
def B7(y:cs.length<=1000):aH (bI 7) lG ["codes"] (F2 num cs (bA::a_) (af aD) (.str<|b6<|(bA::a_).take<|cS aD<|bA::a_) b) (i6 3) (.next<|Of num (cs++[je aD<|(bA::a_).take<|cS aD<|bA::a_]) (bA::a_) (af aD) (.str<|b6<|(bA::a_).take<|cS aD<|bA::a_) b):=by have w:=Ut iy num cs aD b;cases b;all_goals exact aH.app "codes" (l:=cs.map af) (d:=af<|je aD<|(bA::a_).take<|cS aD<|bA::a_) z z z (by rw[eT];exact aC y z) w (by rw[show[af<|je aD<|(bA::a_).take<|cS aD<|bA::a_]=[je aD<|(bA::a_).take<|cS aD<|bA::a_].map af from rfl,Ia];rfl)
include lQ
theorem Rk:aH (bI 7) lG ["codes"] (Of num cs (bA::a_) (af aD) (.str<|b6<|(bA::a_).take<|cS aD<|bA::a_) b) (i6 4) (.next<|Oh num cs ((bA::a_).drop<|cS aD<|bA::a_) (af aD)<|.str<|b6<|(bA::a_).take<|cS aD<|bA::a_):=by
 have m:=wG (ds:=bA::a_) aD;have y:((bA::a_).take<|cS aD<|bA::a_).length<4:=cH (xu _ _) m;have a:l6 (.str<|b6<|bA::a_) (af ((bA::a_).take<|cS aD<|bA::a_).length) .none .none=I (.str<|b6<|(bA::a_).drop<|cS aD<|bA::a_):=by have:=UE ((bA::a_).map f5) (by rw[eT];exact lQ) _ y;rw[<-List.map_drop]at this;refine this.trans ?_;rw[afU];congr 3;by_cases q:cS aD (bA::a_)<=(bA::a_).length;rw[uw q];have e:=Nat.le_of_not_le q;rw[qE e,OE,List.drop_eq_nil_of_le e]
 have c:CI (a3<|i6 4)=I (((kF<|a3<|i6 4).map (·.1)).getD qg,I DD,ag,ag):=z;cases b;all_goals
  refine aH.to (d:=.str<|b6<|(bA::a_).drop<|cS aD<|bA::a_) (f_:=[("word",.str<|b6<|(bA::a_).drop<|cS aD<|bA::a_)]) z z z z<|aj.cut (l:=af ((bA::a_).take<|cS aD<|bA::a_).length) c (aj.lf 9 (.str<|b6<|bA::a_) λf t=>z) (kP.some<|aj.call (ds:=[.str<|b6<|(bA::a_).take<|cS aD<|bA::a_]) z z ?_<|jK (k:=7) (g:=iR) z ?_) kP.none kP.none λf=>a
  rw[(z:bD DD=[cw DD])]
  exact aL.cons z (aj.lf 9 (.str<|b6<|(bA::a_).take<|cS aD<|bA::a_) λf t=>z) aL.nil
  show(if bG (b6 _).length 1000000=ab then I (aa.int ((b6 _).length:Nat))else ag)=_
  rw[rp,if_pos<|kI<|aC (c2 y) z]
  rfl
omit iy lQ in
theorem Rl(q:List Nat)(c:aa):aH (bI 7) lG ["codes"] (Oh num cs q (af aD) c) (i6 5) (.next<|pj (num/696) cs q<|I (c,af aD)):=aH.yG "number" .FloorDiv (a:=af num) (b:=af 696) (d:=af<|num/696) z z (aj.lf 9 (af 696) λl t=>z) (λl=>oF num (b:=696) z z) z z
end
def CF(y:Nat)(bA:Nat)(b:List Nat)(r:Nat):lL (y+1) (bA::b) r=iW (r%29)++[je (r/29%24)<|(bA::b).take<|cS (r/29%24)<|bA::b]++lL y ((bA::b).drop<|cS (r/29%24)<|bA::b) (r/696):=by show iW _++_::lL y _ _=_;rw[i9];rfl
def Mx(d:Nat)(q:List Nat):0<cS d q:=by unfold cS;split;split;decide;split<;>decide;decide
def KY(j:Nat):(iW j).length<=1:=by unfold iW;split<;>simp
def LB(r:Nat)(s:List Nat)(m:Option (aa×aa))(y:Nat):∃a w,nr (bI 7) lG ["codes"] (pj r s [] m) (xg<|ip 5) (rU<|ip 5) (.next<|pj a (s++lL y [] r) [] w):=⟨r,m,by
  have f:lL y [] r=[]:=by cases y<;>rfl
  rw[f,pl];rcases m with _|⟨c,b⟩;all_goals exact nr.stop<|bS.ev (d:=.str<|b6 []) z (aj.lf 9 (.str<|b6 []) λl t=>z) λl=>z⟩
def ZF:∀(y:Nat)(a:List Nat)(r:Nat)(s:List Nat)(m:Option (aa×aa)),a.length<=y->y<=6->(∀d∈a,d<3)->s.length+2*y<=900->∃A B,nr (bI 7) lG ["codes"] (pj r s a m) (xg<|ip 5) (rU<|ip 5) (.next<|pj A (s++lL y a r) [] B):=by
 intro y;induction y with
 |zero=>
  intro a r s m;induction a using a8 with|nil=>exactλ_ _ _ _=>LB r s m 0|cons _ _=>exactλG _ _ _=>absurd G<|O7 _
 |succ y c=>
  intro a r s m;induction a using a8 with
  |nil=>exactλ_ _ _ _=>LB r s m<|y+1
  |cons bA b=>
   intro q p e w;have f:(bA::b).length<=6:=aC q p;have ao:=Mx (r/29%24)<|bA::b;have k:=KY<|r%29;obtain⟨i,B,g⟩:=c ((bA::b).drop<|cS (r/29%24)<|bA::b) (r/696) (s++iW (r%29)++[je (r/29%24)<|(bA::b).take<|cS (r/29%24)<|bA::b]) (I (.str<|b6<|(bA::b).take<|cS (r/29%24)<|bA::b,af<|r/29%24)) (by
    rw[OJ];rw[gx]at q ⊢;exact A'.mpr<|aC q<|gy ao y) (A8 p) (λd D=>e d<|OP D) (by
    rw[hx,hx,afT];exact aC (jv (jx<|gy k s.length) _) (aC (cL ((hy s.length 2<|2*y).trans (congrArg (s.length+·)<|fU 2<|2*y))) w))
   refine⟨i,B,?_⟩;rw[CF,<-i9,<-i9];refine nr.go ?_ ?_ g
   ·have E:t2 (.str<|b6<|bA::b)=I ab:=by show(if bG (b6<|bA::b).length 1000000=ab then I ((b6<|bA::b).length !=0)else ag)=_;rw[rp,if_pos<|kI<|aC f z];rfl
    rcases m with _|⟨J,H⟩;all_goals exact bS.ev (d:=.str<|b6<|bA::b) z (aj.lf 9 (.str<|b6<|bA::b) λl t=>z) λl=>E
   rw[(z:rU (ip 5)=[i6 0,i6 1,i6 2,i6 3,i6 4,i6 5])];have j:s.length<=1000:=by exact aC (b_ _ _) (aC w<|by decide)
   have C:(s++iW (r%29)).length<=1000:=by rw[hx];exact aC (ll (aC (b_ _ _) w) k) (by decide)
   exact aI.cons (B6 r s m j)<|aI.cons (u1 r _ m)<|aI.cons (vo e f r _ _ _)<|aI.cons (B7 e r _ _ _ C)<|aI.cons (Rk e f r _ _ _)<|aI.cons (Rl r _ _ _ _) aI.nil
def UB(k:Nat):∀d:List Nat,nx (af k) (d.map af)=I (d.count k):=by
 intro d;induction d with
 |nil=>
  exact rfl
 |cons i d c=>
  exact by rw[e4];show((dQ 8 (af i)<|af k).bind λp=>(nx (af k)<|d.map af).map λy=>if p then y+1 else y)=_;rw[JT,c,List.count_cons];by_cases j:i==k<;>simp[j]
def X8(k:Nat)(a:List Nat):lB (af k) (.list<|a.map af)=I (a.contains k):=by show(nx (af k)<|a.map af).map (λ(y:Nat)=>y !=0)=_;rw[UB];refine congrArg I ?_;rw[ui];simp only[bne_iff_ne,ne_eq,iH];constructor;intro j;exact afK.mp<|Nat.pos_of_ne_zero j;intro j;exact i_<|afK.mpr j
def FJ(s:List Nat):aa:=.tuple [.list<|s.map λg=>.str<|dt g,.list<|s.map λg=>.bool<|dX.contains g]
def pY(q:List Nat)(r:Nat):List Nat:=jd.getD (r%16) 0::lL 6 q (r/16)
def T8(j:g<0x110000):yQ [af g]=I (.str<|dt g):=by show(if(decide ((0:Int)<=(g:Nat))&&decide (((g:Nat):Int)<0x110000))=ab then I (aa.str ⟨#[((g:Nat):Int).toNat]⟩)else ag)=_;rw[if_pos (by rw[decide_eq_true<|rZ.mpr j];rfl),n5];rfl
def Al(y:Nat):ai:=((ft<|a3<|ip 6)[y]?).getD b5
def acz(r:Nat)(s:List Nat)(m:Option (aa×aa))(w:∀b∈s,b<0x110000)(y:s.length<=1000):aj (bI 7) lG (pj r s [] m).plus (a3<|ip 6) (FJ s):=by
 refine aj.tuple z (ds:=[.list<|s.map λb=>.str<|dt b,.list<|s.map λb=>.bool<|dX.contains b]) ?_ (show 2<=1000000 by exact dU _ _);rw[(z:ft (a3<|ip 6)=[Al 0,Al 1])];rcases m with _|⟨n,d⟩;all_goals
  refine aL.cons z ?_<|aL.cons z ?_ aL.nil
  refine aj.k7 s af _ z (dw.lf 9 (s.map af) λl t=>z) (λi=>z) (λb j=>?_)<|aC o z
  refine aj.call (ds:=[af b]) z z ?_<|jK (k:=7) (g:=yQ) z<|T8<|w b j
  rw[(z:bD (fZ<|Al 0)=[cw<|fZ<|Al 0])]
  exact aL.cons z (aj.lf 9 (af b) λl t=>z) aL.nil
  exact aj.k7 s af _ z (dw.lf 9 (s.map af) λl t=>z) (λi=>z) (λb j=>aj.leaf 9 (x:=(lB (af b)<|.list<|dX.map af).map .bool) (λl t=>z) (by rw[X8];rfl))<|aC o z
theorem CE:∀(n:Nat)(a:List Nat)(r:Nat),(lL n a r).length<=2*n
 |0,_,_=>bM 0
 |n+1,[],_=>dV _
 |n+1,bA::b,r=>by
  have k:=KY<|r%29
  have:=CE n ((bA::b).drop<|cS (r/29%24)<|bA::b)<|r/696
  rw[CF,hx,hx,afT]
  exact aC (ll (jx k) this)<|cL<|fU 2 _
def Od(q:List Nat)(r:Nat):aG:=[("word",.val<|.str<|b6 q),("number",.val<|af r)]
def ue(a:List Nat)(r:Nat):aG:=q "joined" (.dict k4)<|Od a r
def xk(a:List Nat)(r:Nat):aG:=q "hidden" (.list<|dX.map af)<|ue a r
def xl(a:List Nat)(r:Nat):aG:=q "dress" (.list<|kW.map af)<|xk a r
def AR(q:List Nat)(r:Nat)(s:List Nat):aG:=("codes",.own<|s.map af)::xl q r
def aeD(h:∀d∈f,d<3)(y:f.length<=6)(j:∀g∈pY f r,g<0x110000):a5 λl n=>(bI 8 l).call "_law_typed" [.str<|b6 f,af r]=I (FJ<|pY f r):=by
 refine I8 (k:=7) (G:=eY ma ["codes"]) z z (λl=>z) z z ?_;show aI (bI 7) lG ["codes"] (cT (bt ma) [.str<|b6 f,af r]) (bw ma) _;rw[show cT (bt ma) [.str<|b6 f,af r]=Od f r by kernel_rfl,(z:bw ma=[ip 0,ip 1,ip 2,ip 3,ip 4,ip 5,ip 6])];obtain⟨i,w,ae⟩:=ZF 6 f (r/16) [jd.getD (r%16) 0] ag y (bM _) h (show 1+2*6<=900 by decide);have x:=CE 6 f<|r/16;refine aI.cons (aW:=ue f r) ?_<|aI.cons (aW:=xk f r) ?_<|aI.cons (aW:=xl f r) ?_<|aI.cons (aW:=AR f r [jd.getD (r%16) 0]) ?_<|aI.cons (aW:=pj (r/16) [jd.getD (r%16) 0] f ag) ?_<|aI.cons (aW:=pj i (pY f r) [] w) ?_<|aI.ret ?_;exact aH.name "joined" (.dict k4) z z z z<|aj.lf 9 (.dict k4) λl t=>z;exact aH.name "hidden" (.list<|dX.map af) z z z z<|aj.lf 30 (.list<|dX.map af) λl t=>z;exact aH.name "dress" (.list<|kW.map af) z z z z<|aj.lf 30 (.list<|kW.map af) λl t=>z;refine aH.fresh "codes" (ds:=[af<|jd.getD (r%16) 0]) z z (aj.list z ?_<|show 1<=1000000 by exact dU _ _) z;rw[(z:ft (a3<|ip 3)=[((ft<|a3<|ip 3).head?).getD b5])];have m:((bu .Mod (af r)<|af 16).bind λp=>d3 (.list<|jd.map af) p)=I (af<|jd.getD (r%16) 0):=by rw[kr _ z,c',Lm (show r%16<16 from h' _ z) z]
 exact aL.cons z (aj.leaf 30 (λl t=>z) m) aL.nil;exact aH.yG "number" .FloorDiv (a:=af r) (b:=af 16) (d:=af<|r/16) z z (aj.lf 9 (af 16) λl t=>z) (λl=>oF r (b:=16) z z) z z;exact aH.aeQ z ae;exact aH.ret z<|acz i (pY f r) w j<|jx<|aC x z
def pV(xs:List ar):ar:=⟨(xs.flatMap λm=>m.cps.toList).toArray⟩
def tW{i p:ar}(j:i.cps.toList=p.cps.toList):i=p:=by cases i;cases p;exact congrArg Str.mk<|Array.toList_inj.mp j
def YY:∀xs:List ar,GU "" xs=pV xs:=λxs=>by
 show aid "" xs=_;rw[StrLaws.glued_eq_join];induction xs with
 |nil=>rfl
 |cons m w g=>
  induction w using a8 with
  |nil=>exact tW (by show m.cps.toList=_;simp[pV])
  |cons b w=>
   show m++bp ""++Str.join (bp "") (b::w)=_;rw[g];refine tW ?_;show((m.cps++(bp "").cps)++(pV<|b::w).cps).toList=_;rw[show(bp "").cps=#[]by decide];simp[pV]
def adR:∀k:List ar,sy (k.map aa.str)=I k:=by
 intro k;induction k with
 |nil=>
  exact rfl
 |cons m k c=>
  exact by show(sy<|k.map aa.str).map _=_;rw[c];rfl
def Ls(d:k.length<=100)(j:∀m∈k,m.length<=100):mM (.str "") "join" [.list<|k.map aa.str]=I (.str<|pV k):=by
 show(sy<|k.map aa.str).bind (λxs=>if JoinOk "" xs=ab then I (aa.str<|GU "" xs)else ag)=_;rw[adR,c',if_pos,YY];refine joinOk_of ?_;have a:∀k:List ar,(∀m∈k,m.length<=100)->(k.map (·.length)).sum<=k.length*100:=λk=>by
  induction k with
  |nil=>intro _;exact bM _
  |cons m w c=>
   intro j;have g:=c λb i=>j b<|eA _ i;have q:=j m eB;rw[e4,OT,gx,agk,fU<|w.length*100];exact ll q g
 have g:=a k j;have q:(bp "").length=0:=z;rw[q,age];exact aC g<|aC (xC 100 ‹k.length<=100›) z
def mL(g:Nat):ar:=match lX g with|some (.str l)=>l|_=>""
def Us:((bO 12).all λk=>(bO 3).all λy=>km (lX<|kW.getD k 0+f5 y -97) (.str<|dt<|f5 y)&&!dX.contains (kW.getD k 0+f5 y -97)&&qB (kW.getD k 0+f5 y -97) 0x110000)=ab:=by decide+kernel
def YZ:(p'.all λk=>match h3 k with
 |some g=>km (lX g) (.str<|b6 k)&&!dX.contains g&&qB g 0x110000
 |none=>ab)=ab:=by decide+kernel
def Ru:(jd.all λg=>km (lX g) (.str<|dt g)&&!dX.contains g&&qB g 0x110000)=ab:=by decide+kernel
def XQ:(dX.all λg=>qB g 0x110000)=ab:=by decide+kernel
def Iw(g:Nat):ou.contains (g:Int)=dX.contains g:=by
 have a:(dX.all λg=>ou.contains (g:Int))=ab:=by decide+kernel
 have q:(ou.all λy=>decide (0<=y)&&dX.contains y.toNat)=ab:=by decide+kernel
 rw[ui];constructor;intro j;have:=bZ.mp q _<|iH.mp j;simp only[c0,n5]at this;exact this.2;intro j;exact bZ.mp a _<|iH.mp j
def zR(j:lX g=I (.str l)):mL g=l:=by unfold mL;rw[j]
def abD(d:Nat)(k:a≠[])(f:∀n∈a,n<3):lX (je d<|a.take<|cS d a)=some (.str<|b6<|a.take<|cS d a)/\dX.contains (je d<|a.take<|cS d a)=au/\je d (a.take<|cS d a)<0x110000:=by
 have m:=wG (ds:=a) d;have y:=K8 (l:=a.take<|cS d a) (aC (xu _ _)<|m9 m)<|FF f;have h:=bZ.mp YZ _ y;induction p:h3 (a.take<|cS d a)using b7 with
 |some g=>
  rw[p]at h;have i:je d (a.take<|cS d a)=g:=by unfold je;rw[p];rfl
  rw[i];simp only[c0,ez,qC]at h;exact⟨k3 h.1.1,h.1.2,h.2⟩
 |none=>
  have j:=Mw p;rw[j]at p ⊢;match a,k,f with
  |bA::b,_,f=>
   have i:je d ((bA::b).take 1)=kW.getD (d%12) 0+f5 bA -97:=by unfold je;rw[p];rfl
   rw[i]
   have:=bZ.mp (bZ.mp Us (d%12)<|ee.mpr<|h' _ z) bA<|ee.mpr<|f bA eB
   simp only[c0,ez,qC]at this
   exact⟨k3 this.1.1,this.1.2,this.2⟩
def nT(l:Nat)(q:List Nat):ar:=⟨⟨l::q.map f5⟩⟩
def KX(w:g∈iW j):dX.contains g=ab:=by unfold iW at w;split at w;rename_i k;rw[cm]at w;subst w;have y:dX.length=27:=z;rw[iH,AZ,n6<|du o z];exact xt _;cases w
def Uu:∀(y:Nat)(a:List Nat)(r:Nat),a.length<=y->(∀d∈a,d<3)->(∀g∈lL y a r,g<0x110000/\(dX.contains g=au->lX g=I (.str<|mL g)/\(mL g).length<=100))/\((lL y a r).filter λg=>!dX.contains g).flatMap (λg=>(mL g).cps.toList)=a.map f5:=by
 intro y;induction y with
 |zero=>
  intro a r j _;induction a using a8 with|nil=>exact⟨λg w=>absurd w mn,rfl⟩|cons _ _=>exact absurd j<|O7 _
 |succ y k=>
  intro a r i e;induction a using a8 with
  |nil=>exact⟨λg w=>absurd w mn,rfl⟩
  |cons bA b=>
   have ao:=Mx (r/29%24)<|bA::b;obtain⟨f,p⟩:=k ((bA::b).drop<|cS (r/29%24)<|bA::b) (r/696) (by rw[OJ];rw[gx]at i ⊢;exact A'.mpr<|aC i<|gy ao y) λd l=>e d<|OP l;obtain⟨b3,cv,e_⟩:=abD (r/29%24) (List.cons_ne_nil bA b) e;have m:=wG (ds:=bA::b)<|r/29%24;rw[CF];refine⟨λg w=>?_,?_⟩;rcases ml.mp w with w|w;rcases ml.mp w with w|w;have:=KX w;refine⟨?_,λq=>by rw[this]at q;cases q⟩;have:=bZ.mp XQ g<|iH.mp this;rwa [qC]at this;rw[cm]at w;subst w;refine⟨e_,λ_=>?_⟩;rw[zR b3,rp];exact⟨b3,aC (xu _ _)<|aC (c2 m) z⟩;exact f g w;rw[afM,afM,afP,afP,p];have s:(iW<|r%29).filter (λg=>!dX.contains g)=[]:=OG.mpr λg w=>by rw[KX w];decide
   rw[s,kG,cv,if_pos (by decide),OH,xq,zR b3,List.flatMap_nil,pl];show[]++((bA::b).take _).map f5++_=_;rw[Gj,<-kH,OU]
def Rv(y:Nat):lX (jd.getD (y%16) 0)=I (.str<|dt<|jd.getD (y%16) 0)/\dX.contains (jd.getD (y%16) 0)=au/\jd.getD (y%16) 0<0x110000:=by
 have a:jd.length=16:=z;have r:y%16<jd.length:=by rw[a];exact h' _ z
 rw[AZ,n6 r];have:=bZ.mp Ru _<|xt r;simp only[c0,ez,qC]at this;exact⟨k3 this.1.1,this.1.2,this.2⟩
def Nl(q:List Nat)(r:Nat)(y:q.length<=6)(j:∀d∈q,d<3):(∀g∈pY q r,g<0x110000/\(dX.contains g=au->lX g=I (.str<|mL g)/\(mL g).length<=100))/\pV (((pY q r).filter λg=>!dX.contains g).map mL)=nT (jd.getD (r%16) 0) q:=by obtain⟨f,e⟩:=Uu 6 q (r/16) y j;obtain⟨c9,dp,gh⟩:=Rv r;unfold pY;refine⟨λg w=>?_,?_⟩;rcases cJ.mp w with rfl|w;rw[zR c9];exact⟨gh,λk=>⟨c9,show 1<=100 by decide⟩⟩;exact f g w;refine tW ?_;show(afO _<|OO mL _)=_;rw[kG,dp,if_pos z,e4,xq,zR c9,afQ,e];rfl
section
def bT(y:Nat):aF:=aJ (bw jT) y
def cY:aZ:=aZ.fn<|bY jT
noncomputable abbrev eC:List ar:=[bp "reached"]
def lg(t:List Int)(b:Nat):List Int:=k8 (k8 t ag (I 60) ag) (I (b:Int)) ag<|I 4
def Mv{n t:Type}(s:n->t)(k:List n)(lo g st:Option Int):k8 (k.map s) lo g st=(k8 k lo g st).map s:=by
 unfold k8;rw[eT];dsimp only;generalize xV (j2 lo g st k.length).1 (j2 lo g st k.length).2.1 (j2 lo g st k.length).2.2=a;induction a with
 |nil=>rfl
 |cons y w b=>
  rw[Gb,Gb,m5];induction k[y]?using b7 with
  |none=>exact b
  |some m=>
   show s m::_=s m::_;rw[b]
def ada:((bO 64).all λi=>bG (xV (j2 ag (I 60) ag i).1 (j2 ag (I 60) ag i).2.1 (j2 ag (I 60) ag i).2.2).length 63&&(bO 4).all λb=>bG (xV (j2 (I (b:Int)) ag (I 4) i).1 (j2 (I (b:Int)) ag (I 4) i).2.1 (j2 (I (b:Int)) ag (I 4) i).2.2).length 63)=ab:=by decide+kernel
def wU{n:Type}{k:List n}(a:k.length<=63):(k8 k ag (I 60) ag).length<=63/\∀b:Nat,b<4->(k8 k (I (b:Int)) ag<|I 4).length<=63:=by have:=bZ.mp ada k.length<|ee.mpr<|cH o z;simp only[c0,h_,bZ]at this;refine⟨aC (OL ..) this.1,λb p=>aC (OL ..)<|this.2 b<|ee.mpr p⟩
def lM(t:List Int)(b:Nat):Nat:=(mX<|(lg t b).map λm=>m.fmod<|10^30).toNat
def adZ:∀k:List Int,(∀m∈k,0<=m/\m<10^30)->0<=mX k/\mX k<=k.length*10^30:=by
 intro k;induction k with
 |nil=>
  exact @λa=>⟨z,z⟩
 |cons m k c=>
  exact @λj=>by have g:=c λb i=>j b<|eA _ i;have ae:=j m eB;simp only[mX,gx];refine⟨Oo ae.1 g.1,?_⟩;rw[F9,Int.add_mul,show((1:Nat):Int)*10^30=10^30 from Int.one_mul _,AU m];exact F7 g.2<|hK ae.2
def UC(c:t.length<=63)(p:b<4):mX ((lg t b).map λm=>m.fmod<|10^30)=((lM t b:Nat):Int)/\lM t b<=63*10^30:=by
 have a:(lg t b).length<=63:=(wU (wU c).1).2 b p;have l:=adZ ((lg t b).map λm=>m.fmod<|10^30) λd i=>by obtain⟨m,k,rfl⟩:=hM.mp i;rw[Ou _ z];exact⟨F8 _ z,Oq _ z⟩
 rw[eT]at l;have q:((lg t b).length:Int)*10^30<=63*10^30:=Int.mul_le_mul_of_nonneg_right (hv.mpr a) z;exact⟨(qA l.1).symm,OA.mpr<|jY l.2 q⟩
def Yi:∀k:List Int,oe (k.map aa.int)=I k:=by
 intro k;induction k with
 |nil=>
  exact rfl
 |cons m k c=>
  exact by show(oe<|k.map aa.int).map _=_;rw[c];rfl
variable(ns:List Int)(c8 bN cZ dr:Nat)(ds:List Nat)
noncomputable def qV:aG:=[("script",.val<|.list<|ns.map aa.int)]
def fg:aG:=q "cells" (.list [af c8,af bN,af cZ,af dr])<|qV ns
def b8:aG:=q "word" (.str<|b6 ds)<|fg ns c8 bN cZ dr
def JH:ai:=a3<|bT 0
def JI:ai:=((bD<|ek<|fZ JH).head?).getD JH
noncomputable def FI:List (Nat×Nat):=[(0,357),(1,3170644669),(2,25),(3,25)]
def Lu(s:Nat×Nat):aa:=.tuple [af s.1,af s.2]
def qW(j:ns.length<=63)(c:c8=357+lM ns 0)(r:bN=3170644669+lM ns 1)(q:cZ=25+lM ns 2)(w:dr=25+lM ns 3):aH (bI 8) cY eC (qV ns) (bT 0) (.next<|fg ns c8 bN cZ dr):=by
 refine aH.name "cells" (.list [af c8,af bN,af cZ,af dr]) z z z z ?_;have:=aj.k7 (O:=bI 8) (S:=cY) (aO:=(qV ns).plus) (e:=a3<|bT 0) FI Lu (λA=>af<|A.2+lM ns A.1) z (dw.lf 9 (FI.map Lu) λl t=>z) (λi=>z) (λi d=>?_) z;rw[c,r,q,w];exact this;have f:i.1<4:=by unfold FI at d;simp only[cJ,mn,or_false]at d;rcases d with rfl|rfl|rfl|rfl<;>decide
 refine aj.bin (op:=.Add) (a:=af i.2) (b:=af<|lM ns i.1) z (aj.leaf 9 (λl t=>z) rfl) ?_ λl=>rfl;refine aj.call (ds:=[.list<|(lg ns i.1).map λm=>.int<|m.fmod<|10^30]) z z ?_ ?_;rw[(z:bD (ek<|fZ<|a3<|bT 0)=[JI])];refine aL.cons z ?_ aL.nil;refine aj.k7 (lg ns i.1) aa.int (λm=>.int<|m.fmod<|10^30) z ?_ (λm=>z) (λm C=>aj.lf 9 (.int<|m.fmod<|10^30) λl t=>z) (by have:(lg ns i.1).length<=63:=(wU (wU j).1).2 _ f;exact aC o z);refine dw.leaf 9 (x:=((l6 (.list<|ns.map aa.int) .none (.int 60) .none).bind λB=>l6 B (af i.1) .none<|.int 4).bind<|yj (d_ JI).target) (λl t=>z) ?_;have s:l6 (.list<|ns.map aa.int) .none (.int 60) .none=I (.list<|(k8 ns ag (I 60) ag).map aa.int):=by rw[<-Mv];exact if_pos (by rw[eT,h_];exact aC o z)
 rw[s,c'];have n:l6 (.list<|(k8 ns ag (I 60) ag).map aa.int) (af i.1) .none (.int 4)=I (.list<|(lg ns i.1).map aa.int):=by unfold lg;show(if bG ((k8 ns ag (I 60) ag).map aa.int).length 1000000=ab then I (aa.list<|k8 ((k8 ns ag (I 60) ag).map aa.int) (I (i.1:Int)) ag<|I 4)else ag)=_;rw[if_pos (by rw[eT,h_];have:=(wU j).1;exact aC o z),Mv]
 rw[n];rfl;refine jK (k:=8) (g:=Ct) z ?_;show(oe<|(lg ns i.1).map λm=>aa.int<|m.fmod<|10^30).map (λxs=>aa.int<|mX xs)=_;rw[show(lg ns i.1).map (λm=>aa.int<|m.fmod<|10^30)=((lg ns i.1).map λm=>m.fmod<|10^30).map aa.int by rw[m7];rfl,Yi,Bb,(UC j f).1];rfl
def ML(j:y<=1000):gZ [af y]=I ((bO y).map af):=by
 have a:jz 0 ((y:Nat):Int) 1=y:=by unfold jz;rw[if_pos z];split;rw[Int.sub_zero,Int.ediv_one];exact Int.sub_add_cancel _ 1;rename_i j;exact(afC (g8.mp j)<|iG y).symm
 have l:kz 0 ((y:Nat):Int) 1=ab:=by
  unfold kz Pe;rw[a];have s:∀k:Int,0<=k->k<=1000->aic k=ab:=λk g q=>by show(decide _&&decide _)=ab;rw[decide_eq_true<|jY z g,decide_eq_true<|n4 q z];rfl
  rw[s 0 (iG _)<|iG _,s y (iG _)<|hv.mpr j,s 1 (iG _) z,if_pos z,s _ (show(0:Int)<=(y:Int)+(1 -1)by exact iG _)<|show(y:Int)+(1 -1)<=1000 from hv.mpr j];rw[decide_eq_true<|show((y:Nat):Int)<=1000000 from hv.mpr<|aC j z,afs];rfl
 show(if kz 0 ((y:Nat):Int) 1 then I (jr 0 1 (jz 0 (y:Nat) 1).toNat)else ag)=_;rw[if_pos l,a,n5];refine congrArg I ?_;refine afW λk b=>?_;exact congrArg aa.int<|(Int.zero_add _).trans<|Int.mul_one _
def YP(j:y<3):d3 (.str "fil") (af y)=I (.str<|dt<|f5 y):=DI j z z z
def TL(ds:List Nat):pV (ds.map λd=>dt<|f5 d)=b6 ds:=tW (by
 show afO _ (ds.map _)=ds.map f5;rw[afQ];induction ds with
 |nil=>rfl
 |cons i k g=>rw[xq,g];rfl)
noncomputable def qu(g:Nat):List Nat:=(bO<|1+g%6).map λk=>g/6/3^k%3
def aeX(g:Nat):∀d∈qu g,d<3:=λd a=>by obtain⟨k,_,rfl⟩:=hM.mp a;exact h' _ z
def FV(g:Nat):(qu g).length=1+g%6/\(qu g).length<=6:=by
 have:(qu g).length=1+g%6:=by unfold qu;simp
 exact⟨this,by exact aC (cL this)<|gy (m9<|h' g<|by decide) 1⟩
def Rn:ai:=cw<|a3<|bT 1
def Qu(j:ds=qu c8):aH (bI 8) cY eC (fg ns c8 bN cZ dr) (bT 1) (.next<|b8 ns c8 bN cZ dr ds):=by
 refine aH.name "word" (.str<|b6 ds) z z z z ?_;have y:=FV c8;rw[<-TL];refine aj.en (a:=.str "") (ds:=[.list<|(ds.map λd=>dt<|f5 d).map aa.str]) z (aj.lf 9 (.str "") λl t=>z) ?_ (LV (k:=8) rfl z (Ls (by rw[eT,j];exact aC y.2 z) λf ae=>by
  obtain⟨d,_,rfl⟩:=hM.mp ae;exact show 1<=100 by decide))
 rw[show bD (a3<|bT 1)=[Rn]by kernel_rfl];refine aL.cons z ?_ aL.nil;rw[j];unfold qu;rw[m7,m7];refine aj.k7 (bO<|1+c8%6) af _ z (dw.leaf 9 (x:=((bu .Mod (af c8)<|af 6).bind λp=>bu .Add (af 1) p).bind λd=>gZ [d]) (λl t=>z) ?_) (λi=>z) (λk m=>?_) (by simp;exact aC (y.1▸y.2)<|by decide);rw[kr _ z,c',ik,c'];exact ML (by exact aC (y.1▸y.2)<|by decide);have m:=ee.mp m;have e:3^k<=3^6:=ps z (by exact c2<|du m<|y.1▸y.2);have c:0<3^k:=Gw z;refine aj.leaf 9 (x:=(((bu .FloorDiv (af c8)<|af 6).bind λi=>(bu .Pow (af 3)<|af k).bind λp=>bu .FloorDiv i p).bind λi=>bu .Mod i<|af 3).bind λp=>d3 (.str "fil") p) (λl t=>z) ?_;rw[oF _ z z,c',ab7 z (by exact aC (c2<|du m<|y.1▸y.2)<|by decide),c',oF _ c<|cH e z,c',kr _ z,c',YP<|h' _ z];rfl
end
section
def aH.DH{st:aF}(f:zA st=ab)(m:o7 a σ (et st)=I y)(g:aL e a σ.plus y as)(k:gZ as=I d)(j:hW e a c σ (fy st) (df st) d w):aH e a c σ st w:=by obtain⟨B,x,q,s,rfl⟩:=Dr f;exact(g.and j).succ λl A j=>bF (y5 m<|bF j.1 k) j.2
def Lk(a:j<l.length)(p:j<=1000):d3 (.list l) (af j)=I l[j]:=by show(iO l.length ((j:Nat):Int)).bind (λj=>l[j]?)=_;rw[v8 a<|aC o z,c',n6 a]
def Ln(a:j<l.length)(p:j<=1000):d3 (.str ⟨⟨l⟩⟩) (af j)=I (.str<|dt l[j]):=by
 show(iO l.length ((j:Nat):Int)).bind (λj=>((⟨l⟩:Array Nat)[j]?).map λg=>aa.str ⟨#[g]⟩)=_;rw[v8 a<|aC o z,c'];have:(⟨l⟩:Array Nat)[j]?=I l[j]:=by simp[a]
 rw[this];rfl
def Qr(d r:Nat):∀k:List aa,(∀m∈k,(kQ d m).isSome=ab/\ko d m<=r)->(i0 (kQ d) k).isSome=ab/\o' (ko d) k<=3+k.length*(r+2):=by
 intro k;induction k with
 |nil=>
  exact @λw=>⟨rfl,show 3<=3+0*(r+2)by exact b_ _ _⟩
 |cons m k c=>
  exact @λj=>by obtain⟨g,q⟩:=j m eB;obtain⟨f,e⟩:=c λt i=>j t<|eA _ i;obtain⟨A,p⟩:=uA.mp g;obtain⟨C,s⟩:=uA.mp f;refine⟨by unfold i0;rw[p,c',s];rfl,?_⟩;show ko d m+2+o' (ko d) k<=_;rw[gx,Gm,O8,fU<|k.length*(r+2),Nat.add_left_comm 3];exact ll (jv (j m eB).2 2) e
def adQ(c:∀m∈l,(kQ 5 m).isSome=ab/\ko 5 m<=B)(k:l.length*(B+2)<=1000000):∃r,u2 [.list l]=I (.str r):=by obtain⟨g,q⟩:=Qr 5 B l c;obtain⟨a,j⟩:=uA.mp g;refine⟨(r8 a).shown,?_⟩;show((i0 (kQ 5) l).map r8).bind (λs=>if bG (o' (ko 5) l) 16000000=ab then I (aa.str s.shown)else ag)=_;rw[j,Bb,c',if_pos<|kI<|aC q<|aC (gy k 3) z]
def L4(r:ar):hh .NotEq (.str r) (.str r)=I au:=by show(dQ 9 (.str r)<|.str r).map (!·)=_;show(I<|r==r).map (!·)=_;rw[beq_self_eq_true];rfl
variable(ns:List Int)(c8 bN cZ dr:Nat)(ds:List Nat)
def i2:List Nat:=pY ds bN
def iP:Nat:=jd.getD (bN%16) 0
def cP:aG:=q "flags" (.list<|(i2 bN ds).map λg=>.bool<|dX.contains g)<|q "signs" (.list<|(i2 bN ds).map λg=>.str<|dt g)<|b8 ns c8 bN cZ dr ds
def gS:aG:=q "read" (.str<|nT (iP bN) ds)<|cP ns c8 bN cZ dr ds
def j8:aG:=q "place" (aN (1,2,3))<|gS ns c8 bN cZ dr ds
def Ng:(i2 bN ds).length<=13:=jx<|CE 6 ds<|bN/16
variable{ds}
section
variable(k1:ds.length<=6)(iy:∀d∈ds,d<3)
include k1 iy
def QC:aH (bI 8) cY eC (b8 ns c8 bN cZ dr ds) (bT 2) (.next<|cP ns c8 bN cZ dr ds):=by obtain⟨a,q⟩:=Nl ds bN k1 iy;refine aH.to (d:=FJ<|i2 bN ds) (f_:=[("flags",.list<|(i2 bN ds).map λg=>.bool<|dX.contains g),("signs",.list<|(i2 bN ds).map λg=>.str<|dt g)]) z z z z ?_;refine aj.call (ds:=[.str<|b6 ds,af bN]) z z ?_<|aeD iy k1 λg w=>(a g w).1;rw[show bD (a3<|bT 2)=[cw<|a3<|bT 2,((bD<|a3<|bT 2)[1]?).getD b5]by kernel_rfl];exact aL.cons z (aj.lf 9 (.str<|b6 ds) λl t=>z)<|aL.cons z (aj.lf 9 (af bN) λl t=>z) aL.nil
def QI:aH (bI 8) cY eC (cP ns c8 bN cZ dr ds) (bT 3) (.next<|gS ns c8 bN cZ dr ds):=by obtain⟨f,q⟩:=Nl ds bN k1 iy;have n:=Ng bN ds;refine aH.name "read" (.str<|nT (iP bN) ds) z z z z ?_;rw[show nT (iP bN) ds=pV (((i2 bN ds).filter λe=>!dX.contains e).map mL)from q.symm];refine aj.en (a:=.str "") (ds:=[.list<|(((i2 bN ds).filter λe=>!dX.contains e).map mL).map aa.str]) z (aj.lf 9 (.str "") λl t=>z) ?_ (LV (k:=8) rfl z<|Ls (by rw[eT];exact aC (OM ..)<|aC n z) λh ae=>?_);rw[show bD (a3<|bT 3)=[cw<|a3<|bT 3]by kernel_rfl,m7];refine aL.cons z ?_ aL.nil;refine aj.zS (i2 bN ds) (λe=>.str<|dt e) _ (λe=>!dX.contains e) z (dw.lf 9 ((i2 bN ds).map λe=>.str<|dt e) λl t=>z) (λi=>z) (λe w=>?_) (λe w m=>?_)<|aC n z;refine bS.not z<|bS.ev (d:=.bool<|dX.contains e) z ?_ λl=>rfl;refine aj.call (ds:=[.str<|dt e]) z z ?_<|sQ (k:=8) (g:=yg) z z<|congrArg (λp=>I<|aa.bool p)<|Iw e;rw[(z:bD (dT<|xa<|cw<|a3<|bT 3)=[cw<|dT<|xa<|cw<|a3<|bT 3])];exact aL.cons z (aj.lf 9 (.str<|dt e) λl t=>z) aL.nil;refine aj.call (ds:=[.str<|dt e]) z z ?_ (sQ (k:=8) (g:=Dg) z z ((f e w).2<|by simpa using m).1);rw[(z:bD (fZ<|cw<|a3<|bT 3)=[cw<|fZ<|cw<|a3<|bT 3])];exact aL.cons z (aj.lf 9 (.str<|dt e) λl t=>z) aL.nil;obtain⟨e,w,rfl⟩:=hM.mp ae;obtain⟨w,m⟩:=lk.mp w;exact((f e w).2<|by simpa using m).2
def JL:List ai:=sM .Or<|a3<|bT 4
def q':ai:=(JL.head?).getD b5
def Vf:ai:=(JL[1]?).getD b5
theorem QJ:aH (bI 8) cY eC (gS ns c8 bN cZ dr ds) (bT 4) (.next<|gS ns c8 bN cZ dr ds):=by
 have n:=Ng bN ds;refine aH.skip z (bS.or (bf:=[q',Vf]) z (by simp)<|gc.Ad ?_<|gc.Ad ?_ gc.Ml);obtain⟨r,s⟩:=adQ (l:=(i2 bN ds).map λd=>.bool<|dX.contains d) (B:=202) (λm ae=>by
  obtain⟨d,A,rfl⟩:=hM.mp ae;exact⟨rfl,bM _⟩) (by rw[eT];exact aC (xC _ n) z)
 refine bS.cmp (op:=.NotEq) (a:=.str r) (b:=.str r) z ?_ ?_ λh=>L4 r;refine aj.call (ds:=[.list<|(i2 bN ds).map λd=>.bool<|dX.contains d]) z z ?_<|jK (k:=8) (g:=u2) z s;rw[(z:bD (dT q')=[cw<|dT q'])];refine aL.cons z (aj.k7 (i2 bN ds) (λd=>.str<|dt d) _ z (dw.lf 9 ((i2 bN ds).map λd=>.str<|dt d) λh q=>z) (λi=>z) (λd w=>?_)<|aC n z) aL.nil;refine aj.call (ds:=[.str<|dt d]) z z ?_<|sQ (k:=8) (g:=yg) z z<|congrArg (λp=>I<|aa.bool p)<|Iw d;rw[(z:bD (fZ<|cw<|dT q')=[cw<|fZ<|cw<|dT q'])];exact aL.cons z (aj.lf 9 (.str<|dt d) λh q=>z) aL.nil;refine aj.call (ds:=[.list<|(i2 bN ds).map λd=>.bool<|dX.contains d]) z z ?_<|jK (k:=8) (g:=u2) z s;rw[(z:bD (ek q')=[cw<|ek q'])];exact aL.cons z (aj.lf 9 (.list<|(i2 bN ds).map λd=>.bool<|dX.contains d) λh q=>z) aL.nil;refine bS.cmp (op:=.NotEq) (a:=.str<|nT (iP bN) ds) (b:=.str<|nT (iP bN) ds) z (aj.lf 9 (.str<|nT (iP bN) ds) λh q=>z) ?_ λh=>L4 _;refine aj.bin (op:=.Add) (a:=.str<|dt<|iP bN) (b:=.str<|b6 ds) z ?_ (aj.lf 9 (.str<|b6 ds) λh q=>z) λh=>?_;have f:d3 (.list<|(i2 bN ds).map λd=>aa.str<|dt d) (af 0)=I (.str<|dt<|iP bN):=
  Lk (l:=.str (dt<|iP bN)::(lL 6 ds<|bN/16).map λd=>.str<|dt d) (j:=0) (by simp) (dU _ _)
 exact aj.leaf 9 (λh q=>z) f;show(if bG ((dt<|iP bN).length+(b6 ds).length) 1000000=ab then I (aa.str<|dt (iP bN)++b6 ds)else ag)=_;have y:(dt<|iP bN).length=1:=rfl;rw[if_pos (by rw[y,rp];exact kI<|aC (gy k1 1) z)];refine congrArg (λm=>I<|aa.str m)<|tW ?_;show((dt<|iP bN).cps++(b6 ds).cps).toList=_;rw[Ol];rfl
end
def QK:aH (bI 8) cY eC (gS ns c8 bN cZ dr ds) (bT 5) (.next<|j8 ns c8 bN cZ dr ds):=aH.name "place" (aN (1,2,3)) z z z z<|aj.lf 9 (aN (1,2,3)) λl t=>z
end
def gu(c:Nat):List br:=(bO<|c+1).flatMap λy=>(fl y).2.2
def adL:((bO 6).all λc=>(gu c).all λs=>(bO 3).all λk=>(gu<|c+1).contains<|fA s k)=ab:=by decide+kernel
def My(j:m<=y)(ao:s∈gu m):s∈gu y:=by unfold gu at*;obtain⟨a,g,ao⟩:=r1.mp ao;exact r1.mpr ⟨a,ee.mpr (by have:=ee.mp g;exact du this<|jx j),ao⟩
def Ny(r:c<6)(ao:s∈gu c)(a:d<3):fA s d∈gu (c+1):=iH.mp<|bZ.mp (bZ.mp (bZ.mp adL c<|ee.mpr r) s ao) d<|ee.mpr a
def abC:∀(k:List Nat)(c:Nat)(s:br),s∈gu c->c+k.length<=6->(∀d∈k,d<3)->k.foldl fA s∈gu (c+k.length):=by
 intro k;induction k with
 |nil=>
  exact @λc s ao _ _=>ao
 |cons d k a=>
  exact @λc s ao y e=>by rw[gx]at y ⊢;have:=a (c+1) (fA s d) (Ny (by exact du (qD<|r5 _) y) ao<|e d eB) (by exact aC (cL<|ef _ _ _) y) λb ae=>e b<|eA _ ae;rw[xr,show c+(k.length+1)=c+1+k.length from ef c k.length 1];exact this
def Vn(i p:br):dQ 9 (aN i) (aN p)=I (decide (i=p)):=by have j:dQ 9 (aN i) (aN p)=I ((i.1==p.1)&&((i.2.1==p.2.1)&&((i.2.2==p.2.2)&&ab))):=rfl;rw[j];congr 1;obtain⟨c9,dp,gh⟩:=i;obtain⟨n,t,w⟩:=p;by_cases g:c9=n<;>by_cases q:dp=t<;>by_cases e:gh=w<;>simp[g,q,e]
def aay(i:br):hh .NotEq (aN i) (aN i)=I au:=by show(dQ 9 (aN i)<|aN i).map (!·)=_;rw[Vn,decide_eq_true rfl];rfl
def Hz(s:br)(a:d<3):a5 λl k=>(bI 8 l).call "_law_step" [aN s,gN d]=I (aN<|fA s d):=by match d,a with|0,_=>exact a5.of 20 λl y=>z|1,_=>exact a5.of 20 λl y=>z|2,_=>exact a5.of 20 λl y=>z
def qa(y:Nat):aF:=aJ (df<|bT 6) y
def ru:ai:=dT<|a3<|qa 0
def DK:ai:=ek<|a3<|qa 0
section
variable(ns:List Int)(c8 bN cZ dr:Nat)(ds:List Nat)
def wR:Nat->br->aG|0,s=>q "place" (aN s) (gS ns c8 bN cZ dr ds)|j+1,s=>q "place" (aN s)<|q "k" (af j)<|gS ns c8 bN cZ dr ds
def As(b:Nat)(s:br):aG:=q "k" (af b)<|q "place" (aN s)<|gS ns c8 bN cZ dr ds
def Ll(l:Nat)(i p:aa):(bI 8 l).item i p=d3 i p:=rfl
def aeR(d:Nat)(s:br)(l t:Nat):bc (bI 8<|l+9) (t+9) cY (As ns c8 bN cZ dr ds d s).plus (((bD ru)[2]?).getD b5)=((d3 (.list [af c8,af bN,af cZ,af dr])<|af 2).bind λi=>bu .Mod i<|af 21).bind (λc=>bu .Add (af 20) c):=z
def aeC(c:Nat)(s:br)(l t:Nat):bc (bI 8<|l+12) (t+12) cY (As ns c8 bN cZ dr ds c s).plus (((bD ru)[3]?).getD b5)=((bu .Add (af c)<|af 1).bind λi=>((((d3 (.list [af c8,af bN,af cZ,af dr])<|af 2).bind λi=>bu .FloorDiv i<|af 21).bind λi=>bu .Mod i<|af 4).bind λd=>bu .Add i d)):=z
variable{ds}(k1:ds.length<=6)
include k1
def aew(A:ds[c]?=I d)(r:d<3)(ao:s∈mQ):aI (bI 8) cY eC (As ns c8 bN cZ dr ds c s) (df<|bT 6) (.next<|wR ns c8 bN cZ dr ds (c+1)<|fA s d):=by
 obtain⟨y,w⟩:=m4.mp A;have h:c<6:=du y k1;have g:d3 (.str<|b6 ds) (af c)=I (gN d):=by have:=Ln (l:=ds.map f5) (j:=c) (by rw[eT];exact y) (by exact c2<|du o<|by decide);rw[Gd,w]at this;exact this
 have m:d3 (.str<|nT (iP bN) ds) (af<|c+1)=I (gN d):=by have:=Ln (l:=iP bN::ds.map f5) (j:=c+1) (by rw[gx,eT];exact Pa o) (by exact du o<|by decide);rw[List.getElem_cons_succ,Gd,w]at this;exact this
 have f:((d3 (.list [af c8,af bN,af cZ,af dr])<|af 2).bind λi=>bu .Mod i<|af 21).bind (λe=>bu .Add (af 20) e)=I (af<|20+cZ%21):=by rw[show d3 (.list [af c8,af bN,af cZ,af dr]) (af 2)=I (af cZ)from rfl,c',kr _ z,c',ik]
 have k:((bu .Add (af c)<|af 1).bind λi=>((((d3 (.list [af c8,af bN,af cZ,af dr])<|af 2).bind λi=>bu .FloorDiv i<|af 21).bind λi=>bu .Mod i<|af 4).bind λe=>bu .Add i e))=I (af<|c+1+cZ/21%4):=by rw[show d3 (.list [af c8,af bN,af cZ,af dr]) (af 2)=I (af cZ)from rfl,ik,c',c',oF _ z z,c',kr _ z,c',ik]
 have n:=h' cZ (show 0<21 by decide);have gO:=h' (cZ/21) (show 0<4 by decide);rw[(z:df (bT 6)=[qa 0,qa 1])];refine aI.cons (aH.skip z<|bS.cmp (op:=.NotEq) (a:=aN<|fA s d) (b:=aN<|fA s d) z ?_ ?_ λq=>aay _)<|aI.cons ?_ aI.nil;refine aj.call (ds:=[aN s,gN d,af<|20+cZ%21,af<|c+1+cZ/21%4]) z z ?_ (Tc<|Qk ao r (by exact b_ _ _) (by exact gy (m9 n) 20) (by exact aC (dU 1 c)<|b_ _ _)<|by exact ll h<|m9 gO);rw[show bD ru=[cw ru,((bD ru)[1]?).getD b5,((bD ru)[2]?).getD b5,((bD ru)[3]?).getD b5]by kernel_rfl];exact aL.cons z (aj.lf 9 (aN s) λq t=>z)<|aL.cons z (aj.sub (a:=.str<|nT (iP bN) ds) (b:=af<|c+1) z (aj.lf 9 (.str<|nT (iP bN) ds) λq t=>z) (aj.leaf 9 (x:=bu .Add (af c)<|af 1) (λq t=>z)<|ik _ _) λq=>(Ll q _ _).trans m)<|aL.cons z (aj.leaf 9 (λq t=>aeR ns c8 bN cZ dr ds c s q t) f)<|aL.cons z (aj.leaf 12 (λq t=>aeC ns c8 bN cZ dr ds c s q t) k) aL.nil;refine aj.call (ds:=[aN s,gN d]) z z ?_<|Hz s r;rw[show bD DK=[cw DK,((bD DK)[1]?).getD b5]by kernel_rfl];exact aL.cons z (aj.lf 9 (aN s) λq t=>z)<|aL.cons z (aj.leaf 9 (λq t=>z) g) aL.nil;refine aH.name "place" (aN<|fA s d) z z z z<|aj.call (ds:=[aN s,gN d]) z z ?_<|Hz s r;rw[show bD (a3<|qa 1)=[cw<|a3<|qa 1,((bD<|a3<|qa 1)[1]?).getD b5]by kernel_rfl];exact aL.cons z (aj.lf 9 (aN s) λq t=>z)<|aL.cons z (aj.leaf 9 (λq t=>z) g) aL.nil
def ZI:∀(k:List Nat)(b:Nat)(s:br),ds.drop b=k->s∈gu b->b+k.length<=6->(∀d∈k,d<3)->hW (bI 8) cY eC (wR ns c8 bN cZ dr ds b s) (fy<|bT 6) (df<|bT 6) ((ju b k.length).map af) (.next<|wR ns c8 bN cZ dr ds (b+k.length)<|k.foldl fA s):=by
 intro k;induction k with
 |nil=>
  exact @λb s=>λ_ _ _ _=>hW.nil
 |cons d k c=>
  exact @λb s=>λh ao n q=>by
   have a:ds[b]?=I d:=by have:=congrArg (λk=>k[0]?) h;simpa using this
   have i:ds.drop (b+1)=k:=by have:=congrArg (List.drop 1) h;rwa [OC]at this
   rw[gx]at n ⊢;have g:=c (b+1) (fA s d) i (Ny (by exact du (qD<|r5 _) n) ao<|q d eB) (by exact aC (cL<|ef _ _ _) n) λm ae=>q m<|eA _ ae;rw[show b+(k.length+1)=b+1+k.length from ef b k.length 1,xr,List.range'_succ,e4];refine hW.cons (aO:=[("k",af b)]) z ?_ g;have f:(wR ns c8 bN cZ dr ds b s).vals [("k",af b)]=As ns c8 bN cZ dr ds b s:=by cases b<;>exact z
   rw[f];exact aew ns c8 bN cZ dr k1 a (q d eB) (My (show b<=5 by exact m9<|du (qD<|r5 _) n) ao)
def QL(e:∀d∈ds,d<3):aH (bI 8) cY eC (j8 ns c8 bN cZ dr ds) (bT 6) (.next<|wR ns c8 bN cZ dr ds ds.length<|ds.foldl fA (1,2,3)):=by have a:o7 cY (j8 ns c8 bN cZ dr ds) (et<|bT 6)=I [cw<|et<|bT 6]:=z;refine aH.DH z a (as:=[af ds.length]) (aL.cons z (aj.call (ds:=[.str<|b6 ds]) z z ?_<|jK (k:=8) (g:=iR) z ?_) aL.nil) (ML<|aC k1 z) ?_;rw[(z:bD (cw<|et<|bT 6)=[cw<|cw<|et<|bT 6])];exact aL.cons z (aj.lf 9 (.str<|b6 ds) λl t=>z) aL.nil;show(if bG (b6 ds).length 1000000=ab then I (aa.int ((b6 ds).length:Nat))else ag)=_;rw[rp,if_pos<|kI<|aC k1 z];rfl;have:=ZI ns c8 bN cZ dr k1 ds 0 (1,2,3) rfl (by decide) (by exact aC (cL<|g9 _) k1) e;rw[g9]at this;rw[af0];exact this
end
noncomputable def gr:Nat->br|0=>(0,0,0)|1=>(1,0,-1)|2=>(1,1,-2)|_=>(2,-1,-1)
noncomputable def BP(s:br):Nat->Int|0=>s.1|1=>s.2.1|_=>s.2.2
noncomputable def abq:List (Nat×Nat×Nat):=[(0,1,2),(1,2,0),(2,0,1),(0,2,1),(2,1,0),(1,0,2)]
def Fs(c:Nat)(d:Nat×Nat×Nat):br:=(1+3*BP (gr c) d.1,2+3*BP (gr c) d.2.1,3+3*BP (gr c) d.2.2)
def pd:Nat->br->List Nat|0,_=>[]|n+1,s=>if s=(1,2,3)then[]else if s.2.1<s.1 then pd n (fA s 0)++[0]else if s.2.2<s.2.1 then pd n (fA s 1)++[1]else pd n (fA s 2)++[2]
def MU(n:List Nat):List br:=n.foldl (λa d=>a++a.map λs=>fA s d) [(1,2,3)]
def mR(c:Nat):List br:=abq.foldl (λq d=>q++MU (if q.contains (Fs c d)then[]else pd 7 (Fs c d))) []
def l5(c:Nat):br:=Fs c (1,0,2)
noncomputable def qj(m:ar)(k:List aa)(σ:aG):aG:=(m,.own k)::σ
section
variable(mZ eS bl g6 cF dD n2 cE:aa)
def FH:aG:=q "read" mZ<|q "flags" eS<|q "signs" bl<|q "word" g6<|q "cells" cF [("script",.val dD)]
def FC:aG:=q "place" cE<|q "k" n2<|FH mZ eS bl g6 cF dD
def w9(c:Nat):aG:=q "move" (aN<|gr c)<|FC mZ eS bl g6 cF dD n2 cE
def FD(c:Nat):aG:=qj "reached" []<|w9 mZ eS bl g6 cF dD n2 cE c
def NF(c:Nat)(a:aG):aG:=q "shift" (aN<|l5 c)<|q "order" (.tuple [af 1,af 0,af 2]) a
def ad_:Nat->aG->aG|0,m=>q "rows" (cb [(1,2,3)]) (NF 0 m)|1,m=>q "rows" (cb<|MU [0,2,0,1]) (q "letter" (gN 1)<|NF 1 m)|2,m=>q "rows" (cb [(1,2,3)]) (q "shift" (aN<|l5 2)<|q "order" (.tuple [af 1,af 0,af 2])<|q "letter" (gN 2) m)|_,m=>q "rows" (cb [(1,2,3)])<|q "shift" (aN<|l5 3)<|q "order" (.tuple [af 1,af 0,af 2])<|q "letter" (gN 1) m
def w'(c:Nat):aG:=qj "reached" ((mR c).map aN)<|ad_ c<|w9 mZ eS bl g6 cF dD n2 cE c
def QM(r:c=n%4):aH (bI 8) cY eC (FC mZ eS bl g6 (.list [af k,af j,af y,af n]) dD n2 cE) (bT 7) (.next<|w9 mZ eS bl g6 (.list [af k,af j,af y,af n]) dD n2 cE c):=by have i:c<4:=r▸h' _ z;refine aH.name "move" (aN<|gr c) z z z z ?_;refine aj.leaf 12 (x:=(bu .Mod (af n)<|af 4).bind λp=>d3 (.list [aN<|gr 0,aN<|gr 1,aN<|gr 2,aN<|gr 3]) p) (λl t=>z) ?_;rw[kr _ z,c',<-r];exact wi i z z z z
def QN(c:Nat):aH (bI 8) cY eC (w9 mZ eS bl g6 cF dD n2 cE c) (bT 8) (.next<|FD mZ eS bl g6 cF dD n2 cE c):=aH.fresh "reached" (ds:=[]) z z (aj.lf 9 (.list []) λl t=>z) z
def QO(j:c<4):aH (bI 8) cY eC (FD mZ eS bl g6 cF dD n2 cE c) (bT 9) (.next<|w' mZ eS bl g6 cF dD n2 cE c):=wi j (a5.of 60 λl y=>by kernel_rfl) (a5.of 60 λl y=>by kernel_rfl) (a5.of 60 λl y=>by kernel_rfl) (a5.of 60 λl y=>by kernel_rfl)
end
def nj(aW σ:aG):Prop:=(∀s∈aW,σ.lookup s.1=I s.2)/\dG (aW.map (·.1))=ab
theorem nj.sim(k:nj aW σ)(ah:aX C g a σ b d):aX C g a aW b d:=ah.sub (λm t j=>k.1 (m,t)<|mem_of_lookup j) k.2
section
variable(O:b0)(n:Nat)(S:aZ)(M:List ar)
inductive qS:aG->List Stmt->fH->Prop
 |last {σ b r} (h:xs O S M n σ b=some r):qS σ b r
 |app {σ fC fq b vx r} (h:xs O S M n σ b=some (.next fC)) (l:nj fq fC) (g:qS fq vx r):qS σ (b++vx) r
end
def qS.runs(x:cf C f t)(m:t<=e.fuel)(F:qS f y a d σ i w):bV C e a (dm i e.env) σ w:=by induction F with|last j=>exact bV.qf (M:=d) x m j|app j k I A=>exact(bV.qf (M:=d) x m j).app λq H ah D B G=>A q H (k.sim ah) D B G
def aX.noOwn(ah:aX C g b σ f d)(ao:σ.pure=ab):aX C g b σ [] d:=by
 have h:∀m k,σ.lookup m≠I (.own k):=λm k n=>by cases bZ.mp ao _ (mem_of_lookup n)
 exact⟨by rw[nB];exact ah.cB,by rw[nB];exact ah.ok.shrink ah.aT ah.bJ ah.cI,ah.keys,nofun,λm k n=>absurd n<|h m k,λm p k j i n=>absurd n<|h m k,ah.aT,ah.bJ,ah.cI⟩
def ys(C:bC)(g:bX)(a:aZ)(l:ax)(h:mq->ax->Prop):fH->Prop
 |.next aW=>∀J,aX C g a aW [] J->cu C g [] l J->h .next J
 |.ret d=>∀t J,cu C g [] l J->Rz g.X J.heap t d->h (.ret t) J
 |_=>False
def hV(C:bC)(t:Nat)(a:aZ)(σ:aG)(p:List aF)(d:fH):Prop:=∀g,t<=g.fuel->∀l,aX C g a σ [] l->∀(h:mq->ax->Prop)(f:aq->ax->Prop),ys C g a l h d->aB (aK C.prog C.w) g.A (dm p g.env) h f l
section
variable{C:bC}{O:b0}{N n:Nat}{S:aZ}{M:List ar}{σ fC fq:aG}{b vx:List aF}{d:aa}{r:fH}
theorem hV.xs(x:cf C O N)(j:xs O S M n σ b=I (.next fC))(k:nj fq fC)(ao:fq.pure=ab):hV C N S σ b (.next fq):=λr y q ah a f i=>
 bV.qf (M:=M) x y j [] q ah a f λm J d e=>i J ((k.sim d).noOwn ao) e.forget
theorem hV.ret(x:cf C O N)(j:Mine.xs O S M n σ b=I (.ret d)):hV C N S σ b (.ret d):=λq y l ah a f k=>
 bV.qf (M:=M) x y j [] l ah a f λt m J e i r=>k t J e.forget r
def ys.from(e:ys C g S l h r)(f:cu C g [] l a):ys C g S a h r:=by
 cases r with
 |next aW=>exactλJ ah b=>e J ah<|f.trans b
 |ret d=>exactλi J b r=>e i J (f.trans b) r
 |brk aW=>exact e
 |cont aW=>exact e
def hV.app(j:hV C N S σ b (.next fC))(k:hV C N S fC vx r):hV C N S σ (b++vx) r:=λg y l ah e f i=>
 s6 (a:=b) (j g y l ah _ _ λJ d m=>k g y J d e f<|i.from m)
def hV.less(j:hV C N S fq b r)(k:nj fq σ):hV C N S σ b r:=λg y a ah=>j g y a<|k.sim ah
def hV.loop(x:cf C O N)(g:fI O n S σ.strict a e=I ds)(ao:σ.pure=ab)(m:∀d∈ds,∃w,dq S a d []=I w/\hV C N S (σ.vals w) b (.next σ)):hV C N S σ [.For a e b [] j] (.next σ):=λF y l ah X W V=>by
 have L:bj C F S σ.strict l:=by have:=ah.ok;rwa [nB]at this
 refine d6<|tU (σs:=λ_=>σ) (Inv:=λ_ _ _=>True) (oq:=[]) ((de x n).s9 S σ.strict a e ds F l L y g) ((de x n).zc _ _ _ _ _ g _) (λR _=>ao) (λR d B=>(m d<|A2 B).imp λw B=>B.1) (λB _=>B) (λB _=>B) nofun ah trivial (λP U R d w J K A r _ D q M=>?_) λJ r _ f=>hc<|V J r f;obtain⟨T,G,H⟩:=m d<|A2 K;rw[G]at A;obtain rfl:=aS A;exact H (F.grow P) y J r D q λcX k f=>M cX k trivial f
end
def Xn{aP U K:List aF}(Y:dA C i h e aP)(R:cf C j f)(B:hu h e=ab)(P:y.length=e.length)(S:aP=U++K)(Z:qS j am (aZ.fn h) al (cT e y) U (.next fC))(aa:nj fq fC)(ao:fq.pure=ab)(k:hV C f (aZ.fn h) fq K (.ret d)):cM C (.ref i) y (f+1) d:=by subst S;intro ak ah an af G p aj ai q;refine ta Y B (by rw[p.length,P]) G λV I D W=>?_;have L:f<=V.fuel:=cL D.fuel.symm;refine s6<|Z.runs R L [] I (D.sim B P G p) _ _ λm J H w=>?_;refine k V L J ((aa.sim H).noOwn ao) _ _ λae cX ad ac=>?_;obtain⟨ag,T⟩:=D.leave G (gV:=[]) ⟨w.forget.trans ad,nofun,nofun⟩ ac;exact q ae cX ag T
def aH.toK{st:aF}(f:vw c st=ab)(e:pS a (fo st) (a3 st) d=I f_)(r:σ.vals f_=aW)(i:∀w,w=σ.plus\/w=σ.strict->aj b a w (a3 st) d):aH b a c σ st (.next aW):=by subst r;have k:a5 λl y=>mH (b l) a y σ (a3 st)=I d:=((i _<|.inl rfl).and<|i _<|.inr rfl).mono λl y j=>bF j.1 (by split;rfl;exact j.2);cases Ih f with|name g=>exact k.succ λl y j=>oP (oU g) (bF j<|nM e rfl)|tup=>exact k.succ λl y j=>bF j<|nM e rfl
def aj.two(c:w=r\/w=n)(p:aj b a r f d)(j:aj b a n f d):aj b a w f d:=by rcases c with rfl|rfl;exact p;exact j
def rt(c:Nat):Nat:=(pd 7<|l5 c).length
def nL(a:Nat):aa:=.list<|(bO<|a+1).map λy=>cb (fl y).2.2
def Zo:∀{a:Nat},a<=6->vV [af a]=I (nL a)
 |0,_=>z|1,_=>z|2,_=>z|3,_=>z|4,_=>z|5,_=>z|6,_=>z
 |k+7,j=>absurd j<|m_.mpr<|dU 7 k
def DO(y k:Nat):mB [af y,af k]=I (af<|c1 y k):=by show I (aa.int<|if((k:Nat):Int)>((y:Nat):Int)then((k:Nat):Int)else((y:Nat):Int))=_;by_cases j:y<k;rw[if_pos<|rZ.mpr j,uv<|c2 j];rfl;rw[if_neg λx=>j<|rZ.mp x,Gs<|fD.mp j];rfl
def LP{c:Nat}(j:c<4):rt c<=6:=wi j z z z z
def D8(n i:Nat):Nat:=(4^(6+n)+2^(6+n)+1)*2^((6+n)*i)
noncomputable def Fv(n:Nat):Nat:=(2^(6+n) -1)^2
def Iv:List aF:=[bT 12,bT 13,bT 14]
def ad9(n i:Nat)(σ:aG):aG:=q "left" (af<|D8 n i%Fv n)<|q "quotient" (af<|D8 n i/Fv n)<|q "number" (af<|D8 n i)<|q "square" (af<|Fv n) σ
def aeY:∀{c:Nat},c<4->a5 λl k=>(bI 8 l).call "_law_word" [aN<|l5 c]=I (.str<|b6<|pd 7<|l5 c)|0,_=>a5.of 60 λl y=>by kernel_rfl|1,_=>a5.of 60 λl y=>by kernel_rfl|2,_=>a5.of 60 λl y=>by kernel_rfl|3,_=>a5.of 60 λl y=>by kernel_rfl
def Zl(r:c<4):iR [aa.str<|b6<|pd 7<|l5 c]=I (af<|rt c):=by have:=LP r;show(if bG (b6<|pd 7<|l5 c).length 1000000=ab then I (aa.int ((b6<|pd 7<|l5 c).length:Nat))else ag)=_;rw[rp,if_pos<|kI<|aC this z];rfl
section
variable(R:List aa)(wN di cE g6 cF:aa)(w L:Nat)
def FL:aG:=qj "reached" R<|q "shift" wN<|q "move" di<|q "place" cE<|q "word" g6<|q "cells" cF []
def FK:aG:=q "levels" (nL L)<|FL R wN di cE g6 cF
def aeE:aG:=q "width" (af<|6+w)<|FK R wN di cE g6 cF L
def B9:ai:=cw<|a3<|bT 10
def LA:ai:=cw B9
def Fj:ai:=((bD B9)[1]?).getD b5
def Qv(r:c<4)(p:y<=6)(h:iR [g6]=I (af y))(a:L=c1 y (rt c)):aH (bI 8) cY eC (FL R (aN<|l5 c) di cE g6 cF) (bT 10) (.next<|FK R (aN<|l5 c) di cE g6 cF L):=by
 have j:vV [af L]=I (nL L):=Zo<|a▸A_.mpr ⟨p,LP r⟩;have f:mB [af y,af<|rt c]=I (af L):=a▸DO y (rt c);refine aH.toK (d:=nL L) (f_:=[("levels",nL L)]) z z z λw b=>?_;rcases b with rfl|rfl<;>(
 refine aj.call (ds:=[af L]) z z (aL.cons (e:=B9) z ?_ aL.nil)<|sQ (k:=8) (g:=vV) z z j;refine aj.call z z (aL.cons (e:=LA) z (aj.call (ds:=[g6]) z z (aL.cons (e:=cw LA) z (aj.lf 9 g6 λl t=>z) aL.nil)<|jK (k:=8) (g:=iR) z h)<|aL.cons (e:=Fj) z ?_ aL.nil)<|jK (k:=8) (g:=mB) z f;refine aj.call z z (aL.cons (e:=cw Fj) z ?_ aL.nil)<|jK (k:=8) (g:=iR) z<|Zl r;refine aj.call z z ?_<|aeY r;exact aL.cons (e:=cw<|cw Fj) z (aj.lf 9 _ λl t=>z) aL.nil)
def Qw(h:w=n/4%3):aH (bI 8) cY eC (FK R wN di cE g6 (.list [af k,af j,af y,af n]) L) (bT 11) (.next<|aeE R wN di cE g6 (.list [af k,af j,af y,af n]) w L):=by
 have f:(((bu .FloorDiv (af n)<|af 4).bind λi=>bu .Mod i<|af 3).bind λp=>bu .Add (af 6) p)=I (af<|6+w):=by rw[oF _ z z,c',kr _ z,c',ik,h]
 exact aH.to (d:=af<|6+w) (f_:=[("width",af<|6+w)]) z z z z<|aj.leaf 12 (λl t=>z) f
def rS:aG:=q "levels" (nL L)<|qj "reached" R<|q "move" di<|q "place" cE<|q "cells" cF []
def yn:aG:=q "width" (af<|6+w)<|rS R di cE cF L
def hF:∀{c:Nat},c<3->c=0\/c=1\/c=2|0,_=>.inl rfl|1,_=>.inr (.inl rfl)|2,_=>.inr<|.inr rfl
def wj:∀{c:Nat},1<=c->c<=6->c=1\/c=2\/c=3\/c=4\/c=5\/c=6
 |0,j,_=>absurd j (O7 0)|1,_,_=>.inl rfl|2,_,_=>.inr (.inl rfl)|3,_,_=>.inr (.inr<|.inl rfl)|4,_,_=>.inr (.inr<|.inr<|.inl rfl)|5,_,_=>.inr (.inr<|.inr<|.inr<|.inl rfl)|6,_,_=>.inr<|.inr<|.inr<|.inr<|.inr rfl
 |k+7,_,j=>absurd j<|m_.mpr<|dU 7 k
def Qx(h:w<3)(g:1<=L)(f:L<=6):aI (bI 8) cY eC (yn R di cE cF w L) Iv (.next<|ad9 w L<|yn R di cE cF w L):=by rcases hF h with rfl|rfl|rfl<;>rcases wj g f with rfl|rfl|rfl|rfl|rfl|rfl<;>exact a5.of 60 λl y=>by kernel_rfl
end
noncomputable def iC:List br:=[(1,2,3),(2,1,3),(1,3,2),(0,2,4),(2,3,1),(0,1,5),(3,1,2),(-1,3,4),(2,0,4),(0,4,2),(3,2,1),(-2,3,5),(1,0,5),(0,5,1),(-1,1,6),(3,-1,4),(-1,4,3),(2,4,0),(4,0,2),(-2,2,6),(3,-2,5),(-2,5,3),(1,5,0),(5,0,1),(1,-1,6),(-1,6,1),(3,4,-1),(4,-1,3),(4,2,0),(-3,4,5),(-1,0,7),(2,-2,6),(-2,6,2),(3,5,-2),(5,-2,3),(5,1,0),(-3,5,4),(-2,0,8),(1,6,-1),(6,-1,1),(4,3,-1),(-4,4,6),(0,-1,7),(-3,2,7),(4,-3,5),(-1,7,0),(2,6,-2),(6,-2,2),(5,3,-2),(-5,5,6),(0,-2,8),(-3,1,8),(5,-3,4),(-2,8,0),(6,1,-1),(-4,6,4),(-2,-1,9),(-4,3,7),(4,-4,6),(0,7,-1),(2,-3,7),(-3,7,2),(4,5,-3),(7,-1,0)]
def abZ:((bO 7).all λi=>(gu i).all λs=>iC.contains s)=ab:=by decide+kernel
def zr(j:i<=6)(ao:s∈gu i):s∈iC:=iH.mp<|bZ.mp (bZ.mp abZ i<|ee.mpr<|jw j) s ao
noncomputable def C9(s:br):List Int:=[s.2.1 -s.1,s.2.2 -s.2.1,s.2.2 -s.1]
def Xg(s:br):aa:=.list<|(C9 s).map aa.int
def aeW(s:br):aa:=.list<|(C9 s).map λx=>.tuple [.int<|x/3,.int<|x%3]
def XO(s:br):ar:=⟨⟨((C9 s).filter λx=>decide (x<0)||decide (3<x)).flatMap λx=>fb (if 0<x then x -3 else -x).toNat 32++[9]⟩⟩
def tp(s:br):Nat:=((bO 7).find? λk=>(fl k).2.2.contains s).getD 0
section
variable(R:List aa)(di cF:aa)(L:Nat)(p:br)
def AB:aG:=q "gaps" (Xg p)<|rS R di (aN p) cF L
def t6:aG:=q "hem" (.str<|XO p)<|q "walls" (aeW p)<|AB R di cF L p
def FO:aG:=q "far" (.list [af<|tp p])<|t6 R di cF L p
def Qy:aH (bI 8) cY eC (rS R di (aN p) cF L) (bT 15) (.next<|AB R di cF L p):=a5.of 30 λl y=>by kernel_rfl
def Qz:∀p∈iC,aI (bI 8) cY eC (AB R di cF L p) [bT 16,bT 17] (.next<|t6 R di cF L p):=by
 unfold iC;repeat refine a6 (a5.of 60 λl y=>by kernel_rfl) ?_
 exact dC
def QB:∀p∈iC,aH (bI 8) cY eC (FO R di cF L p) (bT 19) (.next<|FO R di cF L p):=by
 unfold iC;repeat refine a6 (a5.of 60 λl y=>by kernel_rfl) ?_
 exact dC
end
def V_:((bO 7).all λi=>(gu i).all λs=>((bO<|i+1).filter λk=>(fl k).2.2.contains s)==[tp s])=ab:=by decide+kernel
def V'(j:i<=6)(ao:s∈gu i):((bO<|i+1).filter λk=>(fl k).2.2.contains s)=[tp s]:=bL<|bZ.mp (bZ.mp V_ i<|ee.mpr<|jw j) s ao
def q9:ai:=a3<|bT 18
section
variable(R:List aa)(di cF:aa){L:Nat}{p:br}
def YM:∀{L:Nat},1<=L->L<=6->dw (bI 8) cY (t6 R di cF L p).plus (d_ q9).target (d_ q9).iter ((bO<|L+1).map af)/\dw (bI 8) cY (t6 R di cF L p).strict (d_ q9).target (d_ q9).iter ((bO<|L+1).map af):=by intro L g f;rcases wj g f with rfl|rfl|rfl|rfl|rfl|rfl<;>exact⟨dw.lf 20 _ λl t=>by kernel_rfl,dw.lf 20 _ λl t=>by kernel_rfl⟩
def QA(x:1<=L)(f:L<=6)(ao:p∈gu L):aH (bI 8) cY eC (t6 R di cF L p) (bT 18) (.next<|FO R di cF L p):=by
 have g:=YM R di cF (p:=p) x f;refine aH.toK (d:=.list [af<|tp p]) (f_:=[("far",.list [af<|tp p])]) z z z λw c=>?_;have n:dw (bI 8) cY w (d_ q9).target (d_ q9).iter ((bO<|L+1).map af):=by rcases c with rfl|rfl;exact g.1;exact g.2
 have y:(bO<|L+1).length<=1000000:=by rw[Gf];exact aC (jx f) z
 rw[show(aa.list [af<|tp p])=.list (((bO<|L+1).filter λk=>(fl k).2.2.contains p).map af)by rw[V' f ao];rfl];have h:∀r∈bO (L+1),d3 (nL L) (af r)=I (cb (fl r).2.2):=λr q=>by have q:=ee.mp q;have:=Lk (l:=(bO<|L+1).map λA=>cb (fl A).2.2) (j:=r) (by rw[eT,Gf];exact q) (by exact aC (m9 q)<|aC f<|by decide);rw[Gd,List.getElem_range]at this;exact this
 rcases c with rfl|rfl<;>exact aj.zS (e:=q9) (bO<|L+1) af af (λk=>(fl k).2.2.contains p) z n (λr=>z) (λr q=>bS.cmp (op:=.In) (a:=aN p) (b:=cb (fl r).2.2) z (aj.lf 9 (aN p) λs t=>z) (aj.sub (a:=nL L) (b:=af r) z (aj.lf 9 (nL L) λs t=>z) (aj.lf 9 (af r) λs t=>z) λs=>(Ll s _ _).trans<|h r q) λs=>nG _ _) (λr q m=>aj.lf 9 (af r) λs t=>z) y
end
noncomputable def CY(s:Nat):List Nat:=fb s 32++[9]
def gI(s:Nat):aa:=.str ⟨⟨CY s⟩⟩
def lT(s:Nat)(g lo:Int)(q:Nat):List Nat×List Nat:=(CY s++fb g.toNat 9++fb (1 -g -lo).toNat 32++fb q 32,CY s++fb (1 -g -lo).toNat 32++[9]++fb (g.toNat+q) 32)
noncomputable def k6(m:List Nat×List Nat):aa:=.list [.str ⟨⟨m.1⟩⟩,.str ⟨⟨m.2⟩⟩]
def gi(c s:Nat):List Nat×List Nat:=lT s (gr c).1 (gr c).2.2 1
noncomputable def Dx(s:br):Int:=64*s.1+s.2.1
def zG(c:Nat):List Int:=(mR c).map Dx
def RB(a:Nat):List br:=(bO<|a+1).flatMap λy=>(fl y).2.2
def q8(c i:Nat):List br:=(RB i).filter λs=>(zG c).contains<|Dx s
section
variable(R:List aa)(cE di cF:aa)(L m f:Nat)
def BQ:aG:=q "front" (gI f)<|rS R di cE cF L
def FP:aG:=q "brims" (k6<|gi m f)<|BQ R cE di cF L f
def QD(c:f=n/12%4):aH (bI 8) cY eC (rS R di cE (.list [af k,af j,af y,af n]) L) (bT 20) (.next<|BQ R cE di (.list [af k,af j,af y,af n]) L f):=by have e:f<4:=c▸h' _ z;refine aH.to (d:=gI f) (f_:=[("front",gI f)]) z z z z ?_;refine aj.leaf 12 (x:=(((bu .FloorDiv (af n)<|af 12).bind λi=>bu .Mod i<|af 4).bind λp=>bu .Mult (.str " ") p).bind λi=>bu .Add i<|.str "\t") (λl t=>z) ?_;rw[oF _ z z,c',kr _ z,c',<-c];exact wi e z z z z
def gO{m:Nat}(j:m<4):m=0\/m=1\/m=2\/m=3:=wi j (.inl rfl) (.inr<|.inl rfl) (.inr<|.inr<|.inl rfl)<|.inr<|.inr<|.inr rfl
def QE(r:m<4)(d:f<4):aH (bI 8) cY eC (BQ R cE (aN<|gr m) cF L f) (bT 21) (.next<|FP R cE (aN<|gr m) cF L m f):=by rcases gO r with rfl|rfl|rfl|rfl<;>rcases gO d with rfl|rfl|rfl|rfl<;>exact a5.of 60 λl y=>by kernel_rfl
def FQ:aG:=q "found" (.iX<|zG m)<|FP ((mR m).map aN) cE di cF L m f
def QF(r:m<4):aH (bI 8) cY eC (FP ((mR m).map aN) cE di cF L m f) (bT 22) (.next<|FQ cE di cF L m f):=by rcases gO r with rfl|rfl|rfl|rfl<;>exact a5.of 300 λl y=>by kernel_rfl
def xe:aG:=q "found" (.iX<|zG m)<|q "brims" (k6<|gi m f)<|q "front" (gI f)<|q "levels" (nL L)<|q "place" cE []
def AE:aG:=q "due" (cb<|q8 m L)<|xe cE L m f
end
noncomputable def ry:List (Nat×Nat):=[(0,1),(0,2),(0,3),(0,4),(0,5),(0,6),(1,4),(1,5),(1,6),(2,6),(3,6)]
def LX:∀x∈ry,x.1<4/\1<=x.2/\x.2<=6:=by decide
def QG(cE:aa)(s:Nat):∀x∈ry,aH (bI 8) cY eC (xe cE x.2 x.1 s) (bT 23) (.next<|AE cE x.2 x.1 s):=by
 unfold ry;repeat refine a6 (a5.of 300 λl y=>by kernel_rfl) ?_
 exact dC
noncomputable def yZ(s:br):List br:=[(s.1 -1,s.2.1 -1,s.2.2 -1),(s.1+1,s.2.1 -2,s.2.2 -2),(s.1,s.2.1,s.2.2 -3)]
noncomputable def p7(s:br):Int:=(c1 s.1<|c1 s.2.1 s.2.2)/3
noncomputable def p_(s:br):Int:=(c_ s.1<|c_ s.2.1 s.2.2)/3
abbrev es:=Int×Int
def kg(s:br):List es:=(yZ s).map λg=>(p7 g,p_ g)
def og(q:es):aa:=.tuple [.int q.1,.int q.2]
def Vm:∀s∈iC,aj (dB 7) cG [("place",aN s)] (a3<|eG 0) (.list<|(kg s).map og):=by
 unfold iC;repeat refine a6 (a5.of 60 λl y=>by kernel_rfl) ?_
 exact dC
noncomputable def d4:List es:=[(0,0),(1,-2),(1,-1),(2,-2),(2,-1)]
def ba(q:es):Int:=64*q.1+q.2
def p8(c:Nat)(q:es):Bool:=decide (q.1<=(gr c).1)&&decide ((gr c).2.2<=q.2)
def Vk:(iC.all λs=>(kg s).length==3&&(kg s).all λq=>d4.contains q)=ab:=by decide+kernel
def Vc:((bO 4).all λc=>iC.all λs=>((kg s).all λq=>p8 c q)==(zG c).contains (Dx s))=ab:=by decide+kernel
noncomputable def rQ(p:Bool):aa:=.str<|if p then "True"else "False"
def N4(k:List Nat):aa:=(t8 ⟨⟨k++[120,32,9]⟩⟩).getD .none
def tb(c s:Nat):aa:=.list [N4 (gi c s).1,N4 (gi c s).2]
def lj(c:Nat)(q:es):aa:=.list [rQ<|p8 c q,rQ<|p8 c q]
def Fn(q:es):bQ:=kA (.int q.1,.int q.2)
def aeL(r:c<4)(d:s<4):∀q∈d4,aj (dB 7) cG (Fn q++([("front",gI s),("goals",tb c s)]:bQ)) (a3 nX) (lj c q):=by unfold d4;rcases gO r with rfl|rfl|rfl|rfl<;>rcases gO d with rfl|rfl|rfl|rfl<;>exact a6 (a5.of 60 λl y=>by kernel_rfl) (a6 (a5.of 60 λl y=>by kernel_rfl)<|a6 (a5.of 60 λl y=>by kernel_rfl)<|a6 (a5.of 60 λl y=>by kernel_rfl)<|a6 (a5.of 60 λl y=>by kernel_rfl) dC)
def aaE(c:List Int)(a:List aa):∀q∈d4,bS (dB 7) cG (("known",.eb c a)::Fn q) (a3 th) (!c.contains (ba q)):=by unfold d4;exact a6 (a5.of 20 λl y=>by kernel_rfl) (a6 (a5.of 20 λl y=>by kernel_rfl)<|a6 (a5.of 20 λl y=>by kernel_rfl)<|a6 (a5.of 20 λl y=>by kernel_rfl)<|a6 (a5.of 20 λl y=>by kernel_rfl) dC)
def R':∀q∈d4,aj (dB 7) cG (Fn q) (tZ nX) (.int<|ba q):=by unfold d4;exact a6 (a5.of 20 λl y=>by kernel_rfl) (a6 (a5.of 20 λl y=>by kernel_rfl)<|a6 (a5.of 20 λl y=>by kernel_rfl)<|a6 (a5.of 20 λl y=>by kernel_rfl)<|a6 (a5.of 20 λl y=>by kernel_rfl) dC)
def Oi(c:i∈d4)(j:p∈d4)(d:ba i=ba p):i=p:=by have:=bZ.mp (bZ.mp (show(d4.all λi=>d4.all λp=>ba i !=ba p||i==p)=ab by decide+kernel) i c) p j;simpa[d]using this
def Oj{t:List es}(n:∀m∈t,m∈d4){q:es}(j:q∈d4):(t.map ba).contains (ba q)=t.contains q:=by rw[ui,iH,iH,hM];exact⟨λ⟨m,ae,f⟩=>Oi (n m ae) j f▸ae,λae=>⟨q,ae,rfl⟩⟩
def afl{q:es}(j:q∈d4):∀{t:List es},(∀a∈t,a∈d4)->q∈t->od (ba q) (t.map ba) (t.map<|lj c)=I (lj c q):=by
 intro t;induction t with
 |nil=>
  exact @λ_=>λj=>absurd j mn
 |cons a t d=>
  exact @λn=>λr=>by show(if ba q=ba a then I (lj c a)else od (ba q) (t.map ba) (t.map<|lj c))=_;by_cases f:ba q=ba a;rw[if_pos f,Oi j (n a eB) f];rw[if_neg f];exact d (λb i=>n b<|eA _ i)<|(cJ.mp r).resolve_left λg=>f<|g▸rfl
def gf(t:List es)(q:es):List es:=if t.contains q then t else t++[q]
def Rr{q:es}:q∈gf t q:=by unfold gf;by_cases j:t.contains q=ab;rw[if_pos j];exact iH.mp j;rw[if_neg j];exact n8 _<|cm.mpr rfl
def Rt{q m:es}(j:m∈t):m∈gf t q:=by unfold gf;split;exact j;exact n7 _ j
def H3{q:es}(n:∀m∈t,m∈d4)(j:q∈d4):∀m∈gf t q,m∈d4:=λm ae=>by unfold gf at ae;split at ae;exact n m ae;rcases ml.mp ae with ae|ae;exact n m ae;exact cm.mp ae▸j
def H4{q:es}:(gf gv q).length<=gv.length+1:=by unfold gf;split;exact lp _;rw[hx];exact bM _
abbrev tk(c:Nat)(t:List es):List Int×List aa:=(t.map ba,t.map<|lj c)
section
variable{m f:Nat}(hm:m<4)(hf:f<4)
include hm hf
def Vl:∀(b t:List es),(∀r∈b,r∈d4)->(∀r∈t,r∈d4)->t.length+b.length<=1000->a5 λl D=>oL (hg 7 l) D (gI f) (tb m f) (b.map og) (tk m t)=I (tk m<|b.foldl gf t):=by
 intro b;induction b with
 |nil=>
  exact @λt=>λ_ _ _=>a5.nU λl D=>rfl
 |cons a b c=>
  exact @λt=>λi p y=>by
   have d:=i a eB;rw[gx]at y;have C:=c (gf t a) (λr ae=>i r<|eA _ ae) (H3 p d) (by have:=H4 (gv:=t) (q:=a);exact aC (jv this _)<|aC (cL<|ef _ _ _) y);have g:=aaE (t.map ba) (t.map<|lj m) a d;refine(((g.and<|R' a d).and<|aeL hm hf a d).and C).mono λl D j=>?_;obtain⟨⟨⟨g,A⟩,B⟩,k⟩:=j;rw[Oj p d]at g;refine bF (show NQ (og a)=I (.int a.1,.int a.2)from rfl)<|bF g ?_;rw[xr];unfold gf at k;unfold gf;by_cases w:t.contains a=ab;rw[w,if_pos rfl]at k;rw[w,if_pos rfl];exact k;rw[if_neg w]at k;rw[if_neg w,(jX _).mp w];refine bF A<|bF (show zy (aa.int<|ba a)=I (ba a)from rfl) ?_;have s:(!(t.map ba).contains (ba a)&&bG (t.map ba).length 100000)=ab:=by rw[Oj p d,(jX _).mp w,eT];exact kI<|aC (aC (b_ _ _) y) z
   rw[if_pos s];refine bF B ?_;rw[tk,kH,kH]at k;exact k
end
def Ki(c:Nat)(t:List es)(y:Int)(b:List es):bQ:=[("known",.eb (t.map ba)<|t.map<|lj c),("form",.int y),("ends",.list<|b.map og)]
def Cr:ai:=dT<|a3 o2
def X3(c:Nat)(t:List es)(e:Int)(b:List es):∀d∈d4,aj (dB 7) (jG cG Cr) (pQ cG Cr (Ki c t e b)<|og d) (ek<|dT<|fZ Cr) (.int<|ba d):=by unfold d4;exact a6 (a5.of 20 λl y=>by kernel_rfl) (a6 (a5.of 20 λl y=>by kernel_rfl)<|a6 (a5.of 20 λl y=>by kernel_rfl)<|a6 (a5.of 20 λl y=>by kernel_rfl)<|a6 (a5.of 20 λl y=>by kernel_rfl) dC)
def ael(i p g:Bool):hh .Eq (.list [rQ i,rQ p,rQ g]) (.list [.str "True",.str "True",.str "True"])=I ([i,p,g].all id):=by cases i<;>cases p<;>cases g<;>exact z
def Yt{n:Type}{k:List n}(j:k.length=3):∃i p g,k=[i,p,g]:=by match k,j with|[i,p,g],_=>exact⟨i,p,g,rfl⟩
section
variable{m:Nat}{gv:List es}(zm:∀x∈gv,x∈d4)
include zm
def WI(g:y=0\/y=1)(e:d.length=3)(k:∀x∈d,x∈gv):bS (dB 7) cG (Ki m gv y d) (a3 o2) (d.all λq=>p8 m q):=by
 refine bS.cmp (op:=.Eq) (a:=.list<|d.map λq=>rQ<|p8 m q) (b:=.list [.str "True",.str "True",.str "True"]) z ?_ (aj.lf 12 _ λl t=>z) λl=>?_;refine aj.k7 d og _ z (dw.lf 9 (d.map og) λl t=>z) (λj=>z) (λj p=>?_) (by rw[e];exact z);have w:=zm j<|k j p;have f:∀l,(dB 7 l).item (.eb (gv.map ba)<|gv.map<|lj m) (.int<|ba j)=I (lj m j):=λl=>afl w zm<|k j p;have h:∀l,(dB 7 l).item (lj m j) (.int y)=I (rQ<|p8 m j):=λl=>by rcases g with rfl|rfl<;>exact z
 refine aj.sub (a:=lj m j) (b:=.int y) z (aj.sub (a:=.eb (gv.map ba)<|gv.map<|lj m) (b:=.int<|ba j) z (aj.lf 9 _ λl t=>z) ?_ f) (aj.lf 9 _ λl t=>z) h;exact X3 m gv y d j w;obtain⟨j,n,r,rfl⟩:=Yt e;exact ael _ _ _
def Kd(g:y=0\/y=1){b:List es}(e:b.length=3)(a:∀x∈b,x∈gv)(s:aa)(c:k.length<=1000):a5 λd f=>td (hg 7 d) f s (.list<|b.map og) (tk m gv) y k=I (if b.all (λq=>p8 m q)then k++[s]else k):=(WI zm g e a).mono λd f j=>bF j<|if_pos<|kI<|aC c z
end
def Kc:∀{b t:List es},(∀m∈t,m∈b.foldl gf t)/\∀m∈b,m∈b.foldl gf t:=by
 intro b;induction b with
 |nil=>
  exact @λt=>⟨λm j=>j,λm j=>absurd j mn⟩
 |cons f b c=>
  exact @λt=>by have g:=c (t:=gf t f);refine⟨λm j=>g.1 m<|Rt j,λm j=>?_⟩;rcases cJ.mp j with rfl|j;exact g.1 _ Rr;exact g.2 m j
def Kb:∀{b t:List es},(∀m∈b,m∈d4)->(∀m∈t,m∈d4)->∀m∈b.foldl gf t,m∈d4:=by
 intro b;induction b with
 |nil=>
  exact @λt=>λ_ j=>j
 |cons f b c=>
  exact @λt=>λi n=>c (λm j=>i m<|eA _ j)<|H3 n<|i f eB
def Wu:∀{bf gv:List es},(bf.foldl gf gv).length<=gv.length+bf.length:=by
 intro bf;induction bf with
 |nil=>
  exact @λgv=>bM _
 |cons f bf c=>
  exact @λgv=>by have:=c (gv:=gf gv f);have:=H4 (gv:=gv) (q:=f);rw[xr,gx];exact aC ‹(afR gf (gf gv f) bf).length<=_›<|aC (jv this _)<|cL<|ef _ _ _
def mP(c:Nat)(s:br):Bool:=(kg s).all λq=>p8 c q
def rL(c:Nat)(t:List es)(k:List br):om:=(tk c t,k.map aN,k.map aN)
def JN(ao:s∈iC):(kg s).length=3/\∀q∈kg s,q∈d4:=by have:=bZ.mp Vk s ao;rw[c0,beq_iff_eq,bZ]at this;exact⟨this.1,λq n=>iH.mp<|this.2 q n⟩
section
variable{m f:Nat}(hm:m<4)(hf:f<4)
include hm hf
def aeB(ao:s∈iC)(A:∀G∈t,G∈d4)(y:t.length+3<=1000)(q:k.length<=1000):a5 λD E=>Dh (hg 7 D) E (gI f) (tb m f) (aN s) (rL m t k)=I (rL m ((kg s).foldl gf t)<|if mP m s then k++[s]else k):=by
 obtain⟨e,w⟩:=JN ao;have i:=Vm s ao;have C:=Vl hm hf (kg s) t w A (by rw[e];exact y);have r:=Kb w A;have B:(k.map aN).length<=1000:=by rw[eT];exact q
 have g:=Kd (m:=m) r (.inl rfl) e Kc.2 (aN s) B;have d:=Kd (m:=m) r (.inr rfl) e Kc.2 (aN s) B;refine(((i.and C).and g).and d).mono λD E j=>?_;obtain⟨⟨⟨i,C⟩,g⟩,d⟩:=j;refine bF i<|bF (show lC (.list<|(kg s).map og)=I _ from rfl)<|bF C<|bF g<|bF d ?_;unfold mP rL;split;rw[kH];rfl;rfl
def ZU:∀(a:List br)(t:List es)(k:List br),(∀s∈a,s∈iC)->(∀B∈t,B∈d4)->t.length+3*a.length<=1000->k.length+a.length<=1000->a5 λd A=>zk (hg 7 d) A (gI f) (tb m f) (a.map aN) (rL m t k)=I (rL m ((a.flatMap kg).foldl gf t)<|k++a.filter (mP m)):=by
 intro a;induction a with
 |nil=>
  exact @λt k=>λ_ _ _ _=>a5.nU λd A=>congrArg (λk=>I<|rL m t k) (pl k).symm
 |cons s a c=>
  exact @λt k=>λao b g q=>by
   rw[gx]at g q;obtain⟨e,w⟩:=JN<|ao s eB;have i:=Wu (bf:=kg s) (gv:=t);have y:(if mP m s then k++[s]else k).length<=k.length+1:=by split;rw[hx];exact bM _;exact lp _
   have r:=c ((kg s).foldl gf t) (if mP m s then k++[s]else k) (λB ae=>ao B<|eA _ ae) (Kb w b) (by exact aC (jv (e▸i) _) (aC (cL ((hy t.length 3<|3*a.length).trans (congrArg (t.length+·)<|fU 3<|3*a.length))) g)) (by exact aC (jv y _)<|aC (cL<|ef _ _ _) q);refine((aeB hm hf (ao s eB) b (by exact aC (gy (dU 3<|3*a.length) _) g)<|by exact aC (b_ _ _) o).and r).mono λd A j=>bF j.1 ?_;rw[j.2,xq,List.foldl_append,kG];refine congrArg (λk=>I<|rL m _ k) ?_;split;rw[i9];rfl;rfl
end
def abY:((bO 7).all λi=>bG (gu i).length 64)=ab:=by decide+kernel
def aca(i:Nat):List es:=((gu i).flatMap kg).foldl gf []
def acC(k:List aa)(r:c<4)(g:1<=i)(f:i<=6):aj (dB 7) cG (Ao (tk c<|aca i,k,k)) (a3<|gX 2) (.list [.list k,.list k,.list []]):=by rcases gO r with rfl|rfl|rfl|rfl<;>rcases wj g f with rfl|rfl|rfl|rfl|rfl|rfl<;>exact a5.of 60 λa y=>by kernel_rfl
def Vd(r:c<4)(f:i<=6):(gu i).filter (mP c)=q8 c i:=List.filter_congr λs ao=>bL<|bZ.mp (bZ.mp Vc c<|ee.mpr r) s<|zr f ao
def S3(r:c<4)(d:s<4)(g:1<=i)(b:i<=6):a5 λl k=>tc (hg 7 l) k [cb<|gu i,gI s,tb c s]=I (.list [cb<|q8 c i,cb<|q8 c i,.list []]):=by have y:(gu i).length<=64:=h_.mp<|bZ.mp abY i<|ee.mpr<|jw b;have q:∀t∈([]:List es),t∈d4:=nofun;have e:=ZU r d (gu i) [] [] (λw ao=>zr b ao) q (by rw[Ge];exact aC (cL<|g9 _)<|aC (kJ 3 y)<|by decide) (by rw[Ge];exact aC (cL<|g9 _)<|aC y<|by decide);rw[Gj,Vd r b]at e;exact(e.and<|acC ((q8 c i).map aN) r g b).mono λl k j=>bF j.1 j.2
def vz(c i:Nat):aa:=.list [cb<|q8 c i,cb<|q8 c i,.list []]
def S2(r:c<4)(g:1<=i)(f:i<=6):hh .NotEq (vz c i) (vz c i)=I au:=by rcases gO r with rfl|rfl|rfl|rfl<;>rcases wj g f with rfl|rfl|rfl|rfl|rfl|rfl<;>kernel_rfl
def Cq:ai:=dT<|a3<|bT 24
def Ro:ai:=((bD Cq)[0]?).getD b5
def W7:ai:=((bD Cq)[2]?).getD b5
def QH(cE:aa)(r:c<4)(d:s<4)(g:1<=i)(e:i<=6):aH (bI 8) cY eC (AE cE i c s) (bT 24) (.next<|AE cE i c s):=by
 refine aH.skip z<|bS.cmp (op:=.NotEq) (a:=vz c i) (b:=vz c i) z ?_ (aj.lf 12 (vz c i) λl t=>z) λl=>S2 r g e;refine aj.call (ds:=[cb<|gu i,gI s,tb c s]) z z ?_<|Tb<|S3 r d g e;rw[show bD (dT<|a3<|bT 24)=[Ro,((bD Cq)[1]?).getD b5,W7]by kernel_rfl];refine aL.cons z ?_<|aL.cons z (aj.lf 12 (gI s) λl t=>z)<|aL.cons z ?_ aL.nil;rcases wj g e with rfl|rfl|rfl|rfl|rfl|rfl<;>exact a5.of 120 λl y=>by kernel_rfl
 rcases gO r with rfl|rfl|rfl|rfl<;>rcases gO d with rfl|rfl|rfl|rfl<;>exact a5.of 60 λl y=>by kernel_rfl
def ku(y:Nat):aF:=aJ (df<|bT 25) y
def v5(y:Nat):aF:=aJ (df<|ku 1) y
section
variable(iE cF hH eS dD:aa)
def rX:aG:=q "divided" iE<|q "corner" cF<|q "brims" hH<|q "front" eS<|q "place" dD []
def mi(k p:List Nat):aG:=q "lead" (.str ⟨⟨k⟩⟩)<|q "brim" (.str ⟨⟨p⟩⟩)<|rX iE cF hH eS dD
noncomputable def pZ(k:List Nat)(a:Nat):Nat:=k.foldl (λg m=>if m=32 then g+1 else g+(a -g%a)) 0
noncomputable def nN:List Nat->Nat->Nat->Nat|[],k,c=>c1 k c|x::a,k,c=>if x=9 then nN a 0 (c1 k c)else nN a (k+1) c
def rn(k p:List Nat):List br:=(ju 1<|nN (k++9::p) 0 0+1).map λ(a:Nat)=>((((a:Nat):Int),((pZ k a:Nat):Int),((pZ p a:Nat):Int)):br)
def xj(k p:List Nat):aG:=q "laid" (cb<|rn k p)<|mi iE cF hH eS dD k p
end
def B1:aZ:=aZ.fn<|bY mc
def pT(y:Nat):aF:=aJ (bw mc) y
noncomputable def dY(k:List Nat):aa:=.str ⟨⟨k⟩⟩
section
variable(cx:List Nat)(s:Nat)
def zE:aG:=[("lead",.val<|dY cx),("size",.val<|af s)]
def tj(g:Nat):Option Nat->aG|none=>q "column" (af g) (zE cx s)|some m=>q "column" (af g)<|q "sign" (.str<|dt m)<|zE cx s
def Lx(g m:Nat):aG:=q "sign" (.str<|dt m)<|q "column" (af g)<|zE cx s
noncomputable def CG(g m:Nat):Nat:=if m=32 then g+1 else g+(s -g%s)
variable{s}(oN:0<s)
include oN
def aeu(g:Nat)(ae:m=32\/m=9):aH (bI 7) B1 [] (Lx cx s g m) (aJ (df<|pT 1) 0) (.next<|tj cx s (CG s g m)<|I m):=by
 have f:((bu .Mod (af g)<|af s).bind λp=>bu .Sub (af s) p)=I (af<|s -g%s):=by rw[kr _ oN,c',rN<|c2<|h' _ oN]
 rcases ae with rfl|rfl;exact aH.yG "column" .Add (a:=af g) (b:=af 1) (d:=af<|g+1) z z (aj.lf 12 _ λl t=>z) (λl=>ik _ _) z z;exact aH.yG "column" .Add (a:=af g) (b:=af<|s -g%s) (d:=af<|g+(s -g%s)) z z (aj.leaf 12 (λl t=>z) f) (λl=>ik _ _) z z
def ZG:∀(k:List Nat)(g:Nat)(d:Option Nat),(∀m∈k,m=32\/m=9)->∃w,hW (bI 7) B1 [] (tj cx s g d) (fy<|pT 1) (df<|pT 1) (k.map λm=>.str<|dt m) (.next<|tj cx s (k.foldl (CG s) g) w):=by
 intro k;induction k with
 |nil=>
  exact @λg d=>λ_=>⟨d,hW.nil⟩
 |cons m k a=>
  exact @λg d=>λj=>by obtain⟨w,e⟩:=a (CG s g m) (I m) λb i=>j b<|eA _ i;refine⟨w,?_⟩;refine hW.cons (aO:=[("sign",.str<|dt m)]) z ?_ e;rw[(z:df (pT 1)=[aJ (df<|pT 1) 0]),show(tj cx s g d).vals [("sign",.str<|dt m)]=Lx cx s g m by cases d<;>exact z];exact aI.cons (aeu cx oN g<|j m eB) aI.nil
def Jo(j:∀m∈cx,m=32\/m=9):a5 λl a=>(bI 8 l).call "_law_column" [dY cx,af s]=I (af<|pZ cx s):=by refine I8 (k:=7) (G:=eY mc []) z z (λl=>z) z z ?_;show aI (bI 7) B1 [] (cT (bt mc) [dY cx,af s]) (bw mc) _;rw[show cT (bt mc) [dY cx,af s]=zE cx s by kernel_rfl,(z:bw mc=[pT 0,pT 1,pT 2])];obtain⟨d,ae⟩:=ZG cx oN cx 0 ag j;refine aI.cons (aW:=tj cx s 0 ag) ?_<|aI.cons (aW:=tj cx s (pZ cx s) d) ?_<|aI.ret ?_;exact aH.name "column" (af 0) z z z z<|aj.lf 9 (af 0) λl t=>z;exact aH.loop z z z (dw.lf 9 _ λl t=>z) z ae;exact aH.ret z (by cases d<;>exact aj.lf 9 _ λl t=>z)
end
section
variable{O:Nat->b0}{S:aZ}{aO:bQ}{t e:ai}{as ds:List aa}
def dw.range(i:yh e=ab)(d:lI e="range")(c:(S.global (lI e)&&(aO.lookup<|lI e).isNone)=ab)(b:aL O S aO (bD e) as)(a:gZ as=I ds):dw O S aO t e ds:=by obtain⟨s,q,y,r,rfl,g,k⟩:=Dq i;exact b.succ λl m j=>eO c<|eO (beq_iff_eq.mpr d)<|bF j a
def dw.en(i:Dt e=ab)(j:aj O S aO e (.list ds)):dw O S aO t e ds:=by
 cases Ld i with|mk g=>
 exact j.succ λl y j=>bF j rfl
end
def aaA(b:List br):hh .NotEq (cb b) (cb b)=I au:=by
 have e:∀i:br,dQ 8 (aN i) (aN i)=I ab:=λi=>by show I ((i.1==i.1)&&((i.2.1==i.2.1)&&((i.2.2==i.2.2)&&ab)))=_;rw[beq_self_eq_true,beq_self_eq_true,beq_self_eq_true];rfl
 have j:∀b:List br,j4 (dQ 8) (b.map aN) (b.map aN)=I ab:=λb=>by induction b with|nil=>rfl|cons i b g=>show(dQ 8 (aN i)<|aN i).bind (λk=>(j4 (dQ 8) (b.map aN)<|b.map aN).map λw=>k&&w)=_;rw[e,g];rfl
 show(if(b.map aN).length==(b.map aN).length then j4 (dQ 8) (b.map aN) (b.map aN)else I au).map (!·)=_;rw[beq_self_eq_true,if_pos rfl,j];rfl
noncomputable def kB:List Nat->List (List Nat)
 |[]=>[[]]
 |x::k=>if x=9 then[]::kB k else match kB k with|h::r=>(x::h)::r|[]=>[[x]]
def ot:List (List Nat×List Nat):=(bO 4).flatMap λs=>(bO 4).flatMap λc=>d4.flatMap λq=>[((lT s q.1 q.2 0).1,(gi c s).1),((lT s q.1 q.2 0).2,(gi c s).2)]
noncomputable def FE(k:List Nat):Bool:=k.all λm=>m==32||m==9
def Xo(x:List Nat×List Nat):Bool:=FE x.1&&FE x.2&&bG x.1.length 50&&bG x.2.length 50&&bG (nN (x.1++9::x.2) 0 0) 5&&km (tR ⟨⟨x.1++9::x.2⟩⟩ "\t") (.list<|(kB<|x.1++9::x.2).map dY)&&bG (kB<|x.1++9::x.2).length 50&&(kB<|x.1++9::x.2).all (λw=>bG w.length 50)&&km (dj (mC [.list<|(kB<|x.1++9::x.2).map λw=>af w.length])<|mD [.list<|(kB<|x.1++9::x.2).map λw=>af w.length]) (af<|nN (x.1++9::x.2) 0 0)
def Xp:(ot.all Xo)=ab:=by decide+kernel
structure Ho(l b:List Nat):Prop where
 FH:∀x∈l,x=32\/x=9
 aea:∀x∈b,x=32\/x=9
 LK:l.length<=50
 LC:b.length<=50
 K:nN (l++9::b) 0 0<=5
 split:tR ⟨⟨l++9::b⟩⟩ "\t"=some (.list<|(kB<|l++9::b).map dY)
 ls:(kB<|l++9::b).length<=50
 ZZ:∀r∈kB (l++9::b),r.length<=50
 max:dj (mC [.list<|(kB<|l++9::b).map λr=>af r.length]) (mD [.list<|(kB<|l++9::b).map λr=>af r.length])=some (af<|nN (l++9::b) 0 0)
def NI(j:FE k=ab):∀m∈k,m=32\/m=9:=λm ae=>by have:=bZ.mp j m ae;simpa using this
def Kw(j:x∈ot):Ho x.1 x.2:=by have:=bZ.mp Xp x j;have g:=(aA<|aA<|aA<|aA<|aA<|aA<|aA<|aA this);have q:=(aM<|aA<|aA<|aA<|aA<|aA<|aA<|aA this).2;have e:=m8 (aM<|aA<|aA<|aA<|aA<|aA<|aA this).2;have k:=m8 (aM<|aA<|aA<|aA<|aA<|aA this).2;have w:=m8 (aM<|aA<|aA<|aA<|aA this).2;have f:=(aM<|aA<|aA<|aA this).2;have y:=m8 (aM<|aA<|aA this).2;have s:=(aM<|aA this).2;have a:=(aM this).2;exact⟨NI g,NI q,e,k,w,k3 f,y,λb i=>m8<|bZ.mp s b i,k3 a⟩
def yU(j:i.length+p.length<=1000):bu .Add (dY i) (dY p)=I (dY<|i++p):=by show(if bG ((⟨⟨i⟩⟩:ar).length+(⟨⟨p⟩⟩:ar).length) 1000000=ab then I (aa.str<|⟨⟨i⟩⟩++⟨⟨p⟩⟩)else ag)=_;rw[if_pos<|kI<|aC j z];refine congrArg (λm=>I<|aa.str m)<|tW ?_;show((⟨i⟩:Array Nat)++(⟨p⟩:Array Nat)).toList=_;rw[Ol]
def Zk(j:k.length<=1000):iR [dY k]=I (af k.length):=by show(if bG k.length 1000000=ab then I (aa.int (k.length:Nat))else ag)=_;rw[if_pos<|kI<|aC j z];rfl
def acg:∀{K:Nat},K<=5->gZ [af 1,af<|2+K]=I ((ju 1<|K+1).map af)
 |0,_=>z|1,_=>z|2,_=>z|3,_=>z|4,_=>z|5,_=>z
 |k+6,j=>absurd j<|m_.mpr<|dU 6 k
def Qp(j:tR m b=I d):a5 λl k=>(bI 8 l).en (.str m) "split" [.str b]=I d:=⟨0,λl a _ _=>j⟩
def oA:ai:=a3<|v5 0
def y6:ai:=(d_ oA).iter
def CQ:ai:=((bD y6)[1]?).getD b5
def Vg:ai:=ek CQ
def vM:ai:=cw Vg
def Vh:ai:=(d_ vM).iter
def oB(y:Nat):ai:=((ft<|fZ oA)[y]?).getD b5
section
variable(iE cF hH eS dD:aa){l b:List Nat}(G:Ho l b)
include G
def Y9:dw (bI 8) cY (mi iE cF hH eS dD l b).plus (d_ oA).target y6 ((ju 1<|nN (l++9::b) 0 0+1).map af):=by refine dw.range z z z ?_<|acg G.K;rw[show bD y6=[cw y6,CQ]by kernel_rfl];refine aL.cons z (aj.lf 9 (af 1) λc t=>z)<|aL.cons z (aj.bin (op:=.Add) (a:=af 2) (b:=af<|nN (l++9::b) 0 0) z (aj.lf 9 (af 2) λc t=>z) ?_ λc=>ik _ _) aL.nil;refine aj.call (ds:=[.list<|(kB<|l++9::b).map λw=>af w.length]) z z ?_<|yS (k:=8) (oG:=mB) (g:=λq=>dj (mC q)<|mD q) z z z G.max;rw[show bD (ek CQ)=[vM]by kernel_rfl];refine aL.cons z (aj.k7 (kB<|l++9::b) dY (λw=>af w.length) z (dw.en z ?_) (λf=>z) (λw i=>?_)<|aC G.ls z) aL.nil;refine aj.en (a:=dY<|l++9::b) (ds:=[.str "\t"]) z (aj.leaf 12 (x:=(bu .Add (dY l)<|dY [9]).bind λf=>bu .Add f<|dY b) (λc t=>z) ?_) ?_<|Qp G.split;have d:=G.LK;have e:=G.LC;rw[yU (show l.length+1<=1000 by exact cH o<|by decide),c',yU (by rw[hx];show l.length+1+b.length<=1000;exact aC (ll (jx d) e)<|by decide),i9];rfl;rw[show bD (d_ vM).iter=[cw Vh]by kernel_rfl];exact aL.cons z (aj.lf 9 _ λc t=>z) aL.nil;refine aj.call (ds:=[dY w]) z z ?_<|jK (k:=8) (g:=iR) z<|Zk<|aC (G.ZZ w i) z;rw[show bD (fZ vM)=[cw<|fZ vM]by kernel_rfl];exact aL.cons z (aj.lf 9 _ λc t=>z) aL.nil
def Y_:aH (bI 8) cY eC (mi iE cF hH eS dD l b) (v5 0) (.next<|xj iE cF hH eS dD l b):=by refine aH.name "laid" (cb<|rn l b) z z z z ?_;have:=aj.k7 (O:=bI 8) (S:=cY) (aO:=(mi iE cF hH eS dD l b).plus) (e:=oA) (ju 1<|nN (l++9::b) 0 0+1) af (λc=>aN ((c:Nat),(pZ l c:Nat),(pZ b c:Nat))) z (Y9 iE cF hH eS dD G) (λi=>z) (λc f=>?_) (by rw[Gg];exact aC (jx G.K) z);unfold rn cb;rw[m7];exact this;have g:=(OQ.mp f).1;refine aj.tuple z (ds:=[af c,af<|pZ l c,af<|pZ b c]) ?_ (show 3<=1000000 by exact dU _ _);rw[(z:ft (fZ oA)=[oB 0,oB 1,oB 2])];refine aL.cons z (aj.lf 9 _ λd t=>z)<|aL.cons z (aj.call (ds:=[dY l,af c]) z z ?_<|Jo l g G.FH)<|aL.cons z (aj.call (ds:=[dY b,af c]) z z ?_<|Jo b g G.aea) aL.nil;rw[show bD (oB 1)=[cw<|oB 1,((bD<|oB 1)[1]?).getD b5]by kernel_rfl];exact aL.cons z (aj.lf 9 _ λd t=>z)<|aL.cons z (aj.lf 9 _ λd t=>z) aL.nil;rw[show bD (oB 2)=[cw<|oB 2,((bD<|oB 2)[1]?).getD b5]by kernel_rfl];exact aL.cons z (aj.lf 9 _ λd t=>z)<|aL.cons z (aj.lf 9 _ λd t=>z) aL.nil
end
def DQ(g:(pq 83 83&&(s.lookup c).isNone&&nI (s.map (·.1)))=ab)(q:zY.lookup c=I G)(e:(hu G.sc G.params&&(aa.obj 83 s::b).length==G.params.length)=ab)(j:aI (bI k) (aZ.fn G.sc) G.own (cT G.params<|.obj 83 s::b) G.body (.ret d)):a5 λl f=>(bI (k+1) l).en (.obj 83 s) c b=I d:=by obtain⟨t,j⟩:=j;refine⟨t,λl y i _=>?_⟩;refine eO g<|bF q ?_;show k9 (vc k l) G.own G.sc G.params G.body l (.obj 83 s::b)=I d;unfold k9;rw[if_pos e,j l l i i]
structure mx where
 raw:Str
 n:Nat
 qe:Nat
 cs:List Nat
 kC:Nat
 adb:Bool
def mx.cR(d:mx):List (ar×aa):=[("raw",.str d.raw),("n",af d.n),("nt",af d.qe),("norm",.tuple [.tuple<|d.cs.map af,af d.kC]),("is_simple",.bool d.adb)]
def mx.d(a:mx):aa:=.obj 83 a.cR
def yw:aZ:=aZ.fn<|bY mf
def kc(y:Nat):aF:=aJ (bw mf) y
def Q1:aZ:=aZ.fn<|bY me
def yH(y:Nat):aF:=aJ (bw me) y
noncomputable def nF(b:List Nat)(l a y:Nat):Nat:=a+y/l*b.getD y 0
def k2(d:mx)(l:Nat):Nat:=d.kC+l*((ju l<|d.cs.length -l).foldl (nF d.cs l) 0+d.qe)
def Qn:((bO 9).all λl=>(bO 9).all λy=>km ((gZ [af l,af y]).map .list)<|.list<|(ju l<|y -l).map af)=ab:=by decide+kernel
def MJ(a:s<9)(p:n<9):gZ [af s,af n]=some ((ju s<|n -s).map af):=by have:=k3<|bZ.mp (bZ.mp Qn s<|ee.mpr a) n<|ee.mpr p;induction j:gZ [af s,af n]using b7 with|none=>rw[j]at this;cases this|some k=>rw[j]at this;cases this;rfl
def yK(j:m<=1000000):m<2^100000:=cH j (du (show 1000000<2^20 by decide)<|ps z z)
def YO(a:b<k.length)(p:b<=1000):d3 (.tuple k) (af b)=I k[b]:=by show(iO k.length ((b:Nat):Int)).bind (λb=>k[b]?)=_;rw[v8 a<|aC o z,c',n6 a]
structure vd(aQ:mx):Prop where
 dh:1<=aQ.cs.length
 l:aQ.cs.length<=8
 c:∀x∈aQ.cs,x<=100
 qe:aQ.qe<=100
 kC:aQ.kC<=100
section
variable(aQ:mx)(s:Nat)
def zq:aG:=q "trailing" (af aQ.kC)<|q "count" (.tuple<|aQ.cs.map af) [("self",.val aQ.d),("tabsize",.val<|af s)]
def rk(t:Nat):Option Nat->aG|none=>q "il" (af t) (zq aQ s)|some y=>q "il" (af t)<|q "i" (af y)<|zq aQ s
def K1(t y:Nat):aG:=q "i" (af y)<|q "il" (af t)<|zq aQ s
variable{aQ}{s}(H:vd aQ)(h0:0<s)(vT:s<=8)
include H h0 vT
def aev(t:Nat)(g:y<aQ.cs.length):aH (bI 6) yw [] (K1 aQ s t y) (aJ (df<|kc 2) 0) (.next<|rk aQ s (nF aQ.cs s t y)<|I y):=by
 have d:y<8:=du g H.l;have m:y/s<=8:=aC (OZ ..)<|c2 d;have f:aQ.cs.getD y 0=aQ.cs[y]:=by rw[AZ,n6 g];rfl
 have w:aQ.cs.getD y 0<=100:=f▸H.c _ (xt g);have j:bu .FloorDiv (af y) (af s)=I (af<|y/s):=oF y h0<|cH vT z;have k:d3 (.tuple<|aQ.cs.map af) (af y)=I (af<|aQ.cs.getD y 0):=by rw[YO (by rw[eT];exact g) (by exact c2<|du o<|by decide),Gd,f]
 refine aH.name "il" (af<|nF aQ.cs s t y) z z z z ?_;refine aj.bin (op:=.Add) (a:=af t) (b:=af<|y/s*aQ.cs.getD y 0) z (aj.lf 9 _ λe h=>z) ?_ λe=>ik _ _;refine aj.bin (op:=.Mult) (a:=af<|y/s) (b:=af<|aQ.cs.getD y 0) z (aj.leaf 9 (λe h=>z) j) (aj.sub (a:=.tuple<|aQ.cs.map af) (b:=af y) z (aj.lf 9 _ λe h=>z) (aj.lf 9 _ λe h=>z) λe=>k) λe=>zZ (yK<|by exact aC o<|by decide) (yK<|by exact aC o<|by decide)
def ZH:∀(k:List Nat)(t:Nat)(m:Option Nat),(∀a∈k,a<aQ.cs.length)->∃w,hW (bI 6) yw [] (rk aQ s t m) (fy<|kc 2) (df<|kc 2) (k.map af) (.next<|rk aQ s (k.foldl (nF aQ.cs s) t) w):=by
 intro k;induction k with
 |nil=>
  exact @λt m=>λ_=>⟨m,hW.nil⟩
 |cons a k c=>
  exact @λt m=>λj=>by obtain⟨w,g⟩:=c (nF aQ.cs s t a) (I a) λb d=>j b<|eA _ d;refine⟨w,hW.cons (aO:=[("i",af a)]) z ?_ g⟩;rw[(z:df (kc 2)=[aJ (df<|kc 2) 0]),show(rk aQ s t m).vals [("i",af a)]=K1 aQ s t a by cases m<;>exact z];exact aI.cons (aev H h0 vT t<|j a eB) aI.nil
omit h0 vT in
theorem X7:∀(k:List Nat)(t:Nat),(∀a∈k,a<8)->k.foldl (nF aQ.cs s) t<=t+k.length*800:=by
 intro k;induction k with
 |nil=>
  exact @λt=>λ_=>b_ _ _
 |cons a k d=>
  exact @λt=>λj=>by
   have g:=d (nF aQ.cs s t a) λb n=>j b<|eA _ n;have m:=j a eB;have w:aQ.cs.getD a 0<=100:=by rw[AZ];induction f:aQ.cs[a]?using b7 with|none=>exact dV _|some p=>exact H.c p<|A2 f
   have:a/s*aQ.cs.getD a 0<=8*100:=xB (aC (OZ ..)<|c2 m) w;rw[xr,gx];unfold nF at g ⊢;exact aC g (aC (jv (gy this t) _)<|cL (by show t+800+k.length*800=t+(k.length+1)*800;rw[agk,hy,fU 800]))
def zu:a5 λf r=>(bI 7 f).en aQ.d "indent_level" [af s]=I (af<|k2 aQ s):=by
 refine DQ (k:=6) (G:=eY mf []) z z z ?_;show aI (bI 6) yw [] (cT (bt mf) [aQ.d,af s]) (bw mf) _;rw[show cT (bt mf) [aQ.d,af s]=([("self",.val aQ.d),("tabsize",.val<|af s)]:aG)by kernel_rfl,(z:bw mf=[kc 0,kc 1,kc 2,kc 3])];have n:∀p∈ju s (aQ.cs.length -s),p<aQ.cs.length:=λp e=>by have:=OQ.mp e;exact(Gp s aQ.cs.length).elim (λq=>r3 q▸this.2) λq=>absurd this.2 (by rw[ux q];exact fD.mpr this.1)
 obtain⟨m,ae⟩:=ZH H h0 vT (ju s<|aQ.cs.length -s) 0 ag n;have y:aQ.cs.length<=8:=H.l;have j:=X7 H (s:=s) (ju s<|aQ.cs.length -s) 0 λp e=>du (n p e) H.l;rw[Gg]at j;have c:=H.qe;have e:o7 yw (rk aQ s 0 ag) (et<|kc 2)=I [cw<|et<|kc 2,((bD<|et<|kc 2)[1]?).getD b5]:=z;refine aI.cons (aW:=zq aQ s) ?_ (aI.cons (aW:=rk aQ s 0 ag) ?_<|aI.cons (aW:=rk aQ s _ m) (aH.DH z e (as:=[af s,af aQ.cs.length]) ?_ (MJ (by exact cH o<|by decide)<|by exact cH o<|by decide) ae)<|aI.ret ?_);exact aH.to (d:=.tuple [.tuple<|aQ.cs.map af,af aQ.kC]) (f_:=[("trailing",af aQ.kC),("count",.tuple<|aQ.cs.map af)]) z z z z<|aj.lf 9 _ λf t=>z;exact aH.name "il" (af 0) z z z z<|aj.lf 9 (af 0) λf t=>z;refine aL.cons z (aj.lf 9 _ λf t=>z)<|aL.cons z (aj.call (ds:=[.tuple<|aQ.cs.map af]) z z ?_<|jK (k:=6) (g:=iR) z ?_) aL.nil;rw[(z:bD (((bD<|et<|kc 2)[1]?).getD b5)=[cw<|((bD<|et<|kc 2)[1]?).getD b5])];exact aL.cons z (aj.lf 9 _ λf t=>z) aL.nil;show(if bG (aQ.cs.map af).length 1000000=ab then I (aa.int ((aQ.cs.map af).length:Nat))else ag)=_;rw[eT,if_pos<|kI<|aC y z];rfl;refine aH.ret z ?_;refine aj.bin (op:=.Add) (a:=af aQ.kC) (b:=af<|s*((ju s<|aQ.cs.length -s).foldl (nF aQ.cs s) 0+aQ.qe)) z (by cases m<;>exact aj.lf 9 _ λf t=>z) (aj.bin (op:=.Mult) (a:=af s) (b:=af<|(ju s<|aQ.cs.length -s).foldl (nF aQ.cs s) 0+aQ.qe) z (by cases m<;>exact aj.lf 9 _ λf t=>z) (by cases m<;>exact aj.leaf 9 (λf t=>z)<|ik _ _) λf=>zZ (yK<|by exact aC o<|by decide)<|yK<|by exact aC (ll (aC j<|gy (xC 800<|aC (qH _ _) y) 0) c)<|by decide) λf=>ik _ _
end
def vg:aZ:=aZ.fn<|bY mg
def kd(y:Nat):aF:=aJ (bw mg) y
noncomputable abbrev BX:List ar:=["a"]
noncomputable def wh(d:mx):Nat:=c1 (d.cs.length -1) d.kC
def JK:ai:=a3<|yH 1
def B':ai:=cw JK
def LM(e:vd c):a5 λf h=>(bI 7 f).en c.d "longest_run_of_spaces" []=I (af<|wh c):=by refine DQ (k:=6) (G:=eY me []) z z z ?_;show aI (bI 6) Q1 [] (cT (bt me) [c.d]) (bw me) _;rw[show cT (bt me) [c.d]=([("self",.val c.d)]:aG)by kernel_rfl,(z:bw me=[yH 0,yH 1])];refine aI.cons (aW:=q "trailing" (af c.kC)<|q "count" (.tuple<|c.cs.map af) [("self",.val c.d)]) ?_<|aI.ret<|aH.ret z ?_;exact aH.to (d:=.tuple [.tuple<|c.cs.map af,af c.kC]) (f_:=[("trailing",af c.kC),("count",.tuple<|c.cs.map af)]) z z z z<|aj.lf 9 _ λf t=>z;refine aj.call (ds:=[af<|c.cs.length -1,af c.kC]) z z ?_<|jK (k:=6) (g:=mB) z<|DO _ _;rw[show bD (a3<|yH 1)=[B',((bD JK)[1]?).getD b5]by kernel_rfl];refine aL.cons z (aj.bin (op:=.Sub) (a:=af c.cs.length) (b:=af 1) z (aj.call (ds:=[.tuple<|c.cs.map af]) z z ?_<|jK (k:=6) (g:=iR) z ?_) (aj.lf 9 _ λf t=>z) λf=>rN e.dh)<|aL.cons z (aj.lf 9 _ λf t=>z) aL.nil;rw[(z:bD (dT B')=[cw<|dT B'])];exact aL.cons z (aj.lf 9 _ λf t=>z) aL.nil;have y:=e.l;show(if bG (c.cs.map af).length 1000000=ab then I (aa.int ((c.cs.map af).length:Nat))else ag)=_;rw[eT,if_pos<|kI<|aC y z];rfl
def Xh(i p:Nat):hh .GtE (af i) (af p)=I (decide (p<=i)):=by show I (decide (((i:Nat):Int)>=((p:Nat):Int)))=_;refine congrArg I ?_;by_cases j:p<=i;rw[decide_eq_true j,decide_eq_true<|hv.mpr j];rw[decide_eq_false j,decide_eq_false λx=>j<|hv.mp x]
def v7:aF:=aJ (df<|kd 2) 0
def Cd:aF:=aJ (c5 v7) 0
def rR(y:Nat):ai:=((ft<|yb Cd)[y]?).getD b5
def w_:ai:=a3 v7
section
variable(a b:mx)
def m1:Nat:=c1 (wh a)<|wh b
def xf:aG:=q "n" (af<|m1 a b+1) [("self",.val a.d),("other",.val b.d)]
def tx(k:List aa):Option (Bool×Nat)->aG|none=>qj "a" k (xf a b)|some (au,y)=>q "ts" (af y) (qj "a" k<|xf a b)|some (ab,y)=>qj "a" k<|q "ts" (af y)<|xf a b
def DL(k:List aa)(y:Nat):aG:=q "ts" (af y)<|qj "a" k<|xf a b
def MT(l:Nat):br:=((l:Nat),(k2 a l:Nat),(k2 b l:Nat))
def qt(k:List aa)(c:Nat):List aa:=if k2 b c<=k2 a c then k++[aN<|MT a b c]else k
variable{a b}(A:vd a)(B:vd b)
include A B
def aex(y:l.length<=1000)(f:0<c)(g:c<=8):∃m,aH (bI 7) vg BX (DL a b l c) v7 (.next<|tx a b (qt a b l c) m):=by
 have w:bS (bI 7) vg (DL a b l c).plus w_ (decide (k2 b c<=k2 a c)):=by refine bS.cmp (op:=.GtE) (a:=af<|k2 a c) (b:=af<|k2 b c) z (aj.en (a:=a.d) (ds:=[af c]) z (aj.lf 9 _ λe t=>z) ?_<|zu A f g) (aj.en (a:=b.d) (ds:=[af c]) z (aj.lf 9 _ λe t=>z) ?_<|zu B f g) λe=>Xh _ _;rw[(z:bD (dT w_)=[cw<|dT w_])];exact aL.cons z (aj.lf 9 _ λe t=>z) aL.nil;rw[(z:bD (ek w_)=[cw<|ek w_])];exact aL.cons z (aj.lf 9 _ λe t=>z) aL.nil
 unfold qt;by_cases j:k2 b c<=k2 a c;rw[decide_eq_true j]at w;refine⟨I (ab,c),aH.hq z w ?_⟩;rw[if_pos j,(z:c5 v7=[Cd])];refine aI.cons (aH.app "a" (l:=l) (d:=aN<|MT a b c) z z z (aC y z) ?_ z) aI.nil;refine aj.tuple z (ds:=[af c,af<|k2 a c,af<|k2 b c]) ?_ (show 3<=1000000 by exact dU _ _);rw[(z:ft (yb Cd)=[rR 0,rR 1,rR 2])];refine aL.cons z (aj.lf 9 _ λe t=>z)<|aL.cons z (aj.en (a:=a.d) (ds:=[af c]) z (aj.lf 9 _ λe t=>z) ?_<|zu A f g)<|aL.cons z (aj.en (a:=b.d) (ds:=[af c]) z (aj.lf 9 _ λe t=>z) ?_<|zu B f g) aL.nil;rw[(z:bD (rR 1)=[cw<|rR 1])];exact aL.cons z (aj.lf 9 _ λe t=>z) aL.nil;rw[(z:bD (rR 2)=[cw<|rR 2])];exact aL.cons z (aj.lf 9 _ λe t=>z) aL.nil;rw[decide_eq_false j]at w;exact⟨I (au,c),by rw[if_neg j];exact aH.skip z w⟩
def ZJ:∀(d:List Nat)(c:List aa)(m:Option (Bool×Nat)),c.length+d.length<=1000->(∀e∈d,0<e/\e<=8)->∃w,hW (bI 7) vg BX (tx a b c m) (fy<|kd 2) (df<|kd 2) (d.map af) (.next<|tx a b (d.foldl (qt a b) c) w):=by
 intro d;induction d with
 |nil=>
  exact @λc m=>λ_ _=>⟨m,hW.nil⟩
 |cons e d n=>
  exact @λc m=>λf j=>by
   rw[gx]at f;obtain⟨eo,g⟩:=aex A B (l:=c) (by exact aC (b_ _ _) o) (j e eB).1 (j e eB).2;have p:(qt a b c e).length<=c.length+1:=by unfold qt;split;rw[hx];exact bM _;exact lp _
   obtain⟨w,r⟩:=n (qt a b c e) eo (by exact aC (jv p _)<|aC (cL<|ef _ _ _) f) λt q=>j t<|eA _ q;refine⟨w,hW.cons (aO:=[("ts",af e)]) z ?_ r⟩;rw[(z:df (kd 2)=[v7]),show(tx a b c m).vals [("ts",af e)]=DL a b c e by
    rcases m with _|⟨k,C⟩;exact z;cases k<;>exact z]
   exact aI.cons g aI.nil
def aeV(w:m1 a b<=6):a5 λl h=>(bI 8 l).en a.d "not_less_witness" [b.d]=I (.list<|(ju 1<|m1 a b+1).foldl (qt a b) []):=by
 refine DQ (k:=7) (G:=eY mg ["a"]) z z z ?_;show aI (bI 7) vg BX (cT (bt mg) [a.d,b.d]) (bw mg) _;rw[show cT (bt mg) [a.d,b.d]=([("self",.val a.d),("other",.val b.d)]:aG)by kernel_rfl,(z:bw mg=[kd 0,kd 1,kd 2,kd 3])];obtain⟨m,ae⟩:=ZJ A B (ju 1<|m1 a b+1) [] ag (by rw[Gg,Ge,g9];exact aC (jx w)<|by decide) λj f=>by have:=OQ.mp f;exact⟨this.1,c2<|du this.2<|gy (jx w) 1⟩
 have e:o7 vg (tx a b [] ag) (et<|kd 2)=I [cw<|et<|kd 2,((bD<|et<|kd 2)[1]?).getD b5]:=z;have c:=MJ (s:=1) (n:=m1 a b+1+1) (by exact dU _ _) (by exact Pa<|Pa<|jw w);rw[Nat.add_sub_cancel]at c;refine aI.cons (aW:=xf a b) ?_<|aI.cons (aW:=tx a b [] ag) ?_<|aI.cons (aH.DH z e (as:=[af 1,af<|m1 a b+1+1]) ?_ c ae)<|aI.ret ?_;refine aH.name "n" (af<|m1 a b+1) z z z z<|aj.bin (op:=.Add) (a:=af<|m1 a b) (b:=af 1) z (aj.call (ds:=[af<|wh a,af<|wh b]) z z ?_<|jK (k:=7) (g:=mB) z<|DO _ _) (aj.lf 9 _ λl t=>z) λl=>ik _ _;rw[show bD (dT<|a3<|kd 0)=[cw<|dT<|a3<|kd 0,((bD<|dT<|a3<|kd 0)[1]?).getD b5]by kernel_rfl];exact aL.cons z (aj.en (a:=a.d) (ds:=[]) z (aj.lf 9 _ λl t=>z) aL.nil<|LM A)<|aL.cons z (aj.en (a:=b.d) (ds:=[]) z (aj.lf 9 _ λl t=>z) aL.nil<|LM B) aL.nil;exact aH.fresh "a" (ds:=[]) z z (aj.lf 9 (.list []) λl t=>z) z;exact aL.cons z (aj.lf 9 _ λl t=>z)<|aL.cons z (aj.leaf 9 (x:=bu .Add (af<|m1 a b+1)<|af 1) (λl t=>z)<|ik _ _) aL.nil;refine aH.ret z ?_;rcases m with _|⟨k,y⟩;exact aj.lf 9 _ λl t=>z;cases k<;>exact aj.lf 9 _ λl t=>z
end
def Qb(g:List Nat)(p:Nat):List Nat:=if p<g.length then g.set p (g.getD p 0+1)else g++fb (p -g.length) 0++[1]
def wD:List Nat->Nat->List Nat->List Nat×Nat|[],p,g=>(g,p)|x::k,p,g=>if x=32 then wD k (p+1) g else wD k 0 (Qb g p)
def jq(k r:List Nat):mx:=⟨⟨⟨k++r⟩⟩,k.length,k.count 9,(wD k 0 []).1,(wD k 0 []).2,decide ((wD k 0 []).1.length<=1)⟩
noncomputable abbrev mh:List Nat:=[120,32,9]
noncomputable abbrev bW:List Nat:=[10,32]
def LD:List (List Nat):=(bO 4).flatMap λs=>d4.flatMap λq=>[(lT s q.1 q.2 0).1,(lT s q.1 q.2 0).2]
def IP:List (List Nat):=(bO 4).flatMap λs=>(bO 4).flatMap λc=>[(gi c s).1,(gi c s).2]
noncomputable def z'(d:mx):Bool:=bG 1 d.cs.length&&bG d.cs.length 8&&(d.cs.all λm=>bG m 100)&&bG d.qe 100&&bG d.kC 100
def Md(j:z' d=ab):vd d:=by unfold z' at j;simp only[c0,h_,bZ]at j;exact⟨j.1.1.1.1,j.1.1.1.2,j.1.1.2,j.1.2,j.2⟩
def Zd:(LD.all λk=>km (t8 ⟨⟨k++mh⟩⟩) (jq k mh).d&&z' (jq k mh))=ab:=by decide+kernel
def S5:(IP.all λk=>km (t8 ⟨⟨k++bW⟩⟩) (jq k bW).d&&z' (jq k bW))=ab:=by decide+kernel
def AG(k p:List Nat):List br:=(rn k p).filter λr=>decide (r.2.2<=r.2.1)
def aeT:(ot.all λx=>LD.contains x.1&&IP.contains x.2&&bG (m1 (jq x.1 mh)<|jq x.2 bW) 6&&km (I<|.list<|(ju 1<|m1 (jq x.1 mh) (jq x.2 bW)+1).foldl (qt (jq x.1 mh)<|jq x.2 bW) []) (cb<|AG x.1 x.2))=ab:=by decide+kernel
def Mk:List ai:=sM .Or<|a3<|v5 1
def tL:ai:=(Mk[0]?).getD b5
def wB:ai:=(Mk[1]?).getD b5
def HB:ai:=dT wB
def aeP:ai:=tu HB
def FT:ai:=cw HB
def aeU(j:x∈ot):(kl [dY<|x.1++mh]=I (jq x.1 mh).d/\kl [dY<|x.2++bW]=I (jq x.2 bW).d)/\a5 λl c=>(bI 8 l).en (jq x.1 mh).d "not_less_witness" [(jq x.2 bW).d]=I (cb<|AG x.1 x.2):=by have:=bZ.mp aeT x j;simp only[c0,h_,iH]at this;obtain⟨⟨⟨g,q⟩,e⟩,k⟩:=this;have i:=bZ.mp Zd _ g;have p:=bZ.mp S5 _ q;rw[c0]at i p;have n:=aeV (Md i.2) (Md p.2) e;rw[k3 k]at n;exact⟨⟨k3 i.1,k3 p.1⟩,n⟩
section
variable(iE cF hH eS dD:aa)
def U7(j:c∈ot):bS (bI 8) cY (xj iE cF hH eS dD c.1 c.2).plus wB au:=by have n:=Kw j;obtain⟨⟨s,q⟩,e⟩:=aeU j;have r:=n.LK;have w:=n.LC;refine bS.cmp (op:=.NotEq) (a:=cb<|AG c.1 c.2) (b:=cb<|AG c.1 c.2) z (aj.en (a:=(jq c.1 mh).d) (ds:=[(jq c.2 bW).d]) z ?_ ?_ e) ?_ λl=>aaA _;refine aj.call (ds:=[dY<|c.1++mh]) z z ?_<|sQ (k:=8) (g:=kl) z z s;rw[show bD (tu<|dT wB)=[cw aeP]by kernel_rfl];exact aL.cons z (aj.leaf 12 (x:=bu .Add (dY c.1)<|dY mh) (λl f=>z)<|yU<|show c.1.length+3<=1000 by exact aC (jv r 3)<|by decide) aL.nil;rw[show bD (dT wB)=[FT]by kernel_rfl];refine aL.cons z (aj.call (ds:=[dY<|c.2++bW]) z z ?_<|sQ (k:=8) (g:=kl) z z q) aL.nil;rw[show bD FT=[cw FT]by kernel_rfl];exact aL.cons z (aj.leaf 12 (x:=bu .Add (dY c.2)<|dY bW) (λl f=>z)<|yU<|show c.2.length+2<=1000 by exact aC (jv w 2)<|by decide) aL.nil;refine aj.zS (rn c.1 c.2) aN aN (λy=>decide (y.2.2<=y.2.1)) z (dw.lf 9 ((rn c.1 c.2).map aN) λl f=>z) (λi=>z) (λi p=>bS.lf 20 _ λl f=>z) (λi p m=>aj.lf 9 _ λl f=>z) ?_;unfold rn;rw[eT,Gg];exact aC (jx n.K) z
def TP(j:x∈ot)(g:bS (bI 8) cY (xj iE cF hH eS dD x.1 x.2).plus tL au):aI (bI 8) cY eC (mi iE cF hH eS dD x.1 x.2) (df<|ku 1) (.next<|xj iE cF hH eS dD x.1 x.2):=by rw[show df (ku 1)=[v5 0,v5 1]by kernel_rfl];exact aI.cons (Y_ iE cF hH eS dD<|Kw j) (aI.cons (aH.skip z<|bS.or (bf:=[tL,wB]) z (by simp)<|gc.Ad g<|gc.Ad (U7 iE cF hH eS dD j) gc.Ml) aI.nil)
end
def dw.zip(i:yh c=ab)(A:lI c="zip")(C:yi r=ab)(m:Cf (bD c)=I (a,b))(B:(d.global (lI c)&&(w.lookup<|lI c).isNone)=ab)(x:aj g d w a (.list ds))(j:aj g d w b (.list bf)):dw g d w r c (qU ds bf):=by obtain⟨s,q,y,H,rfl,E,k⟩:=Dq i;have:s="zip":=A;subst this;exact(x.and j).succ λl G D=>eO B<|oP (oU z)<|oP (oU z)<|eO z<|eO C<|bF m<|bF D.1<|bF D.2 rfl
noncomputable def uf:List Int:=[-6,-5,-4,-3,-2,-1,0,1,2,3,4,5,6,7,8]
noncomputable def hZ(x:Int):aa:=.tuple [.int<|x/3,.int<|x%3]
noncomputable def rC(g:br):List Int:=[g.1,g.2.1,g.2.2]
def gG(g:br):aa:=.list<|(rC g).map hZ
def X2:∀x∈uf,a5 λl k=>(bI 8 l).call "int_divmod" [.int x,af 3]=I (hZ x):=by
 unfold uf;repeat refine a6 (a5.of 60 λl y=>by kernel_rfl) ?_
 exact dC
def Zg:∀s<4,∀q∈d4,a5 λl k=>(bI 8 l).call "_law_leads" [gI s,.int q.1,.int q.2,af 0]=I (k6<|lT s q.1 q.2 0):=by intro s d;unfold d4;rcases gO d with rfl|rfl|rfl|rfl<;>exact a6 (a5.of 60 λl y=>by kernel_rfl) (a6 (a5.of 60 λl y=>by kernel_rfl)<|a6 (a5.of 60 λl y=>by kernel_rfl)<|a6 (a5.of 60 λl y=>by kernel_rfl)<|a6 (a5.of 60 λl y=>by kernel_rfl) dC)
noncomputable def DX(g:br):Int:=c1 g.1<|c1 g.2.1 g.2.2
noncomputable def DS(g:br):Int:=c_ g.1<|c_ g.2.1 g.2.2
def Uz:(iC.all λs=>(yZ s).all λg=>((rC g).all λx=>uf.contains x)&&d4.contains (p7 g,p_ g)&&km (dj (mC [gG g])<|mD [gG g]) (hZ<|DX g)&&km (dj (q3 [gG g])<|q4 [gG g]) (hZ<|DS g))=ab:=by decide+kernel
structure x_(c:br):Prop where
 ba:∀y∈rC c,y∈uf
 k:(p7 c,p_ c)∈d4
 ck:dj (mC [gG c]) (mD [gG c])=some (hZ<|DX c)
 fL:dj (q3 [gG c]) (q4 [gG c])=some (hZ<|DS c)
def UA(ao:s∈iC)(w:g∈yZ s):x_ g:=by have:=bZ.mp (bZ.mp Uz s ao) g w;simp only[c0,bZ,iH]at this;exact⟨this.1.1.1,this.1.1.2,k3 this.1.2,k3 this.2⟩
def aaz(g:br):hh .NotEq (gG g) (gG g)=I au:=by
 have j:∀x:Int,dQ 8 (hZ x) (hZ x)=I ab:=λx=>by show I (((x/3)==(x/3))&&(((x%3)==(x%3))&&ab))=_;rw[beq_self_eq_true,beq_self_eq_true];rfl
 show((dQ 8 (hZ g.1)<|hZ g.1).bind λk=>((dQ 8 (hZ g.2.1)<|hZ g.2.1).bind λk=>((dQ 8 (hZ g.2.2)<|hZ g.2.2).bind λk=>(I ab).map λw=>k&&w).map λw=>k&&w).map λw=>k&&w).map (!·)=_;rw[j,j,j];rfl
def AQ(f a b:aa):aG:=q "brims" f<|q "front" a<|q "place" b []
def JM:ai:=a3<|ku 0
def Oe:ai:=et<|ku 1
def F1:ai:=((bD Oe)[0]?).getD b5
def afi:ai:=((bD Oe)[1]?).getD b5
def qy(y:Nat):ai:=((bD F1)[y]?).getD b5
section
variable(hH eS dD:aa){c:br}(H:x_ c)
include H
def U8:aH (bI 8) cY eC (q "corner" (aN c)<|AQ hH eS dD) (ku 0) (.next<|rX (gG c) (aN c) hH eS dD):=by refine aH.name "divided" (gG c) z z z z (aj.k7 (rC c) aa.int hZ z (dw.lf 9 ((rC c).map aa.int) λl t=>z) (λi=>z) (λx k=>?_)<|show 3<=1000000 by exact dU _ _);refine aj.call (ds:=[.int x,af 3]) z z ?_<|X2 x<|H.ba x k;rw[show bD (fZ<|a3<|ku 0)=[cw<|fZ JM,((bD<|fZ JM)[1]?).getD b5]by kernel_rfl];exact aL.cons z (aj.lf 9 _ λl t=>z)<|aL.cons z (aj.lf 9 _ λl t=>z) aL.nil
theorem acF:∀x∈uf,aj (bI 8) (jG cY<|ek tL) (pQ cY (ek tL) ([("corner",aN c)]:bQ)<|.int x) (fZ<|ek tL) (hZ x):=by
 unfold uf;repeat refine a6 (a5.of 20 λl y=>by kernel_rfl) ?_
 exact dC
def U6(x:List Nat×List Nat):bS (bI 8) cY (xj (gG c) (aN c) hH eS dD x.1 x.2).plus tL au:=by refine bS.cmp (op:=.NotEq) (a:=gG c) (b:=gG c) z (aj.lf 9 _ λl t=>z) ?_ λl=>aaz c;exact aj.k7 (rC c) aa.int hZ z (dw.lf 9 ((rC c).map aa.int) λl t=>z) (λi=>z) (λx k=>acF H x<|H.ba x k) (show 3<=1000000 by exact dU _ _)
def afj(d:s<4):dw (bI 8) cY (rX (gG c) (aN c) (k6<|gi m s) (gI s) dD).strict (fy<|ku 1) (et<|ku 1) [.tuple [dY (lT s (p7 c) (p_ c) 0).1,dY (gi m s).1],.tuple [dY (lT s (p7 c) (p_ c) 0).2,dY (gi m s).2]]:=by refine dw.zip (a:=F1) (b:=afi) (ds:=[dY (lT s (p7 c) (p_ c) 0).1,dY (lT s (p7 c) (p_ c) 0).2]) (bf:=[dY (gi m s).1,dY (gi m s).2]) z z z z z ?_<|aj.lf 9 _ λl t=>z;refine aj.call (ds:=[gI s,.int<|p7 c,.int<|p_ c,af 0]) z z ?_<|Zg s d _ H.k;rw[show bD F1=[qy 0,qy 1,qy 2,qy 3]by kernel_rfl];refine aL.cons z (aj.lf 9 _ λl t=>z)<|aL.cons z (aj.sub (a:=hZ<|DX c) (b:=af 0) z (aj.call (ds:=[gG c]) z z ?_<|yS (k:=8) (oG:=mB) (g:=λq=>dj (mC q)<|mD q) z z z H.ck) (aj.lf 9 _ λl t=>z) λl=>z)<|aL.cons z (aj.sub (a:=hZ<|DS c) (b:=af 0) z (aj.call (ds:=[gG c]) z z ?_<|yS (k:=8) (oG:=vA) (g:=λq=>dj (q3 q)<|q4 q) z z z H.fL) (aj.lf 9 _ λl t=>z) λl=>z)<|aL.cons z (aj.lf 9 _ λl t=>z) aL.nil;rw[show bD (dT<|qy 1)=[cw<|dT<|qy 1]by kernel_rfl];exact aL.cons z (aj.lf 9 _ λl t=>z) aL.nil;rw[show bD (dT<|qy 2)=[cw<|dT<|qy 2]by kernel_rfl];exact aL.cons z (aj.lf 9 _ λl t=>z) aL.nil
end
def eL(σ:aG)(p:List aF)(a:fH):Prop:=∀n:a4,hV (az n) 217 cY σ p a
theorem eL.xs(j:aI (bI 8) cY eC σ p (.next fC))(k:nj fq fC)(ao:fq.pure=ab):eL σ p (.next fq):=λn=>by obtain⟨t,j⟩:=j;exact hV.xs (yr n 8 t) (j t t (bM _)<|bM _) k ao
theorem eL.ret(j:aI (bI 8) cY eC σ p (.ret d)):eL σ p (.ret d):=λn=>by obtain⟨t,j⟩:=j;exact hV.ret (yr n 8 t)<|j t t (bM _)<|bM _
theorem eL.app(j:eL σ p (.next fC))(k:eL fC a c):eL σ (p++a) c:=λn=>(j n).app<|k n
theorem eL.less(j:eL fq p a)(k:nj fq σ):eL σ p a:=λn=>(j n).less k
def eL.weak(j:eL σ a (.next fC))(k:nj fq fC):eL σ a (.next fq):=λn g y m ah e f i=>j n g y m ah e f λJ d r=>i J (k.sim d) r
theorem eL.loop{st:aF}(a:zA st=ab)(g:dw (bI 8) cY σ.strict (fy st) (et st) ds)(ao:σ.pure=ab)(m:∀d∈ds,∃c,dq cY (fy st) d []=I c/\eL (σ.vals c) (df st) (.next σ)):eL σ [st] (.next σ):=λn=>by obtain⟨r,y,k,s,rfl⟩:=Dr a;obtain⟨e,g⟩:=g;exact hV.loop (yr n 8 e) (g e e (bM _)<|bM _) ao λd f=>(m d f).imp λc j=>⟨j.1,j.2 n⟩
def X9(d:s<4)(r:c<4){q:es}(n:q∈d4):((lT s q.1 q.2 0).1,(gi c s).1)∈ot/\((lT s q.1 q.2 0).2,(gi c s).2)∈ot:=⟨r1.mpr ⟨s,ee.mpr d,r1.mpr ⟨c,ee.mpr r,r1.mpr ⟨q,n,eB⟩⟩⟩,r1.mpr ⟨s,ee.mpr d,r1.mpr ⟨c,ee.mpr r,r1.mpr ⟨q,n,eA _ eB⟩⟩⟩⟩
section
variable(dD:aa){f m:Nat}(hf:f<4)(hm:m<4)
include hf hm
theorem NT(e:x_ g)(k:x∈ot):∃w,dq cY (fy<|ku 1) (.tuple [dY x.1,dY x.2]) []=I w/\eL ((rX (gG g) (aN g) (k6<|gi m f) (gI f) dD).vals w) (df<|ku 1) (.next<|rX (gG g) (aN g) (k6<|gi m f) (gI f) dD):=by refine⟨[("brim",dY x.2),("lead",dY x.1)],z,?_⟩;refine eL.less (fq:=mi (gG g) (aN g) (k6<|gi m f) (gI f) dD x.1 x.2) (eL.xs (TP _ _ _ _ _ k<|U6 _ _ _ e x) ⟨a6 z<|a6 z<|a6 z<|a6 z<|a6 z dC,z⟩ z) ⟨a6 z<|a6 z<|a6 z<|a6 z<|a6 z<|a6 z<|a6 z dC,z⟩
def Yc(e:x_ g):eL (rX (gG g) (aN g) (k6<|gi m f) (gI f) dD) [ku 1] (.next<|rX (gG g) (aN g) (k6<|gi m f) (gI f) dD):=by have y:=X9 hf hm e.k;exact eL.loop z (afj (m:=m) dD e hf) z<|a6 (NT dD hf hm e y.1)<|a6 (NT dD hf hm e y.2) dC
end
def abr(i:s<4)(r:b<4)(ao:a∈iC):eL (AQ (k6<|gi b s) (gI s)<|aN a) [bT 25] (.next<|AQ (k6<|gi b s) (gI s)<|aN a):=by refine eL.loop z (ds:=(yZ a).map aN) (dw.lf 40 _ λl t=>by kernel_rfl) z λd h=>?_;obtain⟨g,w,rfl⟩:=hM.mp h;have e:=UA ao w;refine⟨[("corner",aN g)],z,?_⟩;rw[show df (bT 25)=[ku 0]++[ku 1]by kernel_rfl];refine eL.app (eL.xs (aI.cons (U8 (k6<|gi b s) (gI s) (aN a) e) aI.nil) ⟨a6 z<|a6 z<|a6 z<|a6 z<|a6 z dC,z⟩ z)<|eL.weak (Yc (aN a) i r e) ⟨a6 z<|a6 z<|a6 z dC,z⟩
def Vj(d:s<4)(ao:a∈iC)(j:(c,i)∈ry):eL (xe (aN a) i c s) ([bT 23,bT 24]++([bT 25]++[bT 26])) (.ret<|.bool ab):=by obtain⟨r,b⟩:=LX _ j;refine eL.app (eL.xs (fq:=AQ (k6<|gi c s) (gI s)<|aN a) (aI.cons (show aH (bI 8) cY eC (xe (aN a) i c s) (bT 23) (.next<|AE (aN a) i c s)from QG (aN a) s (c,i) j)<|aI.cons (QH (aN a) r d b.1 b.2) aI.nil) ⟨a6 z<|a6 z<|a6 z dC,z⟩ z)<|eL.app (abr d r ao)<|eL.ret<|aI.ret<|aH.ret z<|aj.lf 9 _ λl t=>z
def j3(σ:aG)(p:List aF)(w:fH):Prop:=a5 λl y=>qS (bI 8 l) y cY eC σ p w
theorem j3.last(j:aI (bI 8) cY eC σ p w):j3 σ p w:=j.mono λl y j=>.last j
theorem j3.app(j:aI (bI 8) cY eC σ p (.next fC))(l:nj fq fC)(e:j3 fq a w):j3 σ (p++a) w:=(j.and e).mono λc y j=>.app j.1 l j.2
def Si:List aF:=[bT 0,bT 1,bT 2,bT 3,bT 4,bT 5,bT 6,bT 7,bT 8,bT 9]
def IB:List aF:=Iv++([bT 15]++([bT 16,bT 17]++([bT 18,bT 19]++[bT 20,bT 21,bT 22])))
def IA:List aF:=Si++([bT 10,bT 11]++IB)
def Sl:List aF:=[bT 23,bT 24]++([bT 25]++[bT 26])
def SV:bw jT=IA++Sl:=by kernel_rfl
def MD:bt jT=[bp "script"]:=z
def acS:hu (bY jT) (bt jT)=ab:=z
def aaq:((bO 4).all λc=>(bO 6).all λy=>ry.contains (c,c1 (y+1)<|rt c))=ab:=by decide+kernel
def aaj(r:c<4)(d:a=n/12%4)(h:b<3)(g:1<=i)(q:i<=6)(ao:s∈gu i):j3 (yn ((mR c).map aN) (aN<|gr c) (aN s) (.list [af k,af j,af y,af n]) b i) IB (.next<|FQ (aN s) (aN<|gr c) (.list [af k,af j,af y,af n]) i c a):=by have l:=zr q ao;have e:a<4:=d▸h' _ z;refine j3.app (fq:=rS ((mR c).map aN) (aN<|gr c) (aN s) (.list [af k,af j,af y,af n]) i) (Qx _ _ _ _ b i h g q) ⟨a6 z<|a6 z<|a6 z<|a6 z<|a6 z dC,z⟩ ?_;refine j3.app (fq:=AB ((mR c).map aN) (aN<|gr c) (.list [af k,af j,af y,af n]) i s) (aI.cons (Qy _ _ _ i s) aI.nil) ⟨a6 z<|a6 z<|a6 z<|a6 z<|a6 z<|a6 z dC,z⟩ ?_;refine j3.app (fq:=t6 ((mR c).map aN) (aN<|gr c) (.list [af k,af j,af y,af n]) i s) (Qz _ _ _ i s l) ⟨a6 z<|a6 z<|a6 z<|a6 z<|a6 z<|a6 z<|a6 z<|a6 z dC,z⟩ ?_;refine j3.app (fq:=rS ((mR c).map aN) (aN<|gr c) (aN s) (.list [af k,af j,af y,af n]) i) (aI.cons (QA _ _ _ g q ao)<|aI.cons (QB _ _ _ i s l) aI.nil) ⟨a6 z<|a6 z<|a6 z<|a6 z<|a6 z dC,z⟩ ?_;exact j3.last<|aI.cons (QD _ _ _ i a d)<|aI.cons (QE _ _ _ i c a r e)<|aI.cons (QF _ _ _ i c a r) aI.nil
def Zc(W:t.length<=63):∃b s i Y,s<4/\Y∈iC/\(b,i)∈ry/\∃X,j3 (qV t) IA (.next<|FQ (aN Y) (aN<|gr b) X i b s):=by
 obtain⟨k,T⟩:∃g,g=357+lM t 0:=⟨_,rfl⟩;obtain⟨B,U⟩:∃g,g=3170644669+lM t 1:=⟨_,rfl⟩;obtain⟨y,q⟩:∃g,g=25+lM t 2:=⟨_,rfl⟩;obtain⟨n,V⟩:∃g,g=25+lM t 3:=⟨_,rfl⟩;obtain⟨a,F⟩:∃d,d=qu k:=⟨_,rfl⟩;obtain⟨b,r⟩:∃b,b=n%4:=⟨_,rfl⟩;obtain⟨Q,O⟩:∃Q,Q=n/4%3:=⟨_,rfl⟩;obtain⟨s,N⟩:∃s,s=n/12%4:=⟨_,rfl⟩;obtain⟨i,G⟩:∃i,i=c1 a.length (rt b):=⟨_,rfl⟩;have l:a.length<=6:=F▸(FV k).2;have x:1<=a.length:=F▸(FV k).1▸b_ _ _;have C:∀d∈a,d<3:=F▸aeX k;have D:b<4:=r▸h' _ z;have P:Q<3:=O▸h' _ z;have e:s<4:=N▸h' _ z;obtain⟨S,H⟩:∃S,a.length=S+1:=⟨a.length -1,(n9 x).symm⟩;have ao:a.foldl fA (1,2,3)∈gu i:=My (m:=a.length) (by rw[G];exact xx _ _) (by
  have:=abC a 0 (1,2,3) (by decide) (by rw[g9];exact l) C;rwa [g9]at this)
 have K:(b,i)∈ry:=by have:=iH.mp<|bZ.mp (bZ.mp aaq b<|ee.mpr D) S<|ee.mpr<|show S+1<=6 from H.symm▸l;rw[<-H,<-G]at this;exact this
 have E:=(LX _ K).2;refine⟨b,s,i,a.foldl fA (1,2,3),e,zr E.2 ao,K,.list [af k,af B,af y,af n],?_⟩;have J:=QL t k B y n l C;rw[H]at J;have M:iR [aa.str<|b6 a]=I (af a.length):=by show(if bG (b6 a).length 1000000=ab then I (aa.int ((b6 a).length:Nat))else ag)=_;rw[rp,if_pos<|kI<|aC l z];rfl
 have Z:=aI.cons (qW t k B y n W T U q V)<|aI.cons (Qu t k B y n a F)<|aI.cons (QC t k B y n l C)<|aI.cons (QI t k B y n l C)<|aI.cons (QJ t k B y n l C)<|aI.cons (QK t k B y n)<|aI.cons J<|aI.cons (QM _ _ _ _ _ _ _ r)<|aI.cons (QN _ _ _ _ _ _ _ _ b)<|aI.cons (QO _ _ _ _ _ _ _ _ D) aI.nil;refine j3.app (fq:=FL ((mR b).map aN) (aN<|l5 b) (aN<|gr b) (aN<|a.foldl fA (1,2,3)) (.str<|b6 a)<|.list [af k,af B,af y,af n]) Z ?_ ?_;rcases gO D with R|R|R|R<;>rw[R]<;>exact⟨a6 z<|a6 z<|a6 z<|a6 z<|a6 z<|a6 z dC,z⟩;refine j3.app (fq:=yn ((mR b).map aN) (aN<|gr b) (aN<|a.foldl fA (1,2,3)) (.list [af k,af B,af y,af n]) Q i) (aI.cons (Qv _ _ _ _ _ i D l M G)<|aI.cons (Qw _ _ _ _ _ Q i O) aI.nil) ⟨a6 z<|a6 z<|a6 z<|a6 z<|a6 z<|a6 z dC,z⟩ ?_;exact aaj D N P E.1 E.2 ao
def Zb(n:a4){t:List Int}(j:t.length<=63):cM (az n) (.ref 288) [.list<|t.map aa.int] 218 (.bool ab):=by obtain⟨c,s,i,k,d,ao,h,b,a,e⟩:=Zc j;exact Xn (V3 n) (yr n 8 a) acS (by rw[MD];rfl) SV (by rw[show cT (bt jT) [.list<|t.map aa.int]=qV t by rw[MD];rfl];exact e a a (bM _)<|bM _) (fq:=xe (aN k) i c s) ⟨a6 z<|a6 z<|a6 z<|a6 z<|a6 z dC,z⟩ z<|Vj d ao h n
def Yk(w:IntsAre x a):RzL c j x (a.map aa.int):=by induction w with|nil=>exact .nil|cons y b k g=>exact .cons (.int y b) g
def ad'(n:a4):e3 n (hR n.params):=by refine⟨λi d k k f=>f,⟨#[],?_,?_⟩,⟨#[],?_,?_⟩⟩;exact(zh (a:=103) z<|show(gD n.params).get 103=I (r' #[])by kernel_rfl).trans z;exact⟨trivial,.inl rfl⟩;exact(zh (a:=110) z<|show(gD n.params).get 110=I (r' #[])by kernel_rfl).trans z;exact⟨trivial,.inl rfl⟩
def walk2(X:vq D=vp E)(W:n.heap.Ns xR P)(V:P "law"=I (.ref bd))(i:Laid bv E D n [ofPy<|r8<|B.map xI] [.ref j] bi)(C:n.heap.IsList j a2.toArray)(al:IntsAre a2 B)(am:n.gens=#[])(ag:∀q,T.raises [ofPy<|r8<|B.map xI] q=au)(ao:T.post [ofPy<|r8<|B.map xI] (.bool ab) [ofPy<|r8<|B.map xI]=ab)(an:B.length<=63):aB (aK cy E) Br (e8 (.ref bd) [.ref j]) (λbe J=>GoodWG T U M [ofPy<|r8<|B.map xI] n (.ok<|.ret be) J) (λf J=>GoodWG T U M [ofPy<|r8<|B.map xI] n (.error f) J) n:=by
 have O:D.heap=hR E.params/\D.toks=2575:=by unfold vq vp at X;exact⟨congrArg Prod.fst X,congrArg Prod.snd X⟩
 have d:e3 E n.heap:=(az E).keeps _ _ (ad' E) λp N f=>i.keeps p N<|rwL O.1 f;have ad:bd=288:=by
  have s:=W.eq_nsMap;have l:=(wA d).eq_nsMap;have aa:ie (lP E.params) "law"=I (.ref 288):=z;have:P "law"=I (.ref 288):=by rw[s,<-aa];exact(congrFun l "law").symm
  rw[V]at this;cases this;rfl
 subst ad;have H:=script_obj i C;have ap:¬jE j:=by obtain⟨k,⟨Q,s,k⟩,⟨S,l,k⟩⟩:=d;rintro(rfl|rfl);rw[H]at s;cases s;rw[H]at l;cases l
 have bm:bh (az E) jE Br 218 n:=by
  refine⟨rfl,?_,?_,rfl,λp ae=>?_,λp G=>G,d,?_⟩;have:Br.depth+218<1000:=by decide+kernel
  exact this;have:Br.units+4*218<9000:=by decide+kernel
  exact this;obtain⟨k,⟨Q,s,k⟩,⟨S,l,k⟩⟩:=d;rcases ae with rfl|rfl;exact⟨_,s,λk=>⟨_,rfl⟩⟩;exact⟨_,l,λk=>⟨_,rfl⟩⟩;have:=script_toks i O.2;omega
 have K:=Zb E an;refine K jE Br n [.ref j] bm (.cons (.list ap H<|Yk al) .nil) _ _ λbe J m bs=>?_;cases bs;refine⟨.inl ⟨_,_,[],rfl,ag,ReadsW.bool ab,ao,λk=>⟨Gk,λk af=>(nomatch af)⟩⟩,⟨λp N f=>?_,λp N f=>?_⟩,?_,?_⟩;by_cases G:jE p;have y:∃A,n.heap.get? p=I (r' A)/\isCodeTable n.heap p:=by rcases G with rfl|rfl;obtain⟨A,s,k⟩:=(D3 E).tab _ d;exact⟨A,s,(((D3 E).hd _ d).tab s).isCodeTable⟩;obtain⟨A,s,k⟩:=(D4 E).tab _ d;exact⟨A,s,(((D4 E).hd _ d).tab s).isCodeTable⟩
 obtain⟨A,s,ac⟩:=y;obtain⟨F,l⟩:=m.tabs p G A s;rw[s]at f;cases f;exact .inr<|.inl ⟨ac,rfl,A,F,rfl,l⟩;exact .inl<|m.keep p N f G;by_cases G:jE p;have y:∃A,n.heap.get? p=I (r' A):=by obtain⟨k,⟨Q,s,k⟩,⟨S,l,k⟩⟩:=d;rcases G with rfl|rfl;exact⟨_,s⟩;exact⟨_,l⟩
 obtain⟨A,s⟩:=y;obtain⟨F,l⟩:=m.tabs p G A s;exact⟨_,l⟩;exact⟨N,m.keep p N f G⟩;obtain⟨bn,a1,rfl⟩:=m.same;rfl;obtain⟨bn,a1,rfl⟩:=m.same;exact .of_eq am
set_option maxRecDepth 100000 in
set_option maxHeartbeats 0 in
def aeZ:aih.wellSaid=ab:=by
 delta OpenLaw.wellSaid;repeat' with_reducible refine GZ ?_ ?_
 any_goals delta OpenRow.wellSaid
 any_goals repeat' with_reducible refine GZ ?_ ?_
 any_goals delta OpenRow.partSaid
 any_goals repeat' with_reducible refine GZ ?_ ?_
 any_goals delta looksOpen
 any_goals repeat' with_reducible refine GZ ?_ ?_
 all_goals decide+kernel
end
end Mine
open PySem PySem.W PySem.Calls PyProof.Rows
set_option maxRecDepth 100000 in
set_option maxHeartbeats 0 in
theorem PySem.Challenge.cw_wb0107_01_holds : PySem.Challenge.rw_wb0107_01.Holds := by
 refine holds_law Mine.aeZ fun said=>?_
 refine holds_openX (q:=Mine.Ak) (loose:=Mine.zO) (Xt:=fun Z=>true) (XP:=fun Z Z=>True) (Yf:=Mine.vq) (Ya:=Mine.vp) (N:=Mine.yp+600) (d:=⟨"law",Mine.kX Mine.jT,Mine.bw Mine.jT,Mine.bY Mine.jT,Mine.CO Mine.jT⟩) (kwd:=[]) Mine.Zh (fun Z Z=>trivial) (fun Z Z Z Z Z=>trivial) (by kernel_rfl) (by kernel_rfl) (by kernel_rfl) (fun s e=>recFacts_nil rfl) (by rfl) (by assumption) (by decide +kernel) ⟨rfl,rfl,rfl,rfl,rfl,by decide +kernel⟩ ?hw ?hc
 ·w_witness2
 ·intro w s₀ s₁ mg mb G Y a o pm cd doc dV kV ho hd hcd hD hmg hg args vals as L hpre hlay hrd hwl hlo
  have hma:mg "law"=some (.ref a):=hmg
  have hns:s₁.heap.Ns mainGlobals mg:=G.T.g
  clear hd hcd hD ho hmg G
  wrow_args hpre hlay hrd hwl hlo
  rename_i ns _ _ _ _ _ _ _ la vs _ hIs _ _ _ hI _ h63 _
  exact Mine.walk2 Y hns hma L hIs hI hg (fun Z=>rfl) (by first | kernel_rfl | wrow_post) (by omega)
