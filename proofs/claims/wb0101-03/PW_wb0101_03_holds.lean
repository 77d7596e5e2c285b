import PyProof.Rows.All
import Wide.All
import OpenK.AllK
import PySem.Challenge.RW_wb0101_03
set_option Elab.async false
set_option linter.all false
set_option tactic.hygienic false
set_option maxRecDepth 1000000
set_option maxHeartbeats 4000000
set_option exponentiation.threshold 5000
open PySem PySem.W PySem.Calls PyProof.Rows PySem.SeqAt List Option
set_option compiler.postponeCompile true
set_option compiler.extract_closed false
set_option genSizeOf false
set_option genInjectivity false
set_option genCtorIdx false
set_option bootstrap.genMatcherCode false
set_option backward.match.sparseCases false
local macro_rules | `(tactic| omega) => `(tactic| first | lia | omega +splitNatSub)
local macro_rules | `(tactic| decide) => `(tactic| first | kernel_rfl | exact of_decide_eq_true (by kernel_rfl))
noncomputable section
namespace Mine
open Option renaming some->À,none->Ä,isSome_iff_exists->İ,bind_eq_some_iff->Ϧ,map->f6,map_eq_some_iff->lb,bind_some->lR,map_some->ej,any_eq_true->lg,none_or->eH,isNone_iff_eq_none->nX
open _root_ renaming List->Ã,Nat->Á,Int->Â,Option->Ï,if_pos->ť,if_neg->È,congrArg->Ù,decide_eq_true_eq->ϻ,Bool->Ò,absurd->ó,UInt64->ā,beq_iff_eq->ka,decide_eq_false->mE,decide_eq_true->ix,beq_self_eq_true->eE,Array->gS,beq_eq_false_iff_ne->Š,decide_eq_false_iff_not->oX,of_decide_eq_true->ma,bne_iff_ne->Wq,propext->pI,if_true->sJ,decide_false->og,decide_true->oD,if_false->jz,String->pF,Decidable->Gq,or_false->Ŷ
open PySem renaming wpAny_bind->Ü,Value->Ë,wpAny_pure->õ,Shared->ŕ,Addr->Ĳ,call->Î,wpAny->ϛ,World->dk,wpAny_standAt->ų,wpAny_holding->ϗ,model->aT,Heap->gk,Around->q6,wpAny_mono->mz,wpAny_execs_cons->mI,binaryOp->mv,mainGlobals->ż,wpAny_Call_Name_kw->gQ,builtinsNs->br,DictEntry->bQ,assignInOrder->bV,holding->bF,starEach->ϧ,wpAny_Name->j5,standAt->bc,sizeLine->ee,Step->US,letOwnedTupleGo->hJ,pyIter->pN,Sem->ŭ,treeTable->hN,callWith_type->ϸ,OsState->dh,wpAny_Call_method_lateS->pY,backTo->ş,Params->tM,wpAny_truthy_bool->gX,Data->lj,wpAny_field->eK,wpAny_execs_nil->jI,wpAny_setField_rec->eF,wpAny_assign_Tuple->gN,bindArgs->lO,wpAny_seqItems->nG,wpAny_pyIter_list->kW,notedBy->wG,wpAny_Assign_stores->lZ,bootBuiltins->lK,spliced->tZ,assignEach->nE,Env->ey,Program->lX,interactive->oT,slot_list_getitem->zj,pyNext->o8,comprehension->nK,wpAny_callSpecial?_slot->CZ,intKind->kZ,wpAny_nextOf_list_item->yb,wpAny_allTrue_And_cons->xG,wpAny_allTrue_Or_cons->nD,Stmt->DA,evalArgs->jt,FuncData->j1,wpAny_is_plain->pq,wpAny_Expr_any->sq,recursionLimit->sL,subDict->xZ,getItem->wy,codeAny->hZ,seqIndex?->hX,wpAny_onRaise->rW,wpAny_rule->xy,sysModules->fC,call_meets->oq,operate->jV,hashInt->kX,wpAny_If->sE,wpAny_Return_some->xA,specialOf->CY,partValue->ph,wpAny_call_entry->wC,wpAny_Tuple->sD,callSpecialIfBoundUnlessNone?->Fq,wpAny_updateSeq->yM,importedModules->zw,Pos->o6,Scope->pn,compPost->oQ,Operator->sA,typeIs_int->rC,intKind_is->rK,execs_cons->wK,cameBackBy->xg,wpAny_bindName->wz,rangeSize_one->wW,behindInMarks->yy,Expr->yK,Comprehension->DI,cLine->t6,newList->nF,Builtin->yX,mergeMapping->yr,firstIterPos->Gv,wpAny_Assign_Subscript->E8,wpAny_storeName_local->FT,wpAny_isTrue_Compare1->Du,exec_Assign_Name_used->F8,putAt->yp,evalPart->yI,wpAny_letGo->FO,wpAny_IfExp->Ep,richCompare->GX,wpAny_loadName_local->Eo,typeIs_str->xp,qualnameIn->yi,firstAsync->DV,wpAny_pyIter_tuple->D5
open _root_.List renaming mem_singleton->Ċ,getElem?_map->ô,length_map->É,all_eq_true->ę,getD_eq_getElem?_getD->í,mem_cons->ő,getElem?_eq_getElem->Ų,map_map->ſ,getElem?_eq_none->ķ,getElem?_range->ag,map_congr_left->ae,mem_range->gh,mem_of_getElem?->Ŕ,mem_append->æ,length_append->eU,length_drop->bO,map_cons->mC,length_cons->kc,replicate_succ->hU,map_append->bG,lookup_cons->bf,getElem?_eq_some_iff->se,length_range->bZ,length_reverse->eA,mem_map->dp,not_mem_nil->Ē,length_take->eD,replicate->rX,ext_getElem?->fR,flatten_cons->gZ,nodup_cons->dg,drop_eq_getElem_cons->fH,append_assoc->ak,forIn_cons->tp,getElem_mem->lh,mem_singleton_self->mc,drop_zero->xU,mem_flatMap->di,getElem?_set->kU,mem_reverse->l8,drop_drop->f3,append_nil->pH,length_replicate->oL,getElem?_inj->nV,getElem?_cons_succ->y7,length_eq_one_iff->bU,getElem?_drop->oI,nil_append->l9,foldr_cons->oY,mem_of_mem_take->su,mem_of_mem_drop->ta,getElem?_append_right->xq,length_zipIdx->zp,mapM_cons->gU,pairwise_cons->GN,mem_cons_self->r4,length_nil->yF,foldl_append->tF,take_append_drop->xM,getElem?_toArray->xB,drop_length->rP,cons_append->ti,mem_cons_of_mem->zi,mem_append_left->yT,findIdx?_eq_some_iff_getElem->Vm,sum_cons->oK,range_succ->sj,mem_map_of_mem->Hu,mem_replicate->GF,getElem_range->EO,length->qb,nodup_append->yN,size_toArray->Dj,push_toArray->Dw,zipIdx_cons->FG,take_length->Dr,pairwise_iff_getElem->Ed,getElem?_zip_eq_some->GR,getElem?_append_left->EH,zipIdx_nil->Ek,forIn_nil->zu,mem_filter->yV,length_set->GZ,foldl_cons->DN,getElem?_replicate->aad,zip_map'->aaz
open Option.some renaming inj->à,injEq->dy
open PySem.Heap renaming get?_push_of_some->Ô,get?_push_size->ë,lt_size->Ļ,size_push->e0,get?_update_self->nZ,SameBut->fQ
open Exists renaming elim->å
open Rat renaming le_of_mul_le_mul_right->ŝ,intCast_natCast->ń,mul_nonneg->Ž,natCast_le_natCast->dw,div_mul_cancel->cw,mul_lt_mul_of_pos_right->aZ,natCast_mul->cy,lt_of_mul_lt_mul_right->aK,intCast_mul->gy,intCast_lt_intCast->jr,intCast_le_intCast->mJ,natCast_add->fB,le_of_lt->dx,intCast_add->l6,natCast_nonneg->pd,mul_assoc->l5,intCast_neg->pD,zero_mul->n6,mul_comm->nQ,natCast_lt_natCast->ub,intCast_sub->tS,intCast_one->jy,one_mul->pE,add_mul->nH,sub_eq_add_neg->tU,intCast_zero->oJ,mul_le_mul_of_nonneg_right->Dm,natCast_pos->ya,le_of_mul_le_mul_left->Hq,add_zero->yn,mul_inv_cancel->E6,mul_eq_zero->GA
open _root_.Array renaming length_toList->Ì,getElem?_toList->fh,getElem?_eq_getElem->ϲ,toList_appendList->hY,mem_of_getElem?->tA,mem_def->yR,toList_push->lE,isEmpty_iff->me
open And renaming elim->Ö,intro->oM
open Nat renaming le_trans->ú,le_of_ble_eq_true->Ϙ,zero_add->ů,pow_le_pow_right->a8,lt_of_lt_of_le->ϱ,lt_of_le_of_lt->dU,mod_lt->ϊ,zero_le->Ϫ,mod_eq_of_lt->bR,mul_le_mul_left->ϥ,min_le_left->gY,not_lt->Ϣ,le_refl->aj,lt_or_ge->Ţ,pow_add->lI,two_pow_pos->ϑ,mul_comm->fY,lt_succ_self->jZ,div_add_mod->ł,lt_succ_of_lt->ic,lt_irrefl->fK,le_mul_of_pos_left->ly,div_lt_iff_lt_mul->om,mul_add->Ű,beq->av,lt_of_le_of_ne->ie,log2_lt->Wy,le_of_lt->oa,mul_assoc->j3,le_succ->jW,add_mul->j4,pow_lt_pow_right->fA,ble->aY,lt_trans->r9,succ_le_succ->CU,pow_succ->pC,ne_of_gt->nW,one_mul->pM,mul_one->px,mul_le_mul_right->ye,mod_eq_sub_mod->y9,eq_zero_or_pos->xD,add_right_comm->xJ,sub_zero->tn,ne_of_lt->xc,le_of_lt_succ->so,lt_log2_self->yU,le_of_not_lt->yo,le_add_right->wV,div_eq_of_lt->wX,div_le_iff_le_mul_add_pred->Gk,div_le_self->yf,mul_lt_mul_of_pos_right->EZ,blt->tV,pow_pos->xR,sub_add_cancel->F1,lt_or_eq_of_le->Fv,lt_trichotomy->GP,lt_succ_of_le->GS,le_succ_of_le->Ew,le_of_succ_le->D6,succ_ne_zero->Gh,min_eq_right->FK,not_lt_zero->GW,mul_add_mod->EA,min_eq_left->wR,mul_le_mul->aae
open PySem.Str renaming ofString->ϰ,length->oh
open Int renaming toNat_natCast->Ě,zero_add->ž,natAbs_natCast->rp,fmod_eq_emod_of_nonneg->Ę,fdiv_eq_ediv_of_nonneg->mu,eq_ofNat_of_zero_le->et,add_zero->p7,ofNat->lP,le_of_lt->pQ,mul_assoc->jK,mul_add->tH,natCast_mul->xn,one_mul->U3,zero_mul->aah,mul_comm->tL,ofNat_lt->oo,mul_zero->tY,mul_le_mul_of_nonneg_left->DL,ofNat_le->yZ,lt_or_le->xo,le_of_eq->Hr,add_comm->GH,fmod_nonneg_of_pos->EC,mul_ediv_add_emod->Ŏ,fdiv_fmod_unique'->VC,neg_mul->xt,fdiv_fmod_unique->iC,toNat_of_nonpos->FW,toNat_of_nonneg->Es,natCast_nonneg->Fl,fmod_lt_of_pos->Df,compare_eq_lt->eo,compare_eq_gt->U0,neg_one_mul->xF,natCast_add->yB,mul_ne_zero->xj,fdiv->Ey,natAbs_neg->aaD
open PySem.W renaming piece_cons->ϙ,isStarred->Ý,topFrame->lu,m_lower->jF,boot_heap->nR,fnOf->l7,topRun->fJ,hideAll_get->ju,behindTheImports->y0,m_upper->Ut,allB_of->xS,hideAll_none->F0,sortI->zv,boot_drawn->Fn
open Bool renaming and_eq_true->è,eq_iff_iff->bL,and_eq_true_iff->jU,false_eq_true->aX,not_eq_true->zx,or_eq_true->zg,not_eq_true'->rN,true_and->aaB,not_true->aam
open PySem.Float64 renaming V->d8,cmpInt->gL,cmp->fu,ofInt->jR,ofFrac->tX,isZero->uj,decode->wZ,isInf->fI,sub->l4,mul->wL,div->xk,add->C4,truncOf->EI,divmod->Eh
open PySem.NameKind renaming free->Ő,cell->pj
open Ordering renaming lt->dZ,eq->pA,gt->rT
open PySem.Calls renaming callWith_builtin->gm,callWith_function->lJ,spliced_cons->ua,spliced_nil->rD,Name_function_global->yc,loadGlobal_global->xu,evalArgs_plain->FV,loadGlobal_builtin->Fz
open PySem.Env renaming kindOf->bC
open PySem.Builtin.Int renaming intBits->aA,intTooBig->Ef
open PySem.Builtin.SmallTypes renaming ownedTupleIsFree->ib,nextOf->f5,ownedTupleHandOut->yW
open PySem.Value renaming ref->aD,int->jT,isInt->tD,type->yu,bool->yY,builtin->Et
open PyProof.Rows renaming tail_any->lx,Subscript_->Ş,putAll->jY,subscriptTail->nM,Off->aak,append_at->Hh,part_of->oy,putAll_has->zq
open PUnit renaming unit->ū
open ForInStep renaming yield->aq
open PySem.AutoFloatOps renaming typeIs_float->t8
open PySem.Heap.SameBut renaming update->pV
open PySem.F renaming excRaise_ZeroDivisionError->sW,plainAttrs_list->lY,slot_zip_next->jx,excCall_ZeroDivisionError->Vu,plainAttrs_str->xb,slot_list_index->lS,args_zip_next_1->GI,entry_zip_next->ER,slot_int_rmul->GB,slot_dict_get->xv,slot_list_setitem->sN
open PySem.Builtin.Range renaming rangeSize->ue,small->tq
open PySem.W.WData renaming int->bg
open Nat.succ renaming inj->eu
open PySem.Builtin.List renaming listFitsIndex->jL
open PySem.Builtin renaming bitAnd->ck,divisionGoesByPylong->tN,bitXor->Hv
open Classical renaming byContradiction->tB,em->uk,axiomOfChoice->Hn
open PySem.Thread renaming yieldsInsideHandler->DB,atCollectorCode->uc,calm->xQ
open PySem.W.Fast renaming te14374325043358763698->Gb,te14364793385576792824->ý
open List.cons renaming inj->xP
open PySem.Challenge renaming rw_wb0101_03->tP,pw_wb0101_03->c9
open PySem.Heap.IsList renaming push->zf
open PySem.W.WTm renaming value->lW
open PySem.Builtin.Str renaming strSliceIndices->yz,tooLong->GD
open Prod.mk renaming inj->lV
open PySem.W.WShape renaming hasItems->tO
open PySem.SeqAt renaming RcNeAt->sZ,RcAt->WA,EqAt->zk
open PySem.Txt renaming lower->pf,join->yL
open List.Perm renaming eq_of_pairwise->Gx
open Function renaming comp->zo
open PySem.Obj renaming mapSeq->tQ
open PySem.Sem renaming bind_assoc->zh,wrap->Fd
open PySem.Shared renaming heap->Ei
open PySem.Around renaming frames_deeper->gc
open PySem.StrLaws renaming sliceText->Gm
open PySem.W.OpenLaw renaming wellSaid->DP
open PySem.Value.ref renaming inj->EL
open PySem.Data.dict renaming inj->c0
open PySem.Heap.Ns renaming agree->Tw
open Eq renaming refl->Hp
open PySem.IsRange renaming new->UR
def ϭ{a:α}{P:Prop}(h:a∈([]:Ã α)):P:=ó h Ē
def gC{a:α}{P:Prop}(h:À a=Ä):P:=by injection h
def ÿ{a:α}{P:Prop}(h:Ä=À a):P:=by injection h
def Ϸ{p0 p1 p2:Prop}{G:Prop}(h:p0/\p1/\p2)(k:p0->p1->p2->G):G:=k h.1 h.2.1 h.2.2
def ì{α0:Sort _}{p0 p1:α0->Prop}{G:Prop}(h:∃x0,p0 x0/\p1 x0)(k:∀x0,p0 x0->p1 x0->G):G:=h.elim λx0 r=>k x0 r.1 r.2
def zm{α0:Sort _}{eI:Sort _}{p0:α0->eI->Prop}{G:Prop}(h:∃x0 x1,p0 x0 x1)(k:∀x0 x1,p0 x0 x1->G):G:=h.elim λx0 r=>r.elim λx1 r=>k x0 x1 r
def sm{p0 p1 p2 p3:Prop}{G:Prop}(h:p0/\p1/\p2/\p3)(k:p0->p1->p2->p3->G):G:=k h.1 h.2.1 h.2.2.1 h.2.2.2
def qJ{α0:Sort _}{p0 p1 p2:α0->Prop}{G:Prop}(h:∃x0,p0 x0/\p1 x0/\p2 x0)(k:∀x0,p0 x0->p1 x0->p2 x0->G):G:=h.elim λx0 r=>k x0 r.1 r.2.1 r.2.2
def wO{α0:Sort _}{eI:Sort _}{p0 p1:α0->eI->Prop}{G:Prop}(h:∃x0 x1,p0 x0 x1/\p1 x0 x1)(k:∀x0 x1,p0 x0 x1->p1 x0 x1->G):G:=h.elim λx0 r=>r.elim λx1 r=>k x0 x1 r.1 r.2
def tW{α0:Sort _}{eI:Sort _}{cR:Sort _}{p0:α0->eI->cR->Prop}{G:Prop}(h:∃x0 x1 x2,p0 x0 x1 x2)(k:∀x0 x1 x2,p0 x0 x1 x2->G):G:=h.elim λx0 r=>r.elim λx1 r=>r.elim λx2 r=>k x0 x1 x2 r
def NL{p0 p1 p2 p3 p4:Prop}{G:Prop}(h:p0/\p1/\p2/\p3/\p4)(k:p0->p1->p2->p3->p4->G):G:=k h.1 h.2.1 h.2.2.1 h.2.2.2.1 h.2.2.2.2
def HG{α0:Sort _}{p0 p1 p2 p3:α0->Prop}{G:Prop}(h:∃x0,p0 x0/\p1 x0/\p2 x0/\p3 x0)(k:∀x0,p0 x0->p1 x0->p2 x0->p3 x0->G):G:=h.elim λx0 r=>k x0 r.1 r.2.1 r.2.2.1 r.2.2.2
def LF{α0:Sort _}{eI:Sort _}{p0 p1 p2:α0->eI->Prop}{G:Prop}(h:∃x0 x1,p0 x0 x1/\p1 x0 x1/\p2 x0 x1)(k:∀x0 x1,p0 x0 x1->p1 x0 x1->p2 x0 x1->G):G:=h.elim λx0 r=>r.elim λx1 r=>k x0 x1 r.1 r.2.1 r.2.2
def Ma{α0:Sort _}{eI:Sort _}{cR:Sort _}{p0 p1:α0->eI->cR->Prop}{G:Prop}(h:∃x0 x1 x2,p0 x0 x1 x2/\p1 x0 x1 x2)(k:∀x0 x1 x2,p0 x0 x1 x2->p1 x0 x1 x2->G):G:=h.elim λx0 r=>r.elim λx1 r=>r.elim λx2 r=>k x0 x1 x2 r.1 r.2
def QP{α0:Sort _}{p0 p1 p2 p3 p4:α0->Prop}{G:Prop}(h:∃x0,p0 x0/\p1 x0/\p2 x0/\p3 x0/\p4 x0)(k:∀x0,p0 x0->p1 x0->p2 x0->p3 x0->p4 x0->G):G:=h.elim λx0 r=>k x0 r.1 r.2.1 r.2.2.1 r.2.2.2.1 r.2.2.2.2
def H4{α0:Sort _}{eI:Sort _}{p0 p1 p2 p3:α0->eI->Prop}{G:Prop}(h:∃x0 x1,p0 x0 x1/\p1 x0 x1/\p2 x0 x1/\p3 x0 x1)(k:∀x0 x1,p0 x0 x1->p1 x0 x1->p2 x0 x1->p3 x0 x1->G):G:=h.elim λx0 r=>r.elim λx1 r=>k x0 x1 r.1 r.2.1 r.2.2.1 r.2.2.2
def CI{α0:Sort _}{eI:Sort _}{cR:Sort _}{p0 p1 p2:α0->eI->cR->Prop}{G:Prop}(h:∃x0 x1 x2,p0 x0 x1 x2/\p1 x0 x1 x2/\p2 x0 x1 x2)(k:∀x0 x1 x2,p0 x0 x1 x2->p1 x0 x1 x2->p2 x0 x1 x2->G):G:=h.elim λx0 r=>r.elim λx1 r=>r.elim λx2 r=>k x0 x1 x2 r.1 r.2.1 r.2.2
def Yt{α0:Sort _}{eI:Sort _}{cR:Sort _}{NI:Sort _}{p0 p1:α0->eI->cR->NI->Prop}{G:Prop}(h:∃x0 x1 x2 x3,p0 x0 x1 x2 x3/\p1 x0 x1 x2 x3)(k:∀x0 x1 x2 x3,p0 x0 x1 x2 x3->p1 x0 x1 x2 x3->G):G:=h.elim λx0 r=>r.elim λx1 r=>r.elim λx2 r=>r.elim λx3 r=>k x0 x1 x2 x3 r.1 r.2
def Tx{p0 p1 p2 p3 p4 p5 p6:Prop}{G:Prop}(h:p0/\p1/\p2/\p3/\p4/\p5/\p6)(k:p0->p1->p2->p3->p4->p5->p6->G):G:=k h.1 h.2.1 h.2.2.1 h.2.2.2.1 h.2.2.2.2.1 h.2.2.2.2.2.1 h.2.2.2.2.2.2
def UL{α0:Sort _}{eI:Sort _}{p0 p1 p2 p3 p4:α0->eI->Prop}{G:Prop}(h:∃x0 x1,p0 x0 x1/\p1 x0 x1/\p2 x0 x1/\p3 x0 x1/\p4 x0 x1)(k:∀x0 x1,p0 x0 x1->p1 x0 x1->p2 x0 x1->p3 x0 x1->p4 x0 x1->G):G:=h.elim λx0 r=>r.elim λx1 r=>k x0 x1 r.1 r.2.1 r.2.2.1 r.2.2.2.1 r.2.2.2.2
def JW{α0:Sort _}{eI:Sort _}{cR:Sort _}{p0 p1 p2 p3:α0->eI->cR->Prop}{G:Prop}(h:∃x0 x1 x2,p0 x0 x1 x2/\p1 x0 x1 x2/\p2 x0 x1 x2/\p3 x0 x1 x2)(k:∀x0 x1 x2,p0 x0 x1 x2->p1 x0 x1 x2->p2 x0 x1 x2->p3 x0 x1 x2->G):G:=h.elim λx0 r=>r.elim λx1 r=>r.elim λx2 r=>k x0 x1 x2 r.1 r.2.1 r.2.2.1 r.2.2.2
def OV{α0:Sort _}{eI:Sort _}{cR:Sort _}{NI:Sort _}{p0 p1 p2:α0->eI->cR->NI->Prop}{G:Prop}(h:∃x0 x1 x2 x3,p0 x0 x1 x2 x3/\p1 x0 x1 x2 x3/\p2 x0 x1 x2 x3)(k:∀x0 x1 x2 x3,p0 x0 x1 x2 x3->p1 x0 x1 x2 x3->p2 x0 x1 x2 x3->G):G:=h.elim λx0 r=>r.elim λx1 r=>r.elim λx2 r=>r.elim λx3 r=>k x0 x1 x2 x3 r.1 r.2.1 r.2.2
def M6{a b:Á}(h:a<b):a<=b:=oa h
def Nt{a b c:Á}(h:a<b)(k:b<=c):a<c:=ϱ h k
def ZR{a b c:Á}(h:a<=b)(k:b<c):a<c:=dU h k
def UD{a b c:Á}(h:a<=b)(k:b<=c):a<=c:=ú h k
def Vr{a b c:Á}(h:a<b)(k:b<c):a<c:=r9 h k
def YY{a b:Á}(h:a<=b):a<b+1:=GS h
def M4{a b:Á}(h:¬a<b):b<=a:=Ϣ.1 h
def Xy{a:Á}(h:a≠0):0<a:=Nat.pos_of_ne_zero h
def OD{a b:Á}(h:a<b):0<b:=dU (Ϫ _) h
def ϴ{a b c:Á}(h:a<=b)(k:(aY b c)=true):a<=c:=ú h<|Ϙ k
def Yc{a b:Á}(h:b<a):a≠b:=nW h
def Yv{α:Type u}{P:Ã α->Prop}{l:Ã α}(e:l.length=1)(q:∀a,P [a]):P l:=by
 cases l with
 |nil=>injection e
 |cons a l=>cases l with
  |nil=>exact q a
  |cons=>exact ó (eu e)<|Gh _
@[elab_as_elim] def Å {α:Sort u} {a b:α} {motive:α->Prop} (h:a=b) (k:motive b):motive a:=h▸k
@[elab_as_elim] def Đ {α:Sort u} {a b:α} {motive:α->Prop} (h:b=a) (k:motive b):motive a:=h▸k
namespace Ar
inductive T where
 |v (i:Á)|n (k:Á)|add (a b:T)|sub (a b:T)|ml (k:Á) (a:T)|mr (k:Á) (a:T)|neg (a:T)|of (a:T)
inductive F where
 |le (s:Ò) (a b:T)|lt (s:Ò) (a b:T)|eq (s:Ò) (a b:T)|im (p q:F)|an (p q:F)|or(p q:F)|no (p:F)
noncomputable def nm{α:Type}(c:Á)(k:Á->Á->α):α:=bif av (c%16) 0 then k (c/4096%16^(c/16%256)) (c/4096/16^(c/16%256)) else k (c/16%16^(c%16)) (c/16/16^(c%16))
noncomputable def tm(f:Á):Á->(T->Á->F)->F:=f.rec (λc k=>k (.n 0) c) λ_ t c k=>
 bif tV (c%16) 6 then k (.v<|c%16) (c/16) else bif av (c%16) 6 then k (.v<|c/16%16) (c/256) else bif av (c%16) 7 then nm (c/16) λn c=>k (.n n) c else
 bif av (c%16) 8 then t (c/16) λa c=>t c λb c=>k (.add a b) c else bif av (c%16) 9 then t (c/16) λa c=>t c λb c=>k (.sub a b) c else
 bif av (c%16) 10 then nm (c/16) λn c=>t c λa c=>k (.ml n a) c else bif av (c%16) 11 then nm (c/16) λn c=>t c λa c=>k (.mr n a) c else
 bif av (c%16) 12 then t (c/16) λa c=>k (.neg a) c else bif av (c%16) 13 then t (c/16) λa c=>k (.of a) c else k (.n<|15-c%16) (c/16)
noncomputable def fa(s:Ò)(n:Á)(a b:T):F:=bif av n 0 then .le s a b else bif av n 1 then .lt s a b else .eq s a b
noncomputable def fm(f:Á):Á->(F->Á->F)->F:=f.rec (λc k=>k (.no<|.eq true (.n 0)<|.n 0) c) λ_ g c k=>
 bif tV (c%16) 6 then tm 30 (c/16) λa d=>tm 30 d λb d=>k (fa (tV (c%16) 3) (c%16%3) a b) d else
 bif av (c%16) 6 then g (c/16) λp c=>g c λq c=>k (.im p q) c else bif av (c%16) 7 then g (c/16) λp c=>g c λq c=>k (.an p q) c else
 bif av (c%16) 8 then g (c/16) λp c=>g c λq c=>k (.or p q) c else g (c/16) λp c=>k (.no p) c
noncomputable def fM(c:Á):F:=fm 30 c λp _=>p
noncomputable def gx{α:Type}(d:α)(l:Ã α):Á->α:=l.rec (λ_=>d) λa _ g i=>i.casesOn a g
noncomputable def T.N(x:Á->Á)(t:T):Á:=t.rec x (·) (λ_ _ a b=>a+b) (λ_ _ a b=>a-b) (λk _ a=>k*a) (λk _ a=>a*k) (λ_ _=>0) λ_ _=>0
noncomputable def T.Z(x:Á->Á)(y:Á->Â)(t:T):Â:=t.rec y lP (λ_ _ a b=>a+b) (λ_ _ a b=>a-b) (λk _ a=>lP k*a) (λk _ a=>a*lP k) (λ_ a=>-a) λa _=>(a.N x:Â)
noncomputable def T.Q(q:Á->Rat)(t:T):Rat:=t.rec q (λk=>(k:Rat)) (λ_ _ a b=>a+b) (λ_ _ a b=>a-b) (λk _ a=>(k:Rat)*a) (λk _ a=>a*(k:Rat)) (λ_ a=>-a) λ_ _=>0
noncomputable def F.den(L:Á->Ò->T->T->Prop)(f:F):Prop:=f.rec (L 0) (L 1) (L 2) (λ_ _ p q=>p->q) (λ_ _ p q=>p/\q) (λ_ _ p q=>p\/q) λ_ p=>¬p
noncomputable def L1(x:Á->Á)(y:Á->Â)(k:Á)(s:Ò)(a b:T):Prop:=
 k.casesOn (s.casesOn (a.Z x y<=b.Z x y)<|a.N x<=b.N x) λk=>k.casesOn (s.casesOn (a.Z x y<b.Z x y)<|a.N x<b.N x) λ_=>s.casesOn (a.Z x y=b.Z x y)<|a.N x=b.N x
noncomputable def LQ(q:Á->Rat)(k:Á)(_:Ò)(a b:T):Prop:=k.casesOn (a.Q q<=b.Q q) λk=>k.casesOn (a.Q q<b.Q q) λ_=>a.Q q=b.Q q
noncomputable abbrev Cn:=Â×Ã Â
noncomputable def lc(a b:Â)(p:Ã Â):Ã Â->Ã Â:=p.rec (map (b*·)) λx _ l q=>(a*x+b*q.headD 0)::l q.tail
noncomputable def Cn.l(a b:Â)(p q:Cn)(k:Â):Cn:=(a*p.1+b*q.1+k,lc a b p.2 q.2)
noncomputable def un(i:Á):Ã Â:=i.rec [1] λ_ l=>0::l
noncomputable def bl(f:(Ã Cn×Cn)->(Ã Cn×Cn)->Ã (Ã Cn×Cn))(a b:Ã (Ã Cn×Cn)):Ã (Ã Cn×Cn):=a.flatMap λp=>b.flatMap<|f p
noncomputable def z0:Ã (Ã Cn×Cn):=[([],0,[])]
noncomputable def sc(k:Â):Ã (Ã Cn×Cn)->Ã (Ã Cn×Cn):=map λp=>(p.1,p.2.l k 0 p.2 0)
noncomputable def T.l(t:T):Ò->Ã (Ã Cn×Cn):=t.rec (λi s=>[([],0,un<|s.casesOn (2*i+1)<|2*i)]) (λk _=>[([],lP k,[])])
 (λ_ _ a b s=>bl (λp q=>[(p.1++q.1,p.2.l 1 1 q.2 0)]) (a s)<|b s)
 (λ_ _ a b s=>s.casesOn (bl (λp q=>[(p.1++q.1,p.2.l 1 (-1) q.2 0)]) (a false)<|b false)
  (bl (λp q=>[(p.2.l (-1) 1 q.2 0::(p.1++q.1),p.2.l 1 (-1) q.2 0),(p.2.l 1 (-1) q.2 0::(p.1++q.1),0,[])]) (a true)<|b true))
 (λk _ a s=>sc (lP k)<|a s) (λk _ a s=>sc (lP k)<|a s) (λ_ a s=>s.casesOn (sc (-1)<|a false) z0) λ_ a s=>s.casesOn (a true) z0
noncomputable def pr(a b:Ã (Ã Cn)):Ã (Ã Cn):=a.flatMap λp=>b.map (p++·)
noncomputable def rl(s:Ò)(a b:T)(f:Cn->Cn->Ã (Ã Cn)):Ã (Ã Cn):=(a.l s).flatMap λp=>(b.l s).flatMap λq=>(f p.2 q.2).map (·++(p.1++q.1))
noncomputable def T.lq(t:T):Cn:=t.rec (λi=>(0,un<|2*(i+1)+1)) (λk=>(0,[0,lP k])) (λ_ _ a b=>a.l 1 1 b 0) (λ_ _ a b=>a.l 1 (-1) b 0) (λk _ a=>a.l (lP k) 0 a 0) (λk _ a=>a.l (lP k) 0 a 0) (λ_ a=>a.l (-1) 0 a 0) λ_ _=>(0,[])
noncomputable def cm(k:Á)(p q:Cn)(t:Ò):Ã (Ã Cn):=
 k.casesOn (t.casesOn [[p.l (-1) 1 q 1]] [[p.l 1 (-1) q 0]]) λk=>k.casesOn (t.casesOn [[p.l (-1) 1 q 0]] [[p.l 1 (-1) q 1]]) λ_=>t.casesOn [[p.l 1 (-1) q 1],[p.l (-1) 1 q 1]] [[p.l 1 (-1) q 0,p.l (-1) 1 q 0]]
noncomputable def R1(k:Á)(s:Ò)(a b:T)(t:Ò):Ã (Ã Cn):=rl s a b λp q=>cm k p q t
noncomputable def RQ(k:Á)(_:Ò)(a b:T)(t:Ò):Ã (Ã Cn):=cm k a.lq b.lq t
noncomputable def F.d(R:Á->Ò->T->T->Ò->Ã (Ã Cn))(f:F):Ò->Ã (Ã Cn):=f.rec (R 0) (R 1) (R 2)
 (λ_ _ p q t=>t.casesOn (pr (p true)<|q false)<|p false++q true) (λ_ _ p q t=>t.casesOn (p false++q false)<|pr (p true)<|q true) (λ_ _ p q t=>t.casesOn (pr (p false)<|q false)<|p true++q true) λ_ p t=>p<|!t
noncomputable def sg(i:Â):Á:=i.rec (λn=>n.casesOn 0 λ_=>1) λ_=>2
noncomputable def El(l:Ã Â):Á:=l.rec 0 λa _ g=>Nat.gcd a.natAbs g
noncomputable def EW(c:Cn):Cn:=bif tV 1 (El c.2) then(-((-c.1)/lP (El c.2)),c.2.map (·/lP (El c.2))) else c
noncomputable def zs(cs:Ã Cn)(k:Á):Ã Cn:=cs.filter λc=>(sg<|c.2.headD 0).beq k
noncomputable def WU(cs:Ã Cn):Ò:=cs.any λc=>(sg c.1).beq 1&&c.2.isEmpty
noncomputable def CH(cs:Ã Cn):Ã Cn:=(zs cs 0).map (λc=>(c.1,c.2.tail))++(zs cs 1).flatMap λp=>(zs cs 2).map λq=>EW<|Cn.l (-(q.2.headD 0)) (p.2.headD 0) (p.1,p.2.tail) (q.1,q.2.tail) 0
noncomputable def el(f:Á):Ã Cn->Ò:=f.rec WU λ_ e cs=>WU cs||e (CH cs)
noncomputable def nn(n:Á):Ã Cn:=n.rec [] λi l=>(0,(un<|2*i).map (-1*·))::l
noncomputable def vs(l:Ã Cn):Á:=l.foldl (λm c=>Nat.max m c.2.length) 0
noncomputable def F.W6(f:F):Ò:=(f.d R1 false).all λl=>el (vs l)<|nn (vs l/2+1)++l
noncomputable def F.XH(f:F):Ò:=(f.d RQ false).all λl=>el (vs l) ((1,[0,-1])::l)
noncomputable def ev(r:Á->Â)(l:Ã Â):Á->Â:=l.rec (λ_=>0) λc _ e k=>c*r k+e (k+1)
def HD{a b c:Â}(e:a=b)(h:b<=c):a<=c:=e▸h
noncomputable def Cn.e(r:Á->Â)(k:Á)(c:Cn):Â:=c.1+ev r c.2 k
def Dl(q:Ã Â):∀k,ev r (q.map (b*·)) k=b*ev r q k:=by
 induction q with
 |nil=>exact λk=>(tY b).symm
 |cons c q ih=>exact λk=>(congr (Ù _<|jK b c _)<|ih _).trans (tH b _ _).symm
def AA(q:Ã Â)(k:Á):ev r q k=q.headD 0*r k+ev r q.tail (k+1):=
 q.casesOn ((p7 _).trans<|aah _).symm λ_ _=>rfl
def w1(a b c h r P Q:Â):(a*c+b*h)*r+(a*P+b*Q)=a*(c*r+P)+b*(h*r+Q):=by rw[Int.add_mul,tH,tH,jK,jK];ac_rfl
def OW(p:Ã Â):∀q k,ev r (lc a b p q) k=a*ev r p k+b*ev r q k:=by
 induction p with
 |nil=>exact λq k=>(Dl q k).trans ((Ù (·+_)<|tY a).trans<|ž _).symm
 |cons c p ih=>exact λq k=>(Ù ((a*c+b*q.headD 0)*r k+·)<|ih q.tail<|k+1).trans<|(w1 a b c (q.headD 0) (r k) _ _).trans<|Ù (a*_+b*·) (AA q k).symm
def Ib(p q:Cn):Cn.e r k (p.l a b q n)=a*p.e r k+b*q.e r k+n:=by
 show a*p.1+b*q.1+n+ev r (lc a b p.2 q.2) k=a*(p.1+ev r p.2 k)+b*(q.1+ev r q.2 k)+n;rw[OW,tH,tH];ac_rfl
def An(i:Á):∀k,ev r (un i) k=r (k+i):=by
 induction i with
 |zero=>exact λk=>(p7 _).trans<|U3 _
 |succ i ih=>exact λk=>((Ù (·+_)<|aah _).trans<|ž _).trans<|(ih _).trans<|Ù r<|Nat.succ_add_eq_add_succ k i
def Hd(r:Á->Â)(k:Á)(l:Ã Cn):Prop:=∀c∈l,c.e r k<=0
def Hd.app(h:Hd r k a)(g:Hd r k b):Hd r k (a++b):=λc hc=>(æ.1 hc).elim (h c)<|g c
def Hd.cons(h:c.e r k<=0)(g:Hd r k b):Hd r k (c::b):=λd hd=>(ő.1 hd).elim (λe=>e▸h)<|g d
def Hd.nil:Hd r k []:=λ_ h=>ϭ h
noncomputable def rh(x:Á->Á)(y:Á->Â)(j:Á):Â:=bif (j%2).beq 0 then(x (j/2):Â) else y (j/2)
def O0(i:Á):rh x y (0+2*i)=x i:=by unfold rh;rw[ů,Nat.mul_mod_right,Nat.mul_div_cancel_left _ Nat.two_pos];rfl
def NW(i:Á):rh x y (0+(2*i+1))=y i:=by unfold rh;rw[ů,EA,Nat.mul_add_div Nat.two_pos];rfl
noncomputable def T.u(x:Á->Á)(y:Á->Â)(a:T)(s:Ò):Â:=s.casesOn (a.Z x y) (a.N x:Â)
structure Lo(x:Á->Á)(y:Á->Â)(l:Ã (Ã Cn×Cn))(z:Â):Prop where
 ex:∃r∈l,Hd (rh x y) 0 r.1/\r.2.e (rh x y) 0=z
def Lo.bl(h:Lo x y a u)(g:Lo x y b v)(k:∀p q,Hd (rh x y) 0 p.1->p.2.e (rh x y) 0=u->Hd (rh x y) 0 q.1->q.2.e (rh x y) 0=v->Lo x y (f p q) z):Lo x y (bl f a b) z:=
 qJ h.ex λp hp h1 h2=>qJ g.ex λq hq g1 g2=>ì (k p q h1 h2 g1 g2).ex λr hr k1=>⟨r,di.2 ⟨p,hp,di.2 ⟨q,hq,hr⟩⟩,k1⟩
def Lo.one(h:Hd (rh x y) 0 c)(g:p.e (rh x y) 0=z):Lo x y [(c,p)] z:=⟨_,mc _,h,g⟩
def Lo.sc(h:Lo x y a u)(k:Â)(e:k*u=z):Lo x y (sc k a) z:=
 qJ h.ex λp hp h1 h2=>⟨_,mem_map_of_mem hp,h1,by rw[Ib,h2,aah,p7,p7];exact e⟩
def Lo.z:Lo x y z0 0:=.one .nil rfl
def w2(a b:Â):1*a+1*b+0=a+b:=by omega
def w3(a b:Â):1*a+-1*b+0=a-b:=by omega
def w4{a b:Â}(h:a<=b):1*a+-1*b+0<=0:=by omega
def w5{a b:Â}(h:b<=a):-1*a+1*b+0<=0:=by omega
def w6{a b:Â}(h:a<b):1*a+-1*b+1<=0:=by omega
def w7{a b:Â}(h:b<a):-1*a+1*b+1<=0:=by omega
def T.OT(a:T):∀s,Lo x y (a.l s) (a.u x y s):=by
 induction a with
 |v i=>exact λs=>s.casesOn (.one .nil<|(ž _).trans<|(An _ _).trans<|NW i)<|.one .nil<|(ž _).trans<|(An _ _).trans<|O0 i
 |n k=>exact λs=>s.casesOn (.one .nil<|p7 _)<|.one .nil<|p7 _
 |add a b ha hb=>exact λs=>(ha s).bl (hb s) λp q p1 p2 q1 q2=>.one (p1.app q1)<|(Ib _ _).trans<|p2▸q2▸(w2 _ _).trans (s.casesOn rfl rfl)
 |sub a b ha hb=>
  intro s;cases s with
  |false=>exact(ha _).bl (hb _) λp q p1 p2 q1 q2=>.one (p1.app q1)<|(Ib _ _).trans<|p2▸q2▸w3 _ _
  |true=>
   refine(ha _).bl (hb _) λp q p1 p2 q1 q2=>(Nat.le_total (b.N x)<|a.N x).elim (λh=>?_) λh=>?_
   .exact⟨_,.head _,.cons (HD (Ib _ _)<|p2▸q2▸w5 (yZ.2 h))<|p1.app q1,(Ib _ _).trans<|p2▸q2▸(w3 _ _).trans (Int.ofNat_sub h).symm⟩
   .exact⟨_,.tail _<|.head _,.cons (HD (Ib _ _)<|p2▸q2▸w4 (yZ.2 h))<|p1.app q1,Ù Nat.cast (Nat.sub_eq_zero_of_le h).symm⟩
 |ml k a ha=>exact λs=>(ha s).sc _<|s.casesOn rfl (xn _ _).symm
 |mr k a ha=>exact λs=>(ha s).sc _<|s.casesOn (tL _ _)<|(tL _ _).trans (xn _ _).symm
 |neg a ha=>exact λs=>s.casesOn ((ha false).sc _<|xF _) .z
 |of a ha=>exact λs=>s.casesOn (ha true) .z
structure Ds(x:Á->Á)(y:Á->Â)(l:Ã (Ã Cn)):Prop where
 ex:∃c∈l,Hd (rh x y) 0 c
def Ds.l(h:Ds x y a):Ds x y (a++b):=ì h.ex λc m h=>⟨c,yT _ m,h⟩
def Ds.r(h:Ds x y b):Ds x y (a++b):=ì h.ex λc m h=>⟨c,mem_append_right _ m,h⟩
def Ds.pr(h:Ds x y a)(g:Ds x y b):Ds x y (pr a b):=ì h.ex λc m h=>ì g.ex λd n g=>⟨c++d,di.2 ⟨c,m,mem_map_of_mem n⟩,h.app g⟩
def Ds.rl(k:∀p q:Cn,p.e (rh x y) 0=a.u x y s->q.e (rh x y) 0=b.u x y s->Ds x y (f p q)):Ds x y (rl s a b f):=
 qJ (a.OT s).ex λp hp h1 h2=>qJ (b.OT s).ex λq hq g1 g2=>ì (k _ _ h2 g2).ex λl hl hh=>⟨_,di.2 ⟨p,hp,di.2 ⟨q,hq,mem_map_of_mem hl⟩⟩,hh.app<|h1.app g1⟩
def Ds.one(m:[c]∈w)(h:Cn.e (rh x y) 0 c<=0):Ds x y w:=⟨_,m,.cons h .nil⟩
def He{p q:Cn}(e1:p.e r k=u)(e2:q.e r k=v)(h:a*u+b*v+n<=0):(p.l a b q n).e r k<=0:=HD (Ib p q)<|e1.symm▸e2.symm▸h
noncomputable def SJ(k:Á)(A B:Â):Prop:=k.casesOn (A<=B) λk=>k.casesOn (A<B) λ_=>A=B
def AL{p q:Cn}(e1:p.e (rh x y) 0=A)(e2:q.e (rh x y) 0=B):∀k,(SJ k A B->Ds x y (cm k p q true))/\(¬SJ k A B->Ds x y (cm k p q false))
 |0=>⟨λh=>.one (.head _)<|He e1 e2<|w4 h,λh=>.one (.head _)<|He e1 e2<|w7<|Int.not_le.1 h⟩
 |1=>⟨λh=>.one (.head _)<|He e1 e2<|w6 h,λh=>.one (.head _)<|He e1 e2<|w5<|Int.not_lt.1 h⟩
 |_+2=>⟨λh=>⟨_,.head _,.cons (He e1 e2<|w4<|Hr h)<|.cons (He e1 e2<|w5<|Hr h.symm) .nil⟩,λh=>(Int.lt_or_gt_of_ne h).elim (λk=>.one (.head _)<|He e1 e2<|w6 k) λk=>.one (.tail _<|.head _)<|He e1 e2<|w7 k⟩
def R5(x:Á->Á)(y:Á->Â)(p:Prop)(f:Ò->Ã (Ã Cn)):Prop:=(p->Ds x y (f true))/\(¬p->Ds x y (f false))
def Ov(k:Á)(s:Ò)(a b:T):R5 x y (L1 x y k s a b) (R1 k s a b):=by
 have e:L1 x y k s a b↔SJ k (a.u x y s) (b.u x y s):=match k with
  |0=>s.casesOn .rfl yZ.symm
  |1=>s.casesOn .rfl oo.symm
  |_+2=>s.casesOn .rfl Int.ofNat_inj.symm
 exact⟨λh=>.rl λp q e1 e2=>(AL e1 e2 k).1<|e.1 h,λh=>.rl λp q e1 e2=>(AL e1 e2 k).2 λg=>h<|e.2 g⟩
def F.QZ(R)(L)(H:∀k s a b,R5 x y (L k s a b)<|R k s a b)(f:F):R5 x y (f.den L) (f.d R):=by
 induction f with
 |le s a b=>exact H 0 s a b
 |lt s a b=>exact H 1 s a b
 |eq s a b=>exact H 2 s a b
 |im p q hp hq=>exact⟨λh=>(uk<|p.den L).elim (λk=>(hq.1<|h k).r) λk=>(hp.2 k).l,λh=>(hp.1<|tB λk=>h λe=>ó e k).pr<|hq.2 λk=>h λ_=>k⟩
 |an p q hp hq=>exact⟨λh=>(hp.1 h.1).pr<|hq.1 h.2,λh=>(uk<|p.den L).elim (λk=>(hq.2 λe=>h ⟨k,e⟩).r) λk=>(hp.2 k).l⟩
 |or p q hp hq=>exact⟨λh=>h.elim (λk=>(hp.1 k).l) λk=>(hq.1 k).r,λh=>(hp.2 λk=>h<|.inl k).pr<|hq.2 λk=>h<|.inr k⟩
 |no p hp=>exact⟨hp.2,λh=>hp.1<|Classical.not_not.1 h⟩
def EB(l:Ã Â):∀a∈l,(El l:Â)∣a:=by
 induction l with
 |nil=>exact λ_ h=>ϭ h
 |cons b l ih=>exact λa h=>(ő.1 h).elim (λe=>e▸Int.ofNat_dvd_left.2 (Nat.gcd_dvd_left _ _)) λh=>Int.dvd_trans (Int.ofNat_dvd.2<|Nat.gcd_dvd_right _ _)<|ih a h
def LI(q:Ã Â):(∀a∈q,g∣a)->∀k,ev r q k=g*ev r (q.map (·/g)) k:=by
 induction q with
 |nil=>exact λ_ k=>(tY g).symm
 |cons c q ih=>exact λh k=>(congr (Ù (·*r k+·) (Int.mul_ediv_cancel'<|h c<|.head _).symm)<|ih (λa ha=>h a<|.tail _ ha) _).trans<|(Ù (·+_)<|jK _ _ _).trans (tH _ _ _).symm
def Eu{c:Cn}(h:c.e r k<=0):(EW c).e r k<=0:=by
 unfold EW;generalize hb:tV 1 (El c.2)=b;cases b with
 |false=>exact h
 |true=>
  have e:c.1+ev r c.2 k<=0:=h;rw[LI c.2 (EB _) k,tL,GH] at e;have:=Int.le_ediv_of_mul_le (oo.2<|r9 Nat.zero_lt_one<|Ϙ hb)<|(Int.zero_sub _).symm▸Int.le_sub_right_of_add_le e;exact HD (GH _ _)<|Int.sub_nonpos_of_le this
def VB{i:Â}:(sg i).beq 0=true->i=0:=i.rec (λn=>n.casesOn (λ_=>rfl) λ_ h=>nomatch h) λ_ h=>nomatch h
def RV{i:Â}:(sg i).beq 1=true->0<i:=i.rec (λn=>n.casesOn (λh=>nomatch h) λn _=>oo.2<|Nat.succ_pos n) λ_ h=>nomatch h
def SO{i:Â}:(sg i).beq 2=true->i<0:=i.rec (λn=>n.casesOn (λh=>nomatch h) λ_ h=>nomatch h) λn _=>Int.negSucc_lt_zero n
def Gn(h:Hd r k cs):WU cs=false:=any_eq_false.2 λc hc e=>
 let e:=jU.1 e
 have h:c.1+ev r c.2 k<=0:=h c hc
 ó (RV e.1) (Int.not_lt.2<|HD (p7 c.1).symm (isEmpty_iff.1 e.2▸h:c.1+ev r [] k<=0))
def w8{P Q u v r p q:Â}(a:p+(u*r+P)<=0)(b:q+(v*r+Q)<=0)(hu:0<u)(hv:v<0):-v*(p+P)+u*(q+Q)+0<=0:=by
 have a:=DL a<|pQ<|Int.neg_pos_of_neg hv;have b:=DL b<|pQ hu;grind
def Kd(f:Á):∀k cs,Hd r k cs->el f cs=false:=by
 induction f with
 |zero=>exact λk cs h=>Gn h
 |succ f ih=>
  refine λk cs h=>(Ù (·||_)<|Gn h).trans<|ih (k+1) _<|.app (λc hc=>?_) λc hc=>?_
  .obtain⟨d,hd,rfl⟩:=dp.1 hc;have hd:=yV.1 hd;exact HD (Ù (d.1+·)<|(AA _ _).trans<|(Ù (·*_+_)<|VB hd.2).trans<|(Ù (·+_)<|aah _).trans<|ž _).symm<|h d hd.1
  .obtain⟨p,hp,hc⟩:=di.1 hc;obtain⟨q,hq,rfl⟩:=dp.1 hc;have hp:=yV.1 hp;have hq:=yV.1 hq;exact Eu<|HD (Ib _ _)<|w8 (HD (Ù _ (AA p.2 k).symm)<|h p hp.1) (HD (Ù _ (AA q.2 k).symm)<|h q hq.1) (RV hp.2)<|SO hq.2
def Qf(n:Á):Hd (rh x y) 0 (nn n):=by
 induction n with
 |zero=>exact .nil
 |succ n ih=>exact .cons (HD ((ž _).trans<|(Dl _ _).trans<|(Ù _<|(An _ _).trans<|O0 n).trans<|xF _)<|Int.neg_nonpos_of_nonneg<|Fl _) ih
def F.ok(f:F)(h:f.W6=true):f.den (L1 x y):=tB λk=>ì ((f.QZ R1 (L1 x y) Ov).2 k).ex λl m hl=>
 ó (all_eq_true.1 h l m) (by rw[Kd _ 0 _ ((Qf _).app hl)];decide)
def YH(a:Rat):a*(a.den:Rat)=(a.num:Rat):=(Ù (·*(a.den:Rat))<|(Rat.mkRat_self a).symm.trans<|Rat.mkRat_eq_div _ _).trans<|cw λh=>a.den_nz<|Rat.natCast_inj.1 h
def Uc(l:Ã Rat):∃d:Á,0<d/\∀i,∃z:Â,gx 0 l i*(d:Rat)=z:=by
 induction l with
 |nil=>exact⟨1,Nat.one_pos,λ_=>⟨0,n6 _⟩⟩
 |cons a l ih=>
  obtain⟨d,hd,h⟩:=ih;refine⟨a.den*d,Nat.mul_pos a.den_pos hd,λi=>?_⟩;cases i with
  |zero=>exact⟨a.num*(d:Â),by show a*_=_;rw[cy,<-l5,YH,gy,ń]⟩
  |succ i=>obtain⟨z,h⟩:=h i;exact⟨z*(a.den:Â),by show gx 0 l i*_=_;rw[cy,nQ (a.den:Rat),<-l5,h,gy,ń]⟩
def JY{d:Á}(H:∀i,q i*(d:Rat)=((z i:Â):Rat))(t:T):((t.lq.e (rh x λi=>i.casesOn (d:Â) z) 0:Â):Rat)=t.Q q*(d:Rat):=by
 have cb:∀{a b:T}{u v:Â}{r:Á->Â},((a.lq.e r 0:Â):Rat)=a.Q q*(d:Rat)->((b.lq.e r 0:Â):Rat)=b.Q q*(d:Rat)->(((a.lq.l u v b.lq 0).e r 0:Â):Rat)=((u:Rat)*a.Q q+(v:Rat)*b.Q q)*(d:Rat):=λha hb=>by
  rw[Ib,p7,l6,gy,gy,ha,hb,nH,l5,l5]
 induction t with
 |v i=>exact(Ù (λa:Â=>(a:Rat))<|(ž _).trans<|(An _ _).trans<|NW<|i+1).trans (H i).symm
 |n k=>exact(Ù (λa:Â=>(a:Rat))<|show(0:Â)+(0*_+((k:Â)*(d:Â)+0))=k*d by rw[aah,ž,ž,p7]).trans<|gy _ _
 |add a b ha hb=>exact(cb ha hb).trans<|Ù (·*_)<|by rw[jy,pE,pE];rfl
 |sub a b ha hb=>exact(cb ha hb).trans<|Ù (·*_)<|by rw[jy,pE,pD,Rat.neg_mul,jy,pE];exact(tU _ _).symm
 |ml k a ha=>exact(cb ha ha).trans<|Ù (·*_)<|by rw[oJ,n6,yn];rfl
 |mr k a ha=>exact(cb ha ha).trans<|Ù (·*_)<|by rw[oJ,n6,yn,nQ];rfl
 |neg a ha=>exact(cb ha ha).trans<|Ù (·*_)<|by rw[oJ,n6,yn,pD,Rat.neg_mul,jy,pE];rfl
 |of a ha=>exact(n6 _).symm
def F.H2(l:Ã Rat)(f:F)(h:f.XH=true):f.den (LQ<|gx 0 l):=tB λk=>by
 obtain⟨d,hd,H⟩:=Uc l;obtain⟨z,H⟩:=Hn H;have hD:(0:Rat)<d:=ub.2 hd;have ok:∀k s a b,R5 (λ_=>0) (λi=>i.casesOn (d:Â) z) (LQ (gx 0 l) k s a b) (RQ k s a b):=λk s a b=>by
  have e1:=JY (x:=λ_=>0) H a;have e2:=JY (x:=λ_=>0) H b;have e:LQ (gx 0 l) k s a b↔SJ k _ _:=match k with
   |0=>⟨λh=>mJ.1<|e1.symm▸e2.symm▸Dm h (dx hD),λh=>ŝ (e1▸e2▸mJ.2 h) hD⟩
   |1=>(Rat.mul_lt_mul_right hD).symm.trans<|e1▸e2▸jr
   |_+2=>⟨λh=>Rat.intCast_inj.1<|e1.trans<|(Ù (·*_) h).trans e2.symm,λh=>Rat.le_antisymm (ŝ (e1▸e2▸h▸Rat.le_refl) hD)<|ŝ (e1▸e2▸h▸Rat.le_refl) hD⟩
  exact⟨λh=>(AL rfl rfl k).1<|e.1 h,λh=>(AL rfl rfl k).2 λg=>h<|e.2 g⟩
 refine ì ((f.QZ RQ _ ok).2 k).ex λm hm hl=>ó (all_eq_true.1 h m hm) ?_;rw[Kd _ 0 _ (.cons ?_ hl)];decide;show(1:Â)+(0*_+(-1*(d:Â)+0))<=0;omega
end Ar
section
open Ar
noncomputable abbrev aN(c:Á)(l:Ã Á)(m:Ã Â):Prop:=(fM c).den<|L1 (gx 0 l)<|gx 0 m
noncomputable abbrev aQ(c:Á)(l:Ã Rat):Prop:=(fM c).den<|LQ<|gx 0 l
section
variable(n:Á)(h:(fM n).W6=true:=by decide)
include h
def A1{a:Á}:aN n [a] []:=F.ok _ h
def A2{a b:Á}:aN n [a,b] []:=F.ok _ h
def A3{a b c:Á}:aN n [a,b,c] []:=F.ok _ h
def A4{a b c d:Á}:aN n [a,b,c,d] []:=F.ok _ h
def A5{a b c d e:Á}:aN n [a,b,c,d,e] []:=F.ok _ h
def A6{a b c d e f:Á}:aN n [a,b,c,d,e,f] []:=F.ok _ h
def A7{a b c d e f g:Á}:aN n [a,b,c,d,e,f,g] []:=F.ok _ h
def Ad{z:Â}:aN n [] [z]:=F.ok _ h
def wo{a:Á}{z:Â}:aN n [a] [z]:=F.ok _ h
def Jw{a b:Á}{z:Â}:aN n [a,b] [z]:=F.ok _ h
def Sr{a b c:Á}{z:Â}:aN n [a,b,c] [z]:=F.ok _ h
def qU{z y:Â}:aN n [] [z,y]:=F.ok _ h
def RP{a:Á}{z y:Â}:aN n [a] [z,y]:=F.ok _ h
def U8{a b:Á}{z y:Â}:aN n [a,b] [z,y]:=F.ok _ h
def V5{a b c d:Á}{z:Â}:aN n [a,b,c,d] [z]:=F.ok _ h
def YV{a b c:Á}{z y:Â}:aN n [a,b,c] [z,y]:=F.ok _ h
def A0:aN n [] []:=F.ok _ h
def ZM{a b c d:Á}{z y:Â}:aN n [a,b,c,d] [z,y]:=F.ok _ h
def Sy{a b c d e:Á}{z y:Â}:aN n [a,b,c,d,e] [z,y]:=F.ok _ h
def R9{a b c d e f:Á}{z y:Â}:aN n [a,b,c,d,e,f] [z,y]:=F.ok _ h
def W8{z y x:Â}:aN n [] [z,y,x]:=F.ok _ h
def Zb{a:Á}{z y x:Â}:aN n [a] [z,y,x]:=F.ok _ h
def UM{a b c:Á}{z y x:Â}:aN n [a,b,c] [z,y,x]:=F.ok _ h
def Xg{a b c d:Á}{z y x:Â}:aN n [a,b,c,d] [z,y,x]:=F.ok _ h
def Yd{z y x w:Â}:aN n [] [z,y,x,w]:=F.ok _ h
def WM{a:Á}{z y x w:Â}:aN n [a] [z,y,x,w]:=F.ok _ h
end
section
variable(n:Á)(h:(fM n).XH=true:=by decide)
include h
def Q1{a:Rat}:aQ n [a]:=F.H2 _ _ h
def Q2{a b:Rat}:aQ n [a,b]:=F.H2 _ _ h
def Q3{a b c:Rat}:aQ n [a,b,c]:=F.H2 _ _ h
def Q4{a b c d:Rat}:aQ n [a,b,c,d]:=F.H2 _ _ h
def Q5{a b c d e:Rat}:aQ n [a,b,c,d,e]:=F.H2 _ _ h
def Q6{a b c d e f:Rat}:aQ n [a,b,c,d,e,f]:=F.H2 _ _ h
def Q7{a b c d e f g:Rat}:aQ n [a,b,c,d,e,f,g]:=F.H2 _ _ h
def Q8{a b c d e f g j:Rat}:aQ n [a,b,c,d,e,f,g,j]:=F.H2 _ _ h
def Q9{a b c d e f g j i:Rat}:aQ n [a,b,c,d,e,f,g,j,i]:=F.H2 _ _ h
end
end
def dq(a:Rat)(k:Á):k*(a/k)=a\/(k:Rat)=0:=(uk<|(k:Rat)=0).elim .inr λh=>.inl<|by rw[nQ];exact cw h
def dl(a:Rat)(j k:Á):k*(j/k*a)=j*a\/(k:Rat)=0:=(uk<|(k:Rat)=0).elim .inr λh=>.inl<|by rw[<-l5,nQ k,cw h]
def dr(a:Rat)(j k:Á):k*(a*(j/k))=j*a\/(k:Rat)=0:=by rw[nQ a];exact dl a j k
def dm(a k:Á):k*(a/k)+a%k=a/\(a%k<k\/k=0):=⟨ł a k,(xD k).elim .inr λh=>.inl<|ϊ a h⟩
def dz(a:Â)(k:Á):k*(a/k)+a%k=a/\(0<=a%k/\a%k<k\/k=0):=⟨Ŏ a k,(xD k).elim .inr λh=>.inl ⟨Int.emod_nonneg a<|Int.ofNat_ne_zero.2<|nW h,Int.emod_lt_of_pos a<|oo.2 h⟩⟩
def iY(a:Â):0<=a/\(a.toNat:Â)=a\/a<0/\a.toNat=0:=(xo a 0).elim (λh=>.inr ⟨h,FW<|pQ h⟩) λh=>.inl ⟨h,Es h⟩
def Rc(a:Â):0<=a/\(a.natAbs:Â)=a\/a<0/\(a.natAbs:Â)=-a:=(xo a 0).elim (λh=>.inr ⟨h,Int.ofNat_natAbs_of_nonpos<|pQ h⟩) λh=>.inl ⟨h,Int.natAbs_of_nonneg h⟩
def Aj(a b:Á):a<=b/\min a b=a\/b<a/\min a b=b:=(Ţ b a).elim (λh=>.inr ⟨h,FK<|oa h⟩) λh=>.inl ⟨h,wR h⟩
def MI(a b:Â):a<=b/\min a b=a\/b<a/\min a b=b:=(xo b a).elim (λh=>.inr ⟨h,Int.min_eq_right<|pQ h⟩) λh=>.inl ⟨h,Int.min_eq_left h⟩
set_option genCtorIdx true in
set_option genInjectivity true in
inductive V where
 |none|bool (b:Ò)|int (i:Â)|á (b:ā)|str (s:Str)|ty (n:pF)|fn (a:Ĳ)
 |ñ (xs:Ã V)|Ñ (xs:Ã V)
 deriving Inhabited
noncomputable abbrev PB:=Ĳ->Ï Obj
mutual
inductive VR(B:PB):V->Ë->Prop
 |none:VR B .none .none
 |bool {b}:VR B (.bool b) (.bool b)
 |int {i t}:VR B (.int i) (.int i t)
 |á {b t}:VR B (.á b) (.float b t)
 |str {s t}:VR B (.str s) (.str s t)
 |ty {n}:VR B (.ty n) (.type n)
 |fn {a o fd} (ho:B a=À o) (hd:o.data=.func fd):VR B (.fn a) (.ref a)
 |ñ {xs a o n items} (ho:B a=À o) (hc:o.cls=.type "tuple") (hd:o.data=.seq items n) (h:ě B xs items.toList):VR B (.ñ xs) (.ref a)
 |Ñ {xs a o n items} (ho:B a=À o) (hc:o.cls=.type "list") (hd:o.data=.seq items n) (hx:o.dict=Ä/\o.slots=#[]) (h:ě B xs items.toList):VR B (.Ñ xs) (.ref a)
inductive ě(B:PB):Ã V->Ã Ë->Prop
 |nil:ě B [] []
 |cons {v x vs xs} (h:VR B v x) (t:ě B vs xs):ě B (v::vs) (x::xs)
end
def ŀ(B B':PB):Prop:=∀a o,B a=À o->B' a=À o
def ŀ.refl(B:PB):ŀ B B:=λ_ _ h=>h
def ŀ.trans(h:ŀ B C)(k:ŀ C D):ŀ B D:=λa o e=>k a o<|h a o e
def ě.ind{M:Ã V->Ã Ë->Prop}(n:M [] [])(c:∀{v x vs xs},VR B v x->ě B vs xs->M vs xs->M (v::vs) (x::xs))(h:ě B vs xs):M vs xs:=
 h.rec (motive_1:=λ_ _ _=>True) (motive_2:=λa b _=>M a b) trivial trivial trivial trivial trivial trivial (λ_ _=>trivial) (λ_ _ _ _ _=>trivial) (λ_ _ _ _ _ _=>trivial) n λa b _ d=>c a b d
def VR.mono(hB:ŀ B B')(h:VR B v x):VR B' v x:=
 h.rec (motive_1:=λv x _=>VR B' v x) (motive_2:=λa b _=>ě B' a b) .none .bool .int .á .str .ty (λo=>.fn<|hB _ _ o) (λo f c _=>.ñ (hB _ _ o) f c) (λo f c hx _=>.Ñ (hB _ _ o) f c hx) .nil λ_ _=>.cons
def ě.mono(hB:ŀ B B')(h:ě B vs xs):ě B' vs xs:=h.ind .nil λa _=>.cons<|a.mono hB
def ě.length(h:ě B vs xs):vs.length=xs.length:=h.ind (M:=λa b=>a.length=b.length) rfl λ_ _=>Ù (·+1)
def ě.get{v:V}(h:ě B vs xs):∀{i:Á},vs[i]?=À v->∃x,xs[i]?=À x/\VR B v x:=
 h.ind (M:=λa b=>∀{i:Á},a[i]?=À v->∃x,b[i]?=À x/\VR B v x) (λe=>ÿ e) λ{_ x _ _}c _ ih{i}e=>match i with
  |0=>⟨x,rfl,à e▸c⟩
  |_+1=>ih e
def ě.append(h:ě B vs xs)(k:ě B us ys):ě B (vs++us) (xs++ys):=h.ind (M:=λa b=>ě B (a++us)<|b++ys) k λa _=>.cons a
def ě.reverse(h:ě B vs xs):ě B vs.reverse xs.reverse:=h.ind (M:=λa b=>ě B a.reverse b.reverse) .nil λa _ ih=>by simpa using ih.append (.cons a .nil)
def ě.drop(n:Á)(h:ě B vs xs):ě B (vs.drop n) (xs.drop n):=
 h.ind (M:=λa b=>∀n,ě B (a.drop n)<|b.drop n) (λn=>by simpa using ě.nil) (λa t ih n=>match n with
  |0=>.cons a t
  |n+1=>ih n) n
def ě.take(n:Á)(h:ě B vs xs):ě B (vs.take n) (xs.take n):=
 h.ind (M:=λa b=>∀n,ě B (a.take n)<|b.take n) (λn=>by simpa using ě.nil) (λa t ih n=>match n with
  |0=>.nil
  |n+1=>.cons a<|ih n) n
def ě.set(n:Á)(h:ě B vs xs)(k:VR B v x):ě B (vs.set n v) (xs.set n x):=
 h.ind (M:=λa b=>∀n,ě B (a.set n v)<|b.set n x) (λ_=>.nil) (λa t ih n=>match n with
  |0=>.cons k t
  |n+1=>.cons a<|ih n) n
def ě.eraseIdx(n:Á)(h:ě B vs xs):ě B (vs.eraseIdx n) (xs.eraseIdx n):=
 h.ind (M:=λa b=>∀n,ě B (a.eraseIdx n)<|b.eraseIdx n) (λ_=>.nil) (λa t ih n=>match n with
  |0=>t
  |n+1=>.cons a<|ih n) n
def IsL(h:gk)(a:Ĳ)(items:gS Ë):Prop:=∃o,h.get? a=À o/\o.cls=.type "list"/\(∃n,o.data=.seq items n)/\o.dict=Ä/\o.slots=#[]
def IsL.isList(x:IsL h a items):h.IsList a items:=x.imp λ_ r=>⟨r.1,r.2.1,r.2.2.1⟩
def IsL.keep(x:IsL h a items)(k:∀o,h.get? a=À o->h'.get? a=À o):IsL h' a items:=x.imp λo r=>⟨k o r.1,r.2⟩
noncomputable abbrev St:=Ã<|Ï<|V×Á
noncomputable def St.get(σ:St)(i:Á):Ï (V×Á):=(σ[i]?).getD Ä
noncomputable def St.ö(σ:St)(i:Á)(v:V)(m:Á):St:=set σ i<|À (v,m)
def St.a9(σ:St)(i j:Á)(v:V)(m:Á):(σ.ö i v m).get j=if i=j/\i<σ.length then À (v,m) else σ.get j:=by
 unfold St.get St.ö;refine Å (kU) ?_;by_cases h:i=j
 .subst h;by_cases a:i<σ.length
  .simp[a]
  .simp[a]
 .simp[h]
inductive ă(h:gk)(B:PB):Ã (Ã V)->Ã Ĳ->Prop
 |nil:ă h B [] []
 |cons {xs items a cz as} (hl:IsL h a items) (hB:B a=Ä) (hv:ě B xs items.toList) (t:ă h B cz as):ă h B (xs::cz) (a::as)
inductive ĭ(h:gk)(B:PB):V->Á->Ë->Ã Ĳ->Prop
 |z {v x} (hv:VR B v x):ĭ h B v 0 x []
 |one {xs a items} (hl:IsL h a items) (hB:B a=Ä) (hv:ě B xs items.toList):ĭ h B (.Ñ xs) 1 (.ref a) [a]
 |two {cz a as} (hl:IsL h a (as.map aD).toArray) (hB:B a=Ä) (hs:ă h B cz as) (nd:(a::as).Nodup):ĭ h B (.Ñ<|cz.map .Ñ) 2 (.ref a) (a::as)
def At(h:gk)(env:ey)(x:Str)(val:Ë):Prop:=
 (env.kindOf x=À .local/\∃m,h.Ns env.locals m/\m x=À val)\/
 ((env.kindOf x=À .cell\/(env.kindOf x=À .free/\(x==("__classdict__":Str))=false))/\∃c,env.cells.lookup x=À c/\h.IsCell c (À val))
structure nY where
 a:Ĳ
 line:Â
 col:Â
 q:Str
noncomputable def jH:Ã nY:=[⟨44,80,4,"_int2digits.<locals>.inner"⟩,⟨51,95,4,"_digits2int.<locals>.inner"⟩]
noncomputable def bS:Ã Ĳ:=jH.map (·.a)
def mZ(a:Ĳ)(B:PB)(ps:gS Ë):Prop:=ps=#[]\/∃x∈jH,x.a=a/\∃c,ps=#[rawInt x.line,rawInt x.col,.ref c]/\∀h:gk,ŀ B h.get?->h.CodeRec (.ref c) x.q
structure cg(B:PB)(h:gk)(a:Ĳ):Prop where
 fresh:B a=Ä
 tab:∃o ps,h.get? a=À o/\o.data=.fields ps/\mZ a B ps/\o={cls:=.none,data:=.fields ps}
def UQ(P:Ĳ->Prop)(B:PB)(h:gk):Prop:=∀a∈bS,P a/\cg B h a
def mZ.mono(hB:ŀ B B'):mZ a B ps->mZ a B' ps:=
 λh=>Or.elim h .inl λh=>qJ h λx hx b r=>ì r λc e f=>.inr ⟨x,hx,b,c,e,λh k=>f h<|hB.trans k⟩
def cg.go(x:cg B h a)(k:∀o,h.get? a=À o->h'.get? a=À o)(hB:ŀ B B')(b:B' a=Ä):cg B' h' a:=
 ⟨b,H4 x.tab λo ps ho hd hp e=>⟨o,ps,k _ ho,hd,hp.mono hB,e⟩⟩
def cg.alive(x:cg B h a):∃o,h.get? a=À o:=H4 x.tab λ_ _ ho _ _ _=>⟨_,ho⟩
def cg.dP(x:cg B h a)(j:IsL h b items):a≠b:=by
 rintro rfl;refine LF x.tab λp ps g f _=>?_;refine HG j ?_;rintro o c m ⟨n,k⟩ _;obtain rfl:=à<|g.symm.trans c;injection f.symm.trans k
def cg.ne_ns(x:cg B h a)(j:h.Ns b mm):a≠b:=by
 rintro rfl;refine LF x.tab λp ps g f _=>?_;refine CI j λo es m c k _=>?_;obtain rfl:=à<|g.symm.trans c;injection f.symm.trans k
def cg.iK(x:cg B h a)(j:h.IsCell b v):a≠b:=by
 rintro rfl;refine LF x.tab λm ps g f _=>?_;refine ì j λo c k=>?_;obtain rfl:=à<|g.symm.trans c;injection f.symm.trans k
structure Ok(T:gk)(P:Ĳ->Prop)(B:PB)(env:ey)(δ:Str->Ï Á)(wr:Str->Ò)(σ:St)(α:Á->Ã Ĳ)(h:gk):Prop where
 top:∀a o,T.get? a=À o->h.get? a=À o
 low:∀a,P a->T.get? a=Ä
 hi:∀a,h.get? a=Ä->P a
 base:ŀ B h.get?
 kind:env.scope.kind=.function
 glob:env.globals=ż/\env.builtins=br
 loc:(∃m,h.Ns env.locals m)/\P env.locals/\B env.locals=Ä
 cells:∀x y c,env.cells.lookup x=À c->env.cells.lookup y=À c->x=y
 Ė:∀x c,env.cells.lookup x=À c->∃v,h.IsCell c v
 ϓ:∀x,(env.kindOf x=À .cell\/env.kindOf x=À .free)->∃c,env.cells.lookup x=À c
 wrs:∀x,wr x=true->env.kindOf x=À .local\/(env.kindOf x=À .cell/\∃c v,env.cells.lookup x=À c/\h.IsCell c v/\P c/\B c=Ä)
 inj:∀x y i,δ x=À i->δ y=À i->x=y
 vars:∀x i v m,δ x=À i->σ.get i=À (v,m)->∃val,At h env x val/\ĭ h B v m val (α i)/\∀a∈α i,P a
 apart:∀x y i j,δ x=À i->δ y=À j->i≠j->(σ.get i).isSome=true->(σ.get j).isSome=true->∀a∈α i,a∉α j
 ex:UQ P B h
def Ok.Æ{G:Prop}(K:Ok T P B env δ wr σ α h)(x:Str)(i:Á)(v:V)(m:Á)(hi:δ x=À i)(b:σ.get i=À (v,m))(k:∀val,At h env x val->ĭ h B v m val (α i)->(∀a∈α i,P a)->G):G:=qJ (K.vars x i v m hi b) k
structure Step(P:Ĳ->Prop)(s s':ŕ)(B B':PB):Prop where
 eq:∃h' tk,s'={s with heap:=h',toks:=tk}
 kept:∀a o,s.heap.get? a=À o->¬P a->s'.heap.get? a=À o
 le:ŀ B B'
 new:∀a o,B' a=À o->B a=À o\/P a
def Step.refl(P:Ĳ->Prop)(s:ŕ)(B:PB):Step P s s B B:=⟨⟨s.heap,s.toks,rfl⟩,λ_ _ h _=>h,.refl _,λ_ _ h=>.inl h⟩
def Step.trans(h:Step P s s' B B')(k:Step P s' Kq B' WN):Step P s Kq B WN:=by
 refine zm h.eq λj g b=>?_;refine zm k.eq λf t c=>?_;refine⟨⟨f,t,by subst b;exact c⟩,λa o e n=>k.kept a o (h.kept a o e n) n,h.le.trans k.le,λa o e=>?_⟩;rcases k.new a o e with q|q
 .exact h.new a o q
 .exact .inr q
structure kQ(h h':gk)(B B':PB):Prop where
 keep:∀a o,h.get? a=À o->h'.get? a=À o
 le:ŀ B B'
 HP:ŀ B' h'.get?
 new:∀a o,B' a=À o->B a=À o\/h.get? a=Ä
def kQ.none(x:kQ h h' B B')(b:h.get? a=À ob)(hB:B a=Ä):B' a=Ä:=by
 cases e:B' a with
 |none=>rfl
 |some o=>
  rcases x.new a o e with q|q
  .exact ÿ<|hB.symm.trans q
  .exact gC<|b.symm.trans q
def ă.ext(x:kQ h h' B B')(H:ă h B cz as):ă h' B' cz as:=by
 induction H with
 |nil=>exact .nil
 |cons a hB v _ t=>exact .cons (a.keep<|x.keep _) (x.none a.choose_spec.1 hB) (v.mono x.le) t
def ĭ.ext(x:kQ h h' B B')(H:ĭ h B v m val as):ĭ h' B' v m val as:=by
 induction H with
 |z b=>exact .z<|b.mono x.le
 |one a hB b=>exact .one (a.keep<|x.keep _) (x.none a.choose_spec.1 hB)<|b.mono x.le
 |two a hB s c=>exact .two (a.keep<|x.keep _) (x.none a.choose_spec.1 hB) (s.ext x) c
def At.ext(b:∀a o,h.get? a=À o->h'.get? a=À o):At h env x val->At h' env x val:=
 λt=>Or.elim t (λr=>.inl ⟨r.1,ì r.2 λm f e=>⟨m,f.keeps b,e⟩⟩) λr=>.inr ⟨r.1,ì r.2 λc g j=>⟨c,g,j.keeps b⟩⟩
section
variable{T:gk}{P:Ĳ->Prop}{B B':PB}{env:ey}{δ:Str->Ï Á}{wr:Str->Ò}{σ:St}{α:Á->Ã Ĳ}{h h':gk}
def Ok.ext(K:Ok T P B env δ wr σ α h)(x:kQ h h' B B'):Ok T P B' env δ wr σ α h' where
 top a o e:=x.keep a o (K.top a o e)
 low:=K.low
 hi a ha:=K.hi a (by
  cases e:h.get? a with
  |none=>rfl
  |some o=>rw[x.keep a o e] at ha;exact gC ha)
 base:=x.HP
 kind:=K.kind
 glob:=K.glob
 loc:=by
  apply Ϸ K.loc;rintro⟨m,k⟩ p s;exact Ma (id k) λ_ _ _ f _=>⟨⟨m,k.keeps x.keep⟩,p,x.none f s⟩
 cells:=K.cells
 Ė y c hy:=(K.Ė y c hy).elim λv hc=>⟨v,hc.keeps x.keep⟩
 ϓ:=K.ϓ
 wrs y hy:=by
  rcases K.wrs y hy with q|⟨q,c,v,j,b,g,t⟩
  .exact .inl q
  .exact .inr ⟨q,c,v,j,b.keeps x.keep,g,x.none b.choose_spec.1 t⟩
 inj:=K.inj
 vars y i v m hi hv:=by
  exact K.Æ y i v m hi hv λval j b g=>⟨val,j.ext x.keep,b.ext x,g⟩
 apart:=K.apart
 ex a ha:=(K.ex a ha).elim λp e=>⟨p,e.go (x.keep a) x.le<|e.alive.elim λ_ f=>x.none f e.fresh⟩
noncomputable def PB.push(B:PB)(a:Ĳ)(o:Obj):PB:=λb=>if b=a then À o else B b
def PB.cS(B:PB)(a:Ĳ)(o:Obj):B.push a o a=À o:=by simp[PB.push]
def PB.z5(f:B a=Ä):ŀ B (B.push a o):=λb p e=>by
 unfold PB.push;by_cases c:b=a
 .subst c;exact ÿ<|f.symm.trans e
 .exact Å (È c) e
def ĉ(h:gk):h.get? h.objs.size=Ä:=by
 cases e:h.get? h.objs.size with
 |none=>rfl
 |some o=>exact ó (Ļ e)<|fK _
def Ok.HJ(K:Ok T P B env δ wr σ α h)(b:h.get? a=Ä):B a=Ä:=by
 cases e:B a with
 |none=>rfl
 |some o=>rw[K.base a o e] at b;exact gC b
def kN(c:ŀ B h.get?)(o:Obj)(g:o.isFreed=false):kQ h (h.push o) B (B.push h.objs.size o):=by
 have f:B h.objs.size=Ä:=by
  cases e:B h.objs.size with
  |none=>rfl
  |some o=>exact ó (Ļ<|c _ o e)<|fK _
 refine⟨λa q e=>Ô o e,PB.z5 f,λa q e=>?_,λa q e=>?_⟩
 .unfold PB.push at e;by_cases b:a=h.objs.size
  .rw[ť b] at e;obtain rfl:=à e;subst b;exact ë _ g
  .rw[È b] at e;exact Ô o<|c a q e
 .unfold PB.push at e;by_cases b:a=h.objs.size
  .exact .inr<|b▸ĉ h
  .rw[È b] at e;exact .inl e
def ό(b:ŀ B h.get?)(o:Obj):kQ h (h.push o) B B:=
 ⟨λa q e=>Ô o e,.refl _,λa q e=>Ô o<|b a q e,λa q e=>.inl e⟩
def E4(b:ŀ B h.get?):kQ h h B B:=⟨λ_ _ e=>e,.refl _,b,λ_ _ e=>.inl e⟩
def kQ.trans{B B' b:PB}(x:kQ h h' B B')(y:kQ h' V4 B' b):kQ h V4 B b:=
 ⟨λa o e=>y.keep a o<|x.keep a o e,x.le.trans y.le,y.HP,λa o e=>by
  rcases y.new a o e with q|q
  .exact x.new a o q
  .refine .inr ?_;cases c:h.get? a with
   |none=>rfl
   |some f=>rw[x.keep a f c] at q;exact gC q⟩
def kQ.step(x:kQ s.heap h' B B')(hi:∀a,s.heap.get? a=Option.none->P a):Step P s {s with heap:=h',toks:=tk} B B':=
 ⟨⟨h',tk,rfl⟩,λa o e _=>x.keep a o e,x.le,λa o e=>(x.new a o e).imp id<|hi a⟩
end
structure Cx where
 prog:lX
 w:dk
 T:gk
 mg:Str->Ï Ë
 mb:Str->Ï Ë
 ng:T.Ns ż mg
 nb:T.Ns br mb
 bl:∀x:Str,x≠"__name__"->mb x=lK x
 lim:T.NoLimit
abbrev wq{α:Type}(X:Cx)(A:q6)(m:ŭ α)(Q:α->ŕ->Prop)(E:Ë->ŕ->Prop)(s:ŕ):Prop:=ϛ (aT X.prog X.w) A m Q E s
structure ţ(k:Á)(A:q6):Prop where
 depth:A.depth+k<900
 units:A.units+8*k<9000
 hd:A.handled=Ä
structure Ķ(env:ey)(P:Ĳ->Prop)(s s':ŕ)(B B':PB):Prop extends Step P s s' B B' where
 names:∀y u,At s.heap env y u->At s'.heap env y u
def Ķ.refl(env:ey)(P:Ĳ->Prop)(s:ŕ)(B:PB):Ķ env P s s B B:=⟨.refl _ _ _,λ_ _ h=>h⟩
def Ķ.trans(h:Ķ env P s s' B B')(k:Ķ env P s' Kq B' WN):Ķ env P s Kq B WN:=
 ⟨h.toStep.trans k.toStep,λy u e=>k.names y u<|h.names y u e⟩
def Ķ.same(tk:Á)(c:ŀ B B')(b:∀a o,B' a=À o->B a=À o\/P a):Ķ env P s {s with toks:=tk} B B':=
 ⟨⟨⟨s.heap,tk,rfl⟩,λ_ _ h _=>h,c,b⟩,λ_ _ h=>h⟩
def Ķ.tok{B:PB}(tk:Á):Ķ env P s {s with toks:=tk} B B:=.same tk (.refl _) λ_ _ e=>.inl e
def kQ.kB(x:kQ s.heap h' B B')(hi:∀a,s.heap.get? a=Option.none->P a):Ķ env P s {s with heap:=h',toks:=tk} B B':=
 ⟨x.step hi,λ_ _ e=>e.ext x.keep⟩
def gB(δ:Str->Ï Á)(σ:St)(α:Á->Ã Ĳ)(as:Ã Ĳ):Prop:=
 ∀x i,δ x=À i->(σ.get i).isSome=true->∀a∈as,a∉α i
def Ev(X:Cx)(k:Á)(env:ey)(δ:Str->Ï Á)(wr:Str->Ò)(σ:St)(t:ŭ Ë)(v:V)(m:Á)(ø:St):Prop:=
 ∀(P:Ĳ->Prop)(B:PB)(α:Á->Ã Ĳ)(A:q6)(s:ŕ)(Q E:Ë->ŕ->Prop),ţ k A->Ok X.T P B env δ wr σ α s.heap->
  (∀val s' B' b as,Ķ env P s s' B B'->Ok X.T P B' env δ wr ø b s'.heap->ĭ s'.heap B' v m val as->(∀a∈as,P a)->gB δ ø b as->Q val s')->
  wq X A t Q E s
def Zn(X:Cx)(k:Á)(env:ey)(δ:Str->Ï Á)(wr:Str->Ò)(σ:St)(t:ŭ (Ã Ë))(vs:Ã V)(ø:St):Prop:=
 ∀(P:Ĳ->Prop)(B:PB)(α:Á->Ã Ĳ)(A:q6)(s:ŕ)(Q:Ã Ë->ŕ->Prop)(E:Ë->ŕ->Prop),ţ k A->Ok X.T P B env δ wr σ α s.heap->
  (∀vals s' B' a,Ķ env P s s' B B'->Ok X.T P B' env δ wr ø a s'.heap->ě B' vs vals->Q vals s')->
  wq X A t Q E s
set_option genCtorIdx true in
set_option genInjectivity true in
inductive mj|next|brk|cont|ret(v:V)
inductive dR(B:PB):mj->Flow->Prop
 |next:dR B .next .next
 |brk:dR B .brk .brk
 |cont:dR B .cont .cont
 |ret {v x} (h:VR B v x):dR B (.ret v) (.ret x)
def m9{M:Flow->Prop}(h:dR B .next f)(k:M .next):M f:=by cases h;exact k
def r5{M:Flow->Prop}(h:dR B (.ret v) f)(k:∀x,VR B v x->M (.ret x)):M f:=by cases h with|ret h=>exact k _ h
def Ex(X:Cx)(k:Á)(env:ey)(δ:Str->Ï Á)(wr:Str->Ò)(σ:St)(t:ŭ Flow)(o:mj)(ø:St):Prop:=
 ∀(P:Ĳ->Prop)(B:PB)(α:Á->Ã Ĳ)(A:q6)(s:ŕ)(Q:Flow->ŕ->Prop)(E:Ë->ŕ->Prop),ţ k A->Ok X.T P B env δ wr σ α s.heap->
  (∀fl s' B' a,Step P s s' B B'->Ok X.T P B' env δ wr ø a s'.heap->dR B' o fl->Q fl s')->
  wq X A t Q E s
def Op(X:Cx)(A:q6)(B:PB)(s:ŕ)(t:ŭ Ë)(v:V)(m:Á):Prop:=
 ∀(Q E:Ë->ŕ->Prop),(∀val h' tk B' as,kQ s.heap h' B B'->ĭ h' B' v m val as->(∀a∈as,s.heap.get? a=Ä)->Q val {s with heap:=h',toks:=tk})->wq X A t Q E s
section
variable{X:Cx}{k:Á}{T:gk}{P:Ĳ->Prop}{B B':PB}{env:ey}{δ:Str->Ï Á}{wr:Str->Ò}{σ ø Rq:St}{α:Á->Ã Ĳ}{h h':gk}{v:V}{m:Á}
def ī{mm}(j:IsL h a items)(f:h.Ns L mm):a≠L:=by
 rintro rfl;apply HG j;rintro o g _ ⟨n,p⟩ _;refine CI f λs es q c b _=>?_;obtain rfl:=à<|g.symm.trans c;injection p.symm.trans b
def ĥ{v}(p:IsL h a items)(g:h.IsCell c v):a≠c:=by
 rintro rfl;apply HG p;rintro o j _ ⟨n,q⟩ _;refine ì g λs f b=>?_;obtain rfl:=à<|j.symm.trans f;injection q.symm.trans b
def bD{mm v}(g:h.Ns L mm)(b:h.IsCell c v):L≠c:=by
 rintro rfl;refine CI g λj es q f p _=>?_;refine ì b λj o a=>?_;obtain rfl:=à<|f.symm.trans o;injection p.symm.trans a
def ă.lists(H:ă h B cz as):∀a∈as,∃items,IsL h a items/\B a=Ä:=by
 induction H with
 |nil=>exact λa b=>ϭ b
 |cons c hB f _ t=>exact λa b=>(ő.1 b).elim (λe=>e▸⟨_,c,hB⟩)<|t a
def ĭ.lists(H:ĭ h B v m val as):∀a∈as,∃items,IsL h a items/\B a=Ä:=by
 induction H with
 |z=>exact λa b=>ϭ b
 |one c hB=>exact λa b=>Ċ.1 b▸⟨_,c,hB⟩
 |two c hB s=>exact λa b=>(ő.1 b).elim (λe=>e▸⟨_,c,hB⟩)<|s.lists a
def ă.other(s:∀b,b≠a->h'.get? b=h.get? b)(H:ă h B cz as):a∉as->ă h' B cz as:=by
 induction H with
 |nil=>exact λ_=>.nil
 |cons c hB f _ t=>exact λn=>.cons (c.keep λ_=>(s _ λe=>n<|e▸.head _).trans) hB f<|t λq=>n<|.tail _ q
def ĭ.other(s:∀b,b≠a->h'.get? b=h.get? b)(H:ĭ h B v m val as)(n:a∉as):ĭ h' B v m val as:=by
 induction H with
 |z f=>exact .z f
 |one c hB f=>exact .one (c.keep λ_=>(s _ λe=>n<|e▸mc _).trans) hB f
 |two c hB g j=>exact .two (c.keep λ_=>(s _ λe=>n<|e▸.head _).trans) hB (g.other s λq=>n<|.tail _ q) j
def At.other(s:∀b,b≠a->h'.get? b=h.get? b)(L:env.locals≠a)(q:∀c,env.cells.lookup x=À c->c≠a):At h env x val->At h' env x val:=
 λt=>Or.elim t (λr=>.inl ⟨r.1,ì r.2 λm p e=>⟨m,Ma p λo es ep ho r=>⟨o,es,ep,(s _ L).trans ho,r⟩,e⟩⟩) λr=>.inr ⟨r.1,ì r.2 λc j g=>⟨c,j,ì g λo ho r=>⟨o,(s _<|q c j).trans ho,r⟩⟩⟩
def eQ
  (K:Ok T P B env δ wr σ α s.heap) (hw:wr x=true) (hi:δ x=À i) (O:ĭ s.heap B v m val as) (hP:∀a∈as,P a) (fr:gB δ σ α as)
  (q:∀s',(∀a o,a≠env.locals->(∀y c,env.cells.lookup y=À c->a≠c)->s.heap.get? a=À o->s'.heap.get? a=À o)->Step P s s' B B->Ok T P B env δ wr (σ.ö i v m) (λj=>if j=i then as else α j) s'.heap->Q () s'):ϛ M A (storeName env x val) Q E s:=by
 have key:∀(h':gk)(tk:Á)(c:Ĳ),h'.objs.size=s.heap.objs.size->(∀b,b≠c->h'.get? b=s.heap.get? b)->P c->B c=Ä->(∀a∈as,a≠c)->
   (∀y j w n,δ y=À j->σ.get j=À (w,n)->∀a∈α j,a≠c)->(∃mm,h'.Ns env.locals mm)->
   (∀y j w n,y≠x->δ y=À j->σ.get j=À (w,n)->∀u,At s.heap env y u->At h' env y u)->At h' env x val->
   (∀y,∀c v,env.cells.lookup y=À c->s.heap.IsCell c v->∃v',h'.IsCell c v')->(c=env.locals\/env.cells.lookup x=À c)->
   Q () {s with heap:=h',toks:=tk}:=by
  intro h' tk c hz hs TY Tr has ZT KU Fo hx Kl Rm;have T9:∀a∈bS,cg B s.heap a->a≠c:=λa ha e=>by
   rcases Rm with e1|e1
   .exact Å e1<|e.ne_ns K.loc.1.choose_spec
   .exact å (K.Ė x c e1) λv hv=>e.iK hv
  apply q _ (λa o h1 h2 e=>(hs a (λe'=>by rcases Rm with e1|e1;exact h1<|e'.trans e1;exact h2 x c e1 e')).trans e) ⟨⟨h',tk,rfl⟩,λa o e n=>(hs a λe'=>n<|e'▸TY).trans e,.refl _,λa o e=>.inl e⟩;refine⟨λa o e=>(hs a λe'=>?_).trans<|K.top a o e,K.low,λa ha=>(by
   by_cases e':a=c
   .exact e'▸TY
   .exact K.hi a<|(hs a e').symm.trans ha),λa o e=>(hs a λe'=>?_).trans<|K.base a o e,K.kind,K.glob,⟨KU,K.loc.2⟩,K.cells,λy c' hy=>((K.Ė y c' hy).elim λv hv=>Kl y c' v hy hv),K.ϓ,λy hy=>?_,K.inj,λy j w n hy hj=>?_,λy z i' j hy NH Ap h1 h2 a ha=>?_,λa ha=>?_⟩
  .subst e';rw[K.low _ TY] at e;exact ÿ e
  .subst e';exact ÿ<|Tr.symm.trans e
  .rcases K.wrs y hy with e|⟨e,c',v',h1,h2,h3,h4⟩
   .exact .inl e
   .exact å (Kl y c' v' h1 h2) λY8 h5=>.inr ⟨e,c',Y8,h1,h5,h3,h4⟩
  .rw[St.a9] at hj;by_cases JM:j=i
   .subst JM;have Jh:y=x:=K.inj y x j hy hi;subst Jh;by_cases uy:j<σ.length
    .simp[uy] at hj;obtain⟨rfl,rfl⟩:=hj;refine⟨val,hx,?_,?_⟩
     .simp;exact O.other hs λhc=>has c hc rfl
     .simp;exact hP
    .simp[uy] at hj;exact ó hj<|by unfold St.get;refine Å (ķ<|Ϣ.1 uy) ?_;simp
   .have Ap:¬i=j:=λe=>JM e.symm;rw[È (λe=>Ap e.1)] at hj;have Jh:y≠x:=by rintro rfl;obtain rfl:=à<|hi.symm.trans hy;exact JM rfl
    refine K.Æ y j w n hy hj λu h1 h2 h3=>?_;refine⟨u,Fo y j w n Jh hy hj u h1,?_,?_⟩
    .simp only[È JM];exact h2.other hs λhc=>ZT y j w n hy hj c hc rfl
    .simp only[È JM];exact h3
  ·(try dsimp only at ha⊢)
   rw[St.a9] at h1 h2;by_cases e1:i'=i
   .subst e1;have e2:¬j=i':=λe=>Ap e.symm;rw[È (λe=>e2 e.1.symm)] at h2;simp at ha;exact Å (È e2)<|fr z j NH h2 a ha
   .rw[È e1] at ha;rw[È (λe=>e1 e.1.symm)] at h1;by_cases e2:j=i
    .refine Å (ť e2) ?_;intro hc;exact fr y i' hy h1 a hc ha
    .refine Å (È e2) ?_;rw[È (λe=>e2 e.1.symm)] at h2;exact K.apart y z i' j hy NH Ap h1 h2 a ha
  .exact Ö (λhp e=>⟨hp,e.go (λo ho=>(hs a<|T9 a ha e).trans ho) (.refl _) e.fresh⟩)<|K.ex a ha
 apply Ϸ K.loc;rintro⟨mm,hn⟩ Ug Zg;have QJ:∀a∈as,∃items,IsL s.heap a items:=λa ha=>ì (O.lists a ha) λi h _=>⟨i,h⟩
 have Ji:∀y j w n,δ y=À j->σ.get j=À (w,n)->∀a∈α j,∃items,IsL s.heap a items:=λy j w n hy hj a ha=>by
  exact K.Æ y j w n hy hj λu _ h2 _=>ì (h2.lists a ha) λi h _=>⟨i,h⟩
 rcases K.wrs x hw with hk|⟨hk,c,Za,h1,h2,h3,h4⟩
 .refine FT hk hn (λh' Up hs=>?_)<|Å K.kind rfl;refine key h' _ env.locals hs.1 hs.2 Ug Zg (λa ha=>(QJ a ha).elim λ_ q=>ī q hn) (λy j w n hy hj a ha=>(Ji y j w n hy hj a ha).elim λ_ q=>ī q hn) ⟨_,Up⟩ ?_ (.inl ⟨hk,_,Up,by simp⟩) ?_<|.inl rfl
  .intro y j w n Jh hy hj u Fo;rcases Fo with⟨kd,m1,To,e1⟩|⟨kd,c,hl,hc⟩
   .refine .inl ⟨kd,_,Up,?_⟩;simp only[È Jh];refine JW hn λo es ep ho hd _ hf=>?_;refine JW To λo' SA VH JH Lm _ Z0=>?_;obtain rfl:=à<|ho.symm.trans JH;obtain rfl:=(c0<|hd.symm.trans Lm).1;exact Đ (hf y)<|Å (Z0 y) e1
   .exact .inr ⟨kd,c,hl,hc.sameBut hs λe=>bD hn hc e.symm⟩
  .intro y c v hc Ss;exact⟨v,Ss.sameBut hs λe=>bD hn Ss e.symm⟩
 .refine wpAny_storeName_cell K.kind hk h1 h2 λh' PG hs=>?_;refine key h' s.toks c hs.1 hs.2 h3 h4 (λa ha=>(QJ a ha).elim λ_ q=>ĥ q h2) (λy j w n hy hj a ha=>(Ji y j w n hy hj a ha).elim λ_ q=>ĥ q h2) ⟨_,hn.sameBut hs<|bD hn h2⟩ ?_ (.inr ⟨.inl hk,c,h1,PG⟩) ?_<|.inr h1
  .intro y j w n Jh hy hj u Fo;exact Fo.other hs.2 (bD hn h2) λc' UT e=>Jh<|K.cells y x c (e▸UT) h1
  .intro y c' v hc Ss;by_cases e:c'=c
   .subst e;exact⟨_,PG⟩
   .exact⟨v,Ss.sameBut hs e⟩
def oA
  (K:Ok T P B env δ wr σ α s.heap) (w:wr x=true) (hi:δ x=À i) (O:ĭ s.heap B v m val as) (b:∀a∈as,P a) (fr:gB δ σ α as)
  (q:∀s',Step P s s' B B->Ok T P B env δ wr (σ.ö i v m) (λj=>if j=i then as else α j) s'.heap->Q () s'):ϛ M A (storeName env x val) Q E s:=
 eQ K w hi O b fr λs' _=>q s'
noncomputable def PB.adds(B:PB)(h:gk)(as:Ã Ĳ):PB:=λb=>if b∈as then h.get? b else B b
def PB.nc(c:∀a∈as,B a=Ä):ŀ B (B.adds h as):=λa o e=>by
 unfold PB.adds;by_cases b:a∈as
 .rw[c a b] at e;exact ÿ e
 .exact Å (È b) e
def ă.frozen(H:ă h B cz as)(b:ŀ B C):(∀a∈as,C a=h.get? a)->ě C (cz.map .Ñ) (as.map .ref):=by
 induction H with
 |nil=>exact λ_=>.nil
 |cons f hB g _ t=>exact λc=>HG f λo ho hc d hx=>d.elim λn hd=>.cons (.Ñ ((c _<|.head _).trans ho) hc hd hx<|g.mono b)<|t λa j=>c a<|.tail _ j
def ĭ.frozen(O:ĭ h B v m val as):VR (B.adds h as) v val:=by
 have b:ŀ B (B.adds h as):=PB.nc λa p=>(O.lists a p).choose_spec.2
 induction O with
 |z j=>exact j.mono b
 |one g hB j=>
  apply HG g;rintro o c f ⟨n,q⟩ hx;exact .Ñ (by unfold PB.adds;exact Å (ť<|mc _) c) f q hx<|j.mono b
 |two g hB s t=>
  apply HG g;rintro o c f ⟨n,q⟩ hx;exact .Ñ (by unfold PB.adds;exact Å (ť<|.head _) c) f q hx<|by simpa using s.frozen b λa p=>by unfold PB.adds;exact Å (ť<|.tail _ p) rfl
def ă.adds(H:ă h B cz as)(b:ŀ B (B.adds h bs)):(∀a∈as,a∉bs)->ă h (B.adds h bs) cz as:=by
 induction H with
 |nil=>exact λ_=>.nil
 |cons f hB g _ t=>exact λc=>.cons f ((È<|c _<|.head _).trans hB) (g.mono b)<|t λa j=>c a<|.tail _ j
def ĭ.adds(O:ĭ h B v m val as)(b:ŀ B (B.adds h bs))(c:∀a∈as,a∉bs):ĭ h (B.adds h bs) v m val as:=by
 induction O with
 |z g=>exact .z<|g.mono b
 |one f hB g=>exact .one f (by unfold PB.adds;exact Å (È<|c _<|.head _) hB)<|g.mono b
 |two f hB s o=>exact .two f (by unfold PB.adds;exact Å (È<|c _<|.head _) hB) (s.adds b λa j=>c a<|.tail _ j) o
def Ok.é(K:Ok T P B env δ wr σ α h)(f:∀a∈as,∃items,IsL h a items/\B a=Ä)(fr:gB δ σ α as):Ok T P (B.adds h as) env δ wr σ α h:=by
 have c:ŀ B (B.adds h as):=PB.nc λa b=>(f a b).choose_spec.2;refine⟨K.top,K.low,K.hi,λa o e=>?_,K.kind,K.glob,⟨K.loc.1,K.loc.2.1,?_⟩,K.cells,K.Ė,K.ϓ,λy g=>?_,K.inj,λy i w n g t=>K.Æ y i w n g t λu s j p=>⟨u,s,j.adds c λa b C=>fr y i g (by exact Å t rfl) a C b,p⟩,K.apart,λa b=>(let⟨hp,e⟩:=K.ex a b;⟨hp,e.go (λ_ h=>h) c<|by unfold PB.adds;exact Å (È λE=>let⟨_,q,_⟩:=f _ E;e.dP q rfl) e.fresh⟩)⟩
 .unfold PB.adds at e;by_cases b:a∈as
  .rw[ť b] at e;exact e
  .rw[È b] at e;exact K.base a o e
 .unfold PB.adds;apply Ϸ K.loc;rintro⟨G,x⟩ _ hB;exact Å (È λb=>let⟨_,q,_⟩:=f _ b;ī q x rfl) hB
 .rcases K.wrs y g with e|⟨e,c',A,s,j,p,D⟩
  .exact .inl e
  .exact .inr ⟨e,c',A,s,j,p,by unfold PB.adds;exact Å (È λb=>let⟨_,q,_⟩:=f _ b;ĥ q j rfl) D⟩
def Step.é(f:∀a∈as,∃items,IsL s.heap a items/\B a=Ä)(c:∀a∈as,P a):Step P s s B (B.adds s.heap as):=by
 refine⟨⟨s.heap,s.toks,rfl⟩,λ_ _ h _=>h,PB.nc λa b=>(f a b).choose_spec.2,λa o e=>?_⟩;unfold PB.adds at e;by_cases b:a∈as
 .exact .inr<|c a b
 .rw[È b] at e;exact .inl e
def Ev.é(H:Ev X k env δ wr σ t v m ø):Ev X k env δ wr σ t v 0 ø:=λP B α A s Q E R K q=>
 H P B α A s Q E R K λval s' B' a as S K' O b fr=>q val s' (B'.adds s'.heap as) a [] (S.trans ⟨Step.é O.lists b,λ_ _ h=>h⟩) (K'.é O.lists fr) (.z O.frozen) (λ_ h=>ϭ h) λ_ _ _ _ _ h=>ϭ h
end
noncomputable def Ó:V->Ï Ò
 |.none=>À false
 |.bool b=>À b
 |.int i=>À<|i !=0
 |.str s=>if s.length<1000000 then À (s.length !=0) else Ä
 |.ñ _=>Ä
 |.Ñ xs=>if xs.length<1000000 then À (!xs.isEmpty) else Ä
 |.á _=>Ä
 |.ty _=>Ä
 |.fn _=>Ä
noncomputable def ϐ:V->Ï Â
 |.int x=>À x
 |_=>Ä
noncomputable def mV:V->Ï ā
 |.á x=>À x
 |_=>Ä
noncomputable def uv:V->Ï Str
 |.str x=>À x
 |_=>Ä
noncomputable def ko:V->Ï (Ã V)
 |.Ñ x=>À x
 |_=>Ä
noncomputable def Cy:V->Ï (Ã V)
 |.ñ x=>À x
 |_=>Ä
noncomputable def NB:V->Ï Ò
 |.bool x=>À x
 |_=>Ä
noncomputable def RK:V->Ï pF
 |.ty x=>À x
 |_=>Ä
noncomputable def JU:V->Ï Unit
 |.none=>À ()
 |_=>Ä
noncomputable def wm(p:V->Ï A)(q:V->Ï B)(f:A->B->Ï C)(a b:V):Ï C:=(p a).bind λx=>(q b).bind λy=>f x y
noncomputable def kD(p:V->Ï A)(q:V->Ï B)(f:A->B->Ï C)(a b:V)(g:Ï C):Ï C:=match p a with
 |some x=>match q b with
  |some y=>f x y
  |none=>g
 |none=>g
def AE(f:Â->Â->Ï C):V->V->Ï C:=wm ϐ ϐ f
def X7(f:ā->ā->Ï C):V->V->Ï C:=wm mV mV f
noncomputable def qy(f:V->V->Ï Ò):Ã V->Ã V->Ï Ò
 |[],[]=>À true
 |a::as,b::c=>(f a b).bind λx=>(qy f as c).map λy=>x&&y
 |_,_=>Ä
def uJ(a b:V):Ï Ò:=
 kD ϐ ϐ (λx y=>À<|x==y) a b (kD uv uv (λx y=>À<|x==y) a b<|kD NB NB (λx y=>À<|x==y) a b<|wm JU JU (λ_ _=>À true) a b)
def jq:Á->V->V->Ï Ò
 |0,a,b=>uJ a b
 |n+1,a,b=>kD ko ko (λa b=>if a.length=b.length then qy (jq n) a b else À false) a b
  (kD Cy Cy (λa b=>if a.length=b.length then qy (jq n) a b else Ä) a b<|uJ a b)
noncomputable def dX(i:Â):Ò:=!fI (jR i)
noncomputable def Ĕ(i:Â):Ò:=decide<|i.natAbs.log2<8000
def Ju(f:ā->ā->ā)(a b:V):Ï (V×Á):=
 kD mV mV (λx y=>À (.á<|f x y,0)) a b (kD mV ϐ (λx y=>if dX y then À (.á<|f x<|jR y,0) else Ä) a b
  (wm ϐ mV (λx y=>if dX x then À (.á<|f (jR x) y,0) else Ä) a b))
def ü(op:sA)(a b:V):Ï (V×Á):=match op with
 |.Add=>kD ϐ ϐ (λx y=>À (.int<|x+y,0)) a b (kD uv uv (λx y=>if x.length+y.length<=1000000 then À (.str<|x++y,0) else Ä) a b
  (kD ko ko (λx y=>if x.length+y.length<=1000000 then À (.Ñ<|x++y,1) else Ä) a b<|Ju C4 a b))
 |.Sub=>kD ϐ ϐ (λx y=>À (.int<|x-y,0)) a b<|Ju l4 a b
 |.Mult=>kD ϐ ϐ (λx y=>if Ĕ x&&Ĕ y then À (.int<|x*y,0) else Ä) a b
  (kD ko ϐ (λx y=>if 0<=y/\y<=1000/\x.length<=1000 then À (.Ñ<|(replicate y.toNat x).flatten,1) else Ä) a b<|Ju wL a b)
 |.Div=>kD mV mV (λx y=>if uj y then Ä else À (.á<|xk x y,0)) a b
  (AE (λx y=>if y≠0/\¬fI (tX (decide (x<0) !=decide (y<0)) x.natAbs y.natAbs)=true then À (.á<|tX (decide (x<0) !=decide (y<0)) x.natAbs y.natAbs,0) else Ä) a b)
 |.FloorDiv=>AE (λx y=>if y≠0/\Ĕ x=true then À (.int<|x.fdiv y,0) else Ä) a b
 |.Mod=>kD ϐ ϐ (λx y=>if y≠0 then À (.int<|x.fmod y,0) else Ä) a b<|X7 (λx y=>if uj y then Ä else À (.á (Eh x y).2,0)) a b
 |.Pow=>AE (λx y=>if 0<=y/\y<=100/\x.natAbs.log2<100 then À (.int<|x^y.toNat,0) else Ä) a b
 |.LShift=>AE (λx y=>if 0<=y/\y<=10000/\Ĕ x then À (.int<|x*2^y.toNat,0) else Ä) a b
 |.RShift=>AE (λx y=>if 0<=y then À (.int<|x.fdiv<|2^y.toNat,0) else Ä) a b
 |.BitAnd=>AE (λx y=>À (.int<|ck x y,0)) a b
 |.BitXor=>AE (λx y=>À (.int<|Hv x y,0)) a b
 |_=>Ä
def HM(op:UnaryOp)(a:V):Ï V:=match op with
 |.USub=>(ϐ a).map λx=>.int<|-x
 |.Invert=>(ϐ a).map λx=>.int<|Builtin.bitNot x
 |.Not=>(Ó a).map λb=>.bool !b
 |_=>Ä
def Ĥ(op:CmpOp)(a b:V):Ï Ò:=match op with
 |.Eq=>kD mV mV (λx y=>À<|fu x y==À pA) a b<|jq 5 a b
 |.Lt=>kD mV mV (λx y=>À<|fu x y==À dZ) a b<|AE (λx y=>À<|decide<|x<y) a b
 |.LtE=>kD mV mV (λx y=>À (fu x y==À dZ||fu x y==À pA)) a b
  (kD mV ϐ (λx y=>À (gL x y==À dZ||gL x y==À pA)) a b
  (kD ϐ mV (λx y=>À (gL y x==À rT||gL y x==À pA)) a b
  (AE (λx y=>À<|decide<|x<=y) a b)))
 |.Gt=>AE (λx y=>À<|decide<|y<x) a b
 |.GtE=>AE (λx y=>À<|decide<|y<=x) a b
 |.Is=>kD NB NB (λx y=>À<|x==y) a b<|kD RK RK (λx y=>À<|x==y) a b<|kD JU JU (λ_ _=>À true) a b<|wm uv JU (λ_ _=>À false) a b
 |.IsNot=>kD RK RK (λx y=>À<|x !=y) a b<|kD JU JU (λ_ _=>À false) a b<|wm uv JU (λ_ _=>À true) a b
 |.In=>wm ϐ ko (λx c=>(c.mapM (m:=Ï) λ|V.int y=>À y|_=>Ä).map λc=>c.contains x) a b
 |.NotEq=>(jq 5 a b).map not
 |_=>Ä
noncomputable def place(n:Á)(i:Â):Ï Á:=
 if n<=1000000 then(if 0<=i then(if i<n then À i.toNat else Ä) else(if 0<=i+n then À (i+n).toNat else Ä)) else Ä
noncomputable def Č(n:Á)(i:Â):Ï Á:=if n<=1000000/\0<=i/\i<n then À i.toNat else Ä
def yw(xs:Ã V)(i:Â):Ï V:=(place xs.length i).bind λk=>xs[k]?
def ō(a i:V):Ï V:=kD ko ϐ yw a i<|kD Cy ϐ yw a i<|wm uv ϐ (λs i=>(place s.length i).bind λk=>(s.cps[k]?).map λc=>V.str ⟨#[c]⟩) a i
noncomputable def ϳ:V->Ï (Ï Â)
 |.none=>À Ä
 |.int i=>À<|À i
 |_=>Ä
noncomputable def ľ(s:Str)(a hi:Ï Â):Str:=
 if(yz a hi 1 s.length).length==s.length then s else⟨((yz a hi 1 s.length).filterMap (s.cps[·]?)).toArray⟩
def au(a c hi:V):Ï (V×Á):=do
 let c<-ϳ c
 let hi<-ϳ hi
 match a,c,hi with
 |.str s,c,hi=>if(ľ s c hi).length<=1000000 then À (.str<|ľ s c hi,0) else Ä
 |.Ñ xs,Ä,À b=>if 0<=b/\xs.length<=1000000 then À (.Ñ<|xs.take b.toNat,1) else Ä
 |.Ñ xs,À a,Ä=>if 0<=a/\xs.length<=1000000 then À (.Ñ<|xs.drop a.toNat,1) else Ä
 |_,_,_=>Ä
inductive kJ where
 |one (i:Á)|two (i j:Á)|three (i j k:Á)
noncomputable def l2:Ã V->Ï (V×V)
 |[a,b]=>À (a,b)
 |_=>Ä
noncomputable def l3:Ã V->Ï (V×V×V)
 |[a,b,c]=>À (a,b,c)
 |_=>Ä
def kJ.ö(t:kJ)(v:V)(σ:St):Ï St:=match t with
 |.one i=>À<|σ.ö i v 0
 |.two i j=>((Cy v).bind l2).map λx=>(σ.ö i x.1 0).ö j x.2 0
 |.three i j k=>((Cy v).bind l3).map λx=>((σ.ö i x.1 0).ö j x.2.1 0).ö k x.2.2 0
noncomputable def kJ.slots:kJ->Ã Á
 |.one i=>[i]
 |.two i j=>[i,j]
 |.three i j k=>[i,j,k]
noncomputable def St.aaa(σ:St)(l:Ã Á):St:=l.foldl (λσ i=>set σ i Ä) σ
inductive PE where
 |c (v:V)
 |Æ (i:Á)
 |Õ (op:sA) (a b:PE)
 |un (op:UnaryOp) (a:PE)
 |cmp (op:CmpOp) (a b:PE)
 |uO (o1 o2:CmpOp) (a b c:PE)
 |cK (a b:PE)
 |iQ (a b:PE)
 |ite (t a b:PE)
 |ñ (es:Ã PE)
 |Ñ (es:Ã PE)
 |sub (a i:PE)
 |ä (i:Á) (e:PE)
 |gJ (i:Á) (k:PE) (j:Á)
 |bp (a lo hi:PE)
 |fn (f:Ã V->Ï (V×Á)) (es:Ã PE)
 |č (i:Á)
 |pop (i:Á) (e:PE)
 |comp (Ż:PE) (ġ:kJ) (f:Ã V->Ï (Ã V)) (ϝ:Ã PE) (cond:Ï PE)
 |eZ (Ż:PE) (t1:kJ) (f1:Ã V->Ï (Ã V)) (kp:Ã PE) (t2:kJ) (f2:Ã V->Ï (Ã V)) (dG:Ã PE)
def St.é(σ:St)(i:Á):St:=match σ.get i with
 |some (v,m)=>if m=0 then σ else σ.ö i v 0
 |none=>σ
def aU(c:Á)(o:Ï (V×Á)):Ï (Ã V):=o.bind λx=>if x.2=c then ko x.1 else Ä
def Cf(o:Ï (V×Á)):Ï Â:=o.bind λx=>if x.2=0 then ϐ x.1 else Ä
noncomputable def ą(t:kJ)(a:Ï (St->Ï (Ò×St)))(b:St->Ï (V×St)):Ã V->St->Ï (Ã V×St)
 |[],σ=>À ([],σ)
 |v::vs,σ=>do
  let σ<-t.ö v σ
  let(ok,σ)<-match a with
   |none=>À (true,σ)
   |some c=>c σ
  if ok then
   let(x,σ)<-b σ
   let(xs,σ)<-ą t a b vs σ
   À (x::xs,σ)
  else ą t a b vs σ
noncomputable def Ĉ(t:kJ)(a:Ï (St->Ï (Ò×St)))(b:St->Ï (Ã V×St)):Ã V->St->Ï (Ã V×St)
 |[],σ=>À ([],σ)
 |v::vs,σ=>do
  let σ<-t.ö v σ
  let(ok,σ)<-match a with
   |none=>À (true,σ)
   |some c=>c σ
  if ok then
   let(x,σ)<-b σ
   let(xs,σ)<-Ĉ t a b vs σ
   À (x++xs,σ)
  else Ĉ t a b vs σ
noncomputable def ab(c:kJ)(a:St->Ï (Ã V×St))(t:kJ)(b:St->Ï (V×St)):Ã V->St->Ï (Ã V×St)
 |[],σ=>À ([],σ)
 |v::vs,σ=>do
  let σ<-c.ö v σ
  let(us,σ)<-a σ
  let(xs,σ)<-ą t Ä b us σ
  let(ys,σ)<-ab c a t b vs σ
  À (xs++ys,σ)
noncomputable def dD:V->Ï Â
 |.Ñ xs=>if xs.length<=1000000 then À xs.length else Ä
 |.str s=>if s.length<=1000000 then À s.length else Ä
 |_=>Ä
mutual
noncomputable def ß:PE->St->Ï (V×Á×St)
 |.c v,σ=>À (v,0,σ)
 |.Æ i,σ=>(σ.get i).map λx=>(x.1,0,σ.é i)
 |.Õ op a b,σ=>do
  let(x,_,σ)<-ß a σ
  let(y,_,σ)<-ß b σ
  let(r,m)<-ü op x y
  À (r,m,σ)
 |.un op a,σ=>do
  let(x,_,σ)<-ß a σ
  let r<-HM op x
  À (r,0,σ)
 |.cmp op a b,σ=>do
  let(x,_,σ)<-ß a σ
  let(y,_,σ)<-ß b σ
  let r<-Ĥ op x y
  À (.bool r,0,σ)
 |.uO o1 o2 a b c,σ=>do
  let(x,_,σ)<-ß a σ
  let(y,_,σ)<-ß b σ
  let r<-Ĥ o1 x y
  if r then
   let(z,_,σ)<-ß c σ
   let r<-Ĥ o2 y z
   À (.bool r,0,σ)
  else À (.bool false,0,σ)
 |.cK a b,σ=>do
  let(x,_,σ)<-ß a σ
  if<-Ó x then
   let(y,_,σ)<-ß b σ
   À (y,0,σ)
  else À (x,0,σ)
 |.iQ a b,σ=>do
  let(x,_,σ)<-ß a σ
  if<-Ó x then À (x,0,σ) else
   let(y,_,σ)<-ß b σ
   À (y,0,σ)
 |.ite t a b,σ=>do
  let(x,_,σ)<-ß t σ
  if<-Ó x then ß a σ else ß b σ
 |.ñ es,σ=>do
  let(xs,σ)<-ď es σ
  À (.ñ xs,0,σ)
 |.Ñ es,σ=>do
  let(xs,σ)<-ď es σ
  À (.Ñ xs,1,σ)
 |.sub a i,σ=>do
  let(x,_,σ)<-ß a σ
  let(y,_,σ)<-ß i σ
  let r<-ō x y
  À (r,0,σ)
 |.ä i e,σ=>do
  let _<-σ.get i
  let(y,_,σ)<-ß e σ
  let(x,m)<-σ.get i
  if m=2 then Ä else
   let r<-ō x y
   À (r,0,σ)
 |.gJ i k j,σ=>do
  let _<-σ.get i
  let(y,_,σ)<-ß k σ
  let k<-ϐ y
  let xs<-aU 2 (σ.get i)
  let l<-Cf (σ.get j)
  let p<-Č xs.length k
  let ys<-(xs[p]?).bind ko
  let r<-Č ys.length l
  let v<-ys[r]?
  À (v,0,σ)
 |.bp a lo hi,σ=>do
  let(x,_,σ)<-ß a σ
  let(l,_,σ)<-ß lo σ
  let(h,_,σ)<-ß hi σ
  let(r,m)<-au x l h
  À (r,m,σ)
 |.fn f es,σ=>do
  let(xs,σ)<-ď es σ
  let(r,m)<-f xs
  À (r,m,σ)
 |.č i,σ=>do
  let(x,_)<-σ.get i
  let n<-dD x
  À (.int n,0,σ)
 |.pop i e,σ=>do
  let _<-aU 1 (σ.get i)
  let(y,_,σ)<-ß e σ
  let k<-ϐ y
  let xs<-aU 1 (σ.get i)
  let p<-Č xs.length k
  let v<-xs[p]?
  À (v,0,σ.ö i (.Ñ<|xs.eraseIdx p) 1)
 |.comp Ż ġ f ϝ cond,σ=>do
  let(xs,σ)<-ď ϝ σ
  let items<-f xs
  let(r,σ)<-ą ġ (match cond with
    |none=>Ä
    |some c=>À λσ=>(ß c σ).bind λx=>(Ó x.1).map λb=>(b,x.2.2))
   (λσ=>(ß Ż σ).map λx=>(x.1,x.2.2)) items (σ.aaa ġ.slots)
  À (.Ñ r,1,σ)
 |.eZ Ż t1 f1 kp t2 f2 dG,σ=>do
  let(xs,σ)<-ď kp σ
  let items<-f1 xs
  let(r,σ)<-ab t1 (λσ=>(ď dG σ).bind λx=>(f2 x.1).map λl=>(l,x.2)) t2
   (λσ=>(ß Ż σ).map λx=>(x.1,x.2.2)) items (σ.aaa<|t1.slots++t2.slots)
  if r.length<=1000000 then À (.Ñ r,1,σ) else Ä
noncomputable def ď:Ã PE->St->Ï (Ã V×St)
 |[],σ=>À ([],σ)
 |e::es,σ=>do
  let(x,_,σ)<-ß e σ
  let(xs,σ)<-ď es σ
  À (x::xs,σ)
end
def ji(pe:PE):St->Ï (Ã V×St):=λσ=>(ß pe σ).bind λx=>if x.2.1=1 then(ko x.1).map λy=>([.Ñ y],x.2.2) else Ä
inductive PS where
 |î (i:Á) (e:PE)
 |jJ (i j:Á) (e:PE)
 |mO (is:Ã Á) (e:PE)
 |qt (is:Ã Á) (e:PE)
 |par (is:Ã Á) (es:Ã PE)
 |aug (i:Á) (op:sA) (e:PE)
 |ö (i:Á) (k e:PE)
 |mS (i:Á) (Ż:PE) (ġ:kJ) (f:Ã V->Ï (Ã V)) (ϝ:Ã PE)
 |put2 (i:Á) (k:PE) (j:Á) (e:PE)
 |swap (i:Á) (k l:PE) (j:Á) (e:PE)
 |Ŗ (t:PE) (a b:Ã PS)
 |az (t:PE) (b:Ã PS)
 |Ū (ġ:kJ) (f:Ã V->Ï (Ã V)) (ϝ:Ã PE) (b:Ã PS)
 |ret (e:PE)
 |app (i:Á) (e:PE)
 |rev (i:Á)
 |expr (e:PE)
noncomputable def putAll:Ã Á->Ã V->St->Ï St
 |[],[],σ=>À σ
 |i::is,v::vs,σ=>putAll is vs<|σ.ö i v 0
 |_,_,_=>Ä
noncomputable def ϋ:Ã Á->Ã (V×Á)->St->Ï St
 |[],[],σ=>À σ
 |i::is,v::vs,σ=>ϋ is vs<|σ.ö i v.1 v.2
 |_,_,_=>Ä
noncomputable def aO(t:St->Ï (Ò×St))(b:St->Ï (mj×St)):Á->St->Ï (mj×St)
 |0,_=>Ä
 |n+1,σ=>do
  let(ok,σ)<-t σ
  if ok then
   let(o,σ)<-b σ
   match o with
   |.next|.cont=>aO t b n σ
   |.brk=>À (.next,σ)
   |.ret v=>À (.ret v,σ)
  else À (.next,σ)
noncomputable def bA(t:kJ)(b:St->Ï (mj×St)):Ã V->St->Ï (mj×St)
 |[],σ=>À (.next,σ)
 |v::vs,σ=>do
  let σ<-t.ö v σ
  let(o,σ)<-b σ
  match o with
  |.next|.cont=>bA t b vs σ
  |.brk=>À (.next,σ)
  |.ret v=>À (.ret v,σ)
noncomputable def du:Ã PE->St->Ï (Ã (V×Á)×St)
 |[],σ=>À ([],σ)
 |e::es,σ=>do
  let(x,m,σ)<-ß e σ
  let(xs,σ)<-du es σ
  À ((x,m)::xs,σ)
def putAt(i:Á)(k:PE)(v:V)(σ:St):Ï St:=do
 let _<-σ.get i
 let(y,_,σ)<-ß k σ
 let k<-ϐ y
 let xs<-aU 1 (σ.get i)
 let p<-Č xs.length k
 À (σ.ö i (.Ñ<|xs.set p v) 1)
def rj(op:sA)(a b:V):Ï V:=match op with
 |.Add=>AE (λx y=>À<|.int<|x+y) a b
 |.Sub=>AE (λx y=>À<|.int<|x-y) a b
 |_=>Ä
mutual
noncomputable def cX(F:Á):PS->St->Ï (mj×St)
 |.î i e,σ=>do
  let(x,m,σ)<-ß e σ
  À (.next,σ.ö i x m)
 |.jJ i j e,σ=>do
  let(x,_,σ)<-ß e σ
  À (.next,(σ.ö i x 0).ö j x 0)
 |.mO is e,σ=>do
  let(x,_,σ)<-ß e σ
  let xs<-Cy x
  (putAll is xs σ).map λσ=>(.next,σ)
 |.qt is e,σ=>do
  let(x,_,σ)<-ß e σ
  let xs<-ko x
  (putAll is xs σ).map λσ=>(.next,σ)
 |.par is es,σ=>do
  let(xs,σ)<-du es σ
  (ϋ is xs σ).map λσ=>(.next,σ)
 |.aug i op e,σ=>do
  let(x,_)<-σ.get i
  let(y,_,σ)<-ß e σ
  let r<-rj op x y
  À (.next,σ.ö i r 0)
 |.ö i k e,σ=>do
  let(v,_,σ)<-ß e σ
  let _<-σ.get i
  let(y,_,σ)<-ß k σ
  let k<-ϐ y
  let xs<-aU 1 (σ.get i)
  let p<-Č xs.length k
  À (.next,σ.ö i (.Ñ<|xs.set p v) 1)
 |.mS i h c f g,σ=>do
  let(xs,σ)<-ď g σ
  let items<-f xs
  let(r,σ)<-Ĉ c Ä (ji h) items (σ.aaa c.slots)
  if r.length<=1000000 then À (.next,σ.ö i (.Ñ r) 2) else Ä
 |.put2 i k j e,σ=>do
  let(v,_,σ)<-ß e σ
  let _<-σ.get i
  let(y,_,σ)<-ß k σ
  let k<-ϐ y
  let xs<-aU 2 (σ.get i)
  let l<-Cf (σ.get j)
  let p<-Č xs.length k
  let ys<-(xs[p]?).bind ko
  let r<-Č ys.length l
  À (.next,σ.ö i (.Ñ<|xs.set p<|.Ñ<|ys.set r v) 2)
 |.swap i k l j e,σ=>do
  let(vs,σ)<-ď [.ä i l,.ä i k,e] σ
  let(b,a,w)<-l3 vs
  let σ<-putAt i k b σ
  let σ<-putAt i l a σ
  À (.next,σ.ö j w 0)
 |.Ŗ t a b,σ=>do
  let(x,_,σ)<-ß t σ
  if<-Ó x then ċ F a σ else ċ F b σ
 |.az t b,σ=>aO (λσ=>(ß t σ).bind λx=>(Ó x.1).map λb=>(b,x.2.2)) (λσ=>ċ F b σ) F σ
 |.Ū c f g b,σ=>do
  let(xs,σ)<-ď g σ
  let items<-f xs
  bA c (λσ=>ċ F b σ) items σ
 |.ret e,σ=>do
  let(x,_,σ)<-ß e σ
  À (.ret x,σ)
 |.app i e,σ=>do
  let _<-aU 1 (σ.get i)
  let(v,_,σ)<-ß e σ
  let xs<-aU 1 (σ.get i)
  if xs.length<=1000000 then À (.next,σ.ö i (.Ñ<|xs++[v]) 1) else Ä
 |.rev i,σ=>do
  let xs<-aU 1 (σ.get i)
  if xs.length<=1000000 then À (.next,σ.ö i (.Ñ xs.reverse) 1) else Ä
 |.expr e,σ=>do
  let(_,_,σ)<-ß e σ
  À (.next,σ)
noncomputable def ċ(F:Á):Ã PS->St->Ï (mj×St)
 |[],σ=>À (.next,σ)
 |s::a,σ=>do
  let(o,σ)<-cX F s σ
  match o with
  |.next=>ċ F a σ
  |o=>À (o,σ)
end
def ė(F n ar:Á)(body:Ã PS)(args:Ã V):Ï (V×Á):=
 if args.length=ar then
  match ċ F body ((args.map λv=>À (v,0))++replicate (n-args.length) Ä) with
  |some (.ret v,_)=>À (v,0)
  |some (.next,_)=>À (.none,0)
  |_=>Ä
 else Ä
noncomputable def gq(f:V->Ï C)(h:V->V->Ï C)(g:V->V->V->Ï C):Ã V->Ï C
 |[a]=>f a
 |[a,b]=>h a b
 |[a,b,c]=>g a b c
 |_=>Ä
noncomputable def Oj:V->Ï C:=λ_=>Ä
noncomputable def Nz:V->V->Ï C:=λ_ _=>Ä
noncomputable def Ny:V->V->V->Ï C:=λ_ _ _=>Ä
noncomputable def Qz(p:V->Ï A)(f:A->Ï C)(a:V):Ï C:=(p a).bind f
noncomputable def IU(p:V->Ï A)(f:A->Ï C)(a:V)(g:Ï C):Ï C:=match p a with
 |some x=>f x
 |none=>g
noncomputable def NO(p:V->Ï A)(q:V->Ï B)(r:V->Ï D)(f:A->B->D->Ï C)(a b c:V):Ï C:=(p a).bind λx=>(q b).bind λy=>(r c).bind λz=>f x y z
abbrev uE(p:V->Ï A)(f:A->Ï C):Ã V->Ï C:=gq (Qz p f) Nz Ny
abbrev HK(p:V->Ï A)(q:V->Ï B)(f:A->B->Ï C):Ã V->Ï C:=gq Oj (wm p q f) Ny
noncomputable abbrev VF:=Ã V->Ï (V×Á)
noncomputable def qh(xs:Ã V):Ï (Ã V):=if xs.length<=1000000 then À xs else Ä
def Ń:Ã V->Ï (Ã V):=gq (λv=>IU ko qh v<|Qz Cy qh v) Nz Ny
noncomputable def û(a:Â)(n:Á):Ã V:=(range n).map λ(i:Á)=>V.int<|a+(i:Â)
def ć:Ã V->Ï (Ã V):=gq (Qz ϐ λb=>if -1000000<=b/\b<=1000000 then À (û 0 b.toNat) else Ä)
 (wm ϐ ϐ λa b=>if(-1000000<=a/\a<=1000000)/\(-1000000<=b/\b<=1000000)/\b-a<=1000000 then À (û a (b-a).toNat) else Ä) Ny
def gE:Ã V->Ï (Ã V):=uE ko λxs=>qh<|xs.zipIdx.map λx=>.ñ [.int x.2,x.1]
def DF:Ã V->Ï (Ã V):=gq Oj Nz<|NO ko ko ko λxs y zs=>if y.length=xs.length/\zs.length=xs.length then qh ((xs.zip<|y.zip zs).map λx=>.ñ [x.1,x.2.1,x.2.2]) else Ä
def Hs:Ã V->Ï (Ã V):=uE ko λxs=>qh xs.reverse
def Uw:VF:=gq (λx=>(dD x).map λn=>(.int n,0)) Nz Ny
noncomputable def mM(x y:ā):Ò:=fu x y==À dZ
noncomputable def mG(x y:ā):Ò:=fu x y==À rT
def bz:VF:=gq Oj (wm ϐ ϐ λa b=>À (.int<|if b<a then b else a,0))
 (NO mV mV mV λa b c=>let m:=if mM b a then b else a;À (.á<|if mM c m then c else m,0))
def GU:VF:=gq Oj (wm ϐ ϐ λa b=>À (.int<|if a<b then b else a,0))
 (NO mV mV mV λa b c=>let m:=if mG b a then b else a;À (.á<|if mG c m then c else m,0))
def t4:VF:=gq (λv=>IU NB (λb=>À (.int<|if b then 1 else 0,0)) v (Qz mV (λx=>match wZ x with
 |.fin sg m e=>À (.int<|EI sg m e,0)
 |_=>Ä) v)) Nz Ny
def IY:VF:=uE ϐ λa=>À (.int a.natAbs,0)
noncomputable def ϫ(xs:Ã V):Ï (Ã Â):=xs.mapM λ|V.int y=>À y|_=>Ä
def xY:VF:=uE ko λxs=>if xs.length<=1000000 then(ϫ xs).map λa=>(.int a.sum,0) else Ä
noncomputable def iR(x:Â):Ã Â->Ã Â
 |[]=>[x]
 |y::a=>if x<=y then x::y::a else y::iR x a
def sortI(l:Ã Â):Ã Â:=l.foldr iR []
def tJ:VF:=uE ko λxs=>if xs.length<64 then(ϫ xs).map λa=>(.Ñ<|(sortI a).map .int,1) else Ä
def vV:VF:=uE uv λs=>if s.length=1 then À (.int<|s.cps.getD 0 0,0) else Ä
def qD:VF:=uE ϐ λi=>if 0<=i/\i<0x110000/\¬(0xD800<=i/\i<0xE000) then À (.str ⟨#[i.toNat]⟩,0) else Ä
def eX:VF:=uE ϐ λ_=>À (.ty "int",0)
def AF:VF:=uE ko λxs=>if xs.length<=1000000 then À (.Ñ xs,1) else Ä
noncomputable def iM(a b s:Â)(n:Á):Ã V:=(range n).map λ(i:Á)=>V.int<|a+s*(i:Â)
def ź:VF:=gq (Qz ϐ λb=>if -1000<=b/\b<=1000 then À (.Ñ<|û 0 b.toNat,1) else Ä)
 (wm ϐ ϐ λa b=>if(-1000000<=a/\a<=1000000)/\(-1000000<=b/\b<=1000000)/\b-a<=1000 then À (.Ñ<|û a (b-a).toNat,1) else Ä)
 (NO ϐ ϐ ϐ λa b c=>if c=2/\(-1000<=a/\a<=1000)/\(-1000<=b/\b<=1000)/\b-a<=1000 then À (.Ñ<|iM a b c ((b-a+1)/2).toNat,1) else Ä)
noncomputable def ϖ(n:Á):Â:=if n=0 then 0 else(Nat.log2 n+1:Á)
def Ź:VF:=uE ϐ λa=>À (.int<|ϖ a.natAbs,0)
def m_lower:VF:=uE uv λs=>if(pf s).length<=1000000 then À (.str<|pf s,0) else Ä
def m_upper:VF:=uE uv λs=>if(Txt.upper s).length<=1000000 then À (.str<|Txt.upper s,0) else Ä
noncomputable def j7(xs:Ã V):Ï (Ã Str):=xs.mapM λ|V.str y=>À y|_=>Ä
def rF:VF:=HK uv ko λs xs=>(j7 xs).bind λl=>if(l.map (·.length)).sum+l.length*s.length<=1000000 then À (.str<|yL s l,0) else Ä
def m6:VF:=HK ko ϐ λxs a=>if xs.length<=1000000 then(ϫ xs).bind λb=>(b.findIdx? (·==a)).map λk=>(.int k,0) else Ä
noncomputable def ŗ:Ã Â:=[173,847,6150,6155,6156,6157,8203,8204,8205,8288,65279]++(range 16).map λ(i:Á)=>(65024:Â)+(i:Â)
def Ĺ:VF:=uE uv λs=>if s.length=1 then À (.bool<|ŗ.contains ((s.cps.getD 0 0:Á):Â),0) else Ä
def Ħ:VF:=uE uv λs=>if s.length=1 then(let n:=s.cps.getD 0 0
 if[102,105,107,108,115,116,70,73,75,76,83,84].contains n then À (.str<|pf s,0) else
 if 119808<=n/\n<119808+52*13/\[5,8,10,11,18,19].contains ((n-119808)%52)/\[0,1,2,4,6,7,8,9,10,11,12].contains ((n-119808)/52) then À (.str ⟨#[97+(n-119808)%52]⟩,0) else Ä) else Ä
noncomputable def Ď(n:Á):Á->Á->Ã Â
 |0,_=>[]
 |k+1,a=>((a%2^n:Á):Â)::Ď n k (a/2^n)
def ĝ:VF:=HK ϐ ϐ λa n=>if 0<=a/\1<=n/\n<=4000/\ϖ a.toNat<=4000/\(ϖ a.toNat+n-1).fdiv n<=256 then À (.Ñ<|(Ď n.toNat ((ϖ a.toNat+n-1).fdiv n).toNat a.toNat).map .int,0) else Ä
def ğ:VF:=HK ko ϐ λxs n=>(ϫ xs).bind λa=>if 0<=n/\n<=4000/\xs.length<=256/\n*xs.length<=8000/\(∀d∈a,0<=d/\d<2^n.toNat) then À (.int<|a.foldr (λd r=>r*2^n.toNat+d) 0,0) else Ä
def cU:VF:=gq Oj Nz<|NO ϐ ϐ ϐ λa b n=>if b≠0/\ϖ a.natAbs-n<=4000/\a.natAbs.log2<8000/\b.natAbs.log2<8000 then À (.ñ [.int (a.fdiv b),.int<|a.fmod b],0) else Ä
noncomputable def RW:Ã PS:=
 [.î 2 (.Õ .Mod (.Æ 2)<|.c<|.á 4607182418800017408),.Ŗ (.cmp .Lt (.Æ 2)<|.c<|.á 4595172819793696085)
  [.ret (.Õ .Add (.Æ 0)<|.Õ .Mult (.Õ .Mult (.Õ .Sub (.Æ 1)<|.Æ 0)<|.Æ 2)<|.c<|.á 4618441417868443648)]
  [],.Ŗ (.cmp .Lt (.Æ 2)<|.c<|.á 4602678819172646912)
  [.ret (.Æ 1)]
  [],.Ŗ (.cmp .Lt (.Æ 2)<|.c<|.á 4604180019048437077)
  [.ret (.Õ .Add (.Æ 0)<|.Õ .Mult (.Õ .Mult (.Õ .Sub (.Æ 1)<|.Æ 0)<|.Õ .Sub (.c<|.á 4604180019048437077)<|.Æ 2)<|.c<|.á 4618441417868443648)]
  [],.ret<|.Æ 0]
def Km:Ã V->Ï (V×Á):=ė 50 3 3 RW
def ũ:Ã PS:=
 [.Ŗ (.cmp .Eq (.Æ 0)<|.Æ 1)
  [.ret (.c<|.int 0)]
  [],.Ŗ (.cmp .Eq (.fn m_lower [(.Æ 0)])<|.fn m_lower [(.Æ 1)])
  [.ret (.c<|.int 1)]
  [],.ret<|.c<|.int 2]
def þ:Ã V->Ï (V×Á):=ė 50 2 2 ũ
noncomputable abbrev Pq:PE:=(.cmp .Eq (.ä 0<|.Õ .Sub (.Æ 4)<|.c<|.int 1)<|.ä 1<|.Õ .Sub (.Æ 4)<|.c<|.int 1)
abbrev QV:PS:=.az (.cK (.bp (.Æ 0) (.c<|.none)<|.iQ (.Æ 4)<|.c<|.none)<|.cK (.bp (.Æ 1) (.c<|.none)<|.iQ (.Æ 4)<|.c<|.none) Pq)
 [.aug 4 .Sub (.c<|.int 1)]
noncomputable abbrev Ia:PS:=.Ŗ (.cmp .Gt (.Æ 10)<|.Æ 2)
 [.ret (.Õ .Add (.Æ 2)<|.c<|.int 1)]
 []
noncomputable abbrev Q0:PS:=.az (.cK (.bp (.Æ 0) (.Æ 3)<|.c<|.none)<|.cK (.bp (.Æ 1) (.Æ 3)<|.c<|.none)<|.cmp .Eq (.ä 0<|.Æ 3)<|.ä 1<|.Æ 3)
 [.aug 3 .Add (.c<|.int 1)]
noncomputable abbrev Mn:PE:=(.cmp .Gt (.Õ .Mult (.Õ .Sub (.č 1)<|.č 0)<|.c<|.int 2)<|.Æ 2)
noncomputable abbrev PX:PS:=.Ŗ (.iQ (.cmp .Gt (.č 0)<|.c<|.int 40)<|.cmp .Gt (.č 1)<|.c<|.int 40)
 [.ret (.Õ .Add (.Æ 2)<|.c<|.int 1)]
 []
noncomputable abbrev Rt:PS:=.Ŗ (.iQ (.un .Not<|.Æ 0)<|.un .Not<|.Æ 1)
 [.ret (.Õ .Mult (.c<|.int 2)<|.Õ .Add (.č 0)<|.č 1)]
 []
abbrev Oc:PS:=.î 5<|.fn ź [(.c<|.int 2),(.Õ .Mult (.c<|.int 2)<|.Õ .Add (.č 0)<|.c<|.int 1),(.c<|.int 2)]
def Ÿ:Ã PS:=
 [.Ŗ (.cmp .Eq (.Æ 0)<|.Æ 1)
  [.ret (.c<|.int 0)]
  [],.î 3<|.c<|.int 0,Q0,.î 0<|.bp (.Æ 0) (.Æ 3)<|.c<|.none,.î 1<|.bp (.Æ 1) (.Æ 3)<|.c<|.none,.î 4<|.c<|.int 0,QV,.î 0<|.bp (.Æ 0) (.c<|.none)<|.iQ (.Æ 4)<|.c<|.none,.î 1<|.bp (.Æ 1) (.c<|.none)<|.iQ (.Æ 4)<|.c<|.none,Rt,PX,.Ŗ (.cmp .Lt (.č 1)<|.č 0)
  [.par [0,1] [(.Æ 1),(.Æ 0)]]
  [],.Ŗ Mn
  [.ret (.Õ .Add (.Æ 2)<|.c<|.int 1)]
  [],Oc,.î 6<|.c<|.int 0,.Ū (.one 7) ć [(.č 1)]
  [.î 8 (.ä 1<|.Æ 7),.jJ 9 6<|.Õ .Mult (.Æ 7)<|.c<|.int 2,.î 10<|.c<|.int 9223372036854775807,.Ū (.one 11) ć [(.č 0)]
    [.î 12 (.Õ .Add (.Æ 9)<|.fn þ [(.Æ 8),(.ä 0<|.Æ 11)]),.î 9<|.ä 5<|.Æ 11,.î 13<|.Õ .Add (.fn bz [(.Æ 6),(.Æ 9)])<|.c<|.int 2,.î 6<|.fn bz [(.Æ 13),(.Æ 12)],.ö 5 (.Æ 11)<|.Æ 6,.Ŗ (.cmp .Lt (.Æ 6)<|.Æ 10)
      [.î 10 (.Æ 6)]
      []],Ia],.ret<|.Æ 6]
def Í:Ã V->Ï (V×Á):=ė 50 14 3 Ÿ
abbrev QR:Ã PS:=[.mO [7,4] (.fn cU [(.Õ .Add (.Õ .LShift (.Æ 4)<|.Æ 2)<|.Æ 6),(.Æ 1),(.Æ 2)]),.app 5<|.Æ 7]
def fN:Ã PS:=
 [.î 2 (.fn Ź [(.Æ 1)]),.î 3<|.fn ĝ [(.Æ 0),(.Æ 2)],.î 4<|.c<|.int 0,.î 5<|.Ñ [],.Ū (.one 6) Hs [(.Æ 3)]
  QR,.rev 5,.î 8<|.fn ğ [(.Æ 5),(.Æ 2)],.ret<|.ñ [(.Æ 8),(.Æ 4)]]
def aS:Ã V->Ï (V×Á):=ė 50 9 2 fN
def cB(a:VF):Ã PS:=
 [.Ŗ (.cmp .Eq (.Æ 1)<|.c<|.int 0)
  [.mO [] (.c .none)]
  [.Ŗ (.cmp .Lt (.Æ 1)<|.c<|.int 0)
   [.mO [2,3] (.fn a [.un .USub (.Æ 0),.un .USub<|.Æ 1]),.ret<|.ñ [.Æ 2,.un .USub<|.Æ 3]]
   [.Ŗ (.cmp .Lt (.Æ 0)<|.c<|.int 0)
    [.mO [2,3] (.fn a [.un .Invert (.Æ 0),.Æ 1]),.ret<|.ñ [.un .Invert (.Æ 2),.Õ .Add (.Æ 1)<|.un .Invert<|.Æ 3]]
    [.ret (.fn aS [.Æ 0,.Æ 1])]]]]
def NG:Á->VF
 |0=>λ_=>Ä
 |d+1=>ė 50 4 2<|cB<|NG d
def Ņ:VF:=NG 3
def fD:Ã PS:=
 [.î 3 (.fn GU [(.Æ 0),(.Æ 1),(.Æ 2)]),.î 4<|.fn bz [(.Æ 0),(.Æ 1),(.Æ 2)],.î 5<|.Õ .Add (.Æ 3)<|.Æ 4,.î 6<|.Õ .Sub (.Æ 3)<|.Æ 4,.î 7<|.Õ .Div (.Æ 5)<|.c<|.á 4611686018427387904,.Ŗ (.cmp .Eq (.Æ 4)<|.Æ 3)
  [.ret (.ñ [(.c<|.á 0),(.Æ 7),(.c<|.á 0)])]
  [],.Ŗ (.cmp .LtE (.Æ 7)<|.c<|.á 4602678819172646912)
  [.î 8 (.Õ .Div (.Æ 6)<|.Æ 5)]
  [.î 8 (.Õ .Div (.Æ 6)<|.Õ .Sub (.Õ .Sub (.c<|.á 4611686018427387904)<|.Æ 3)<|.Æ 4)],.î 9<|.Õ .Div (.Õ .Sub (.Æ 3)<|.Æ 0)<|.Æ 6,.î 10<|.Õ .Div (.Õ .Sub (.Æ 3)<|.Æ 1)<|.Æ 6,.î 11<|.Õ .Div (.Õ .Sub (.Æ 3)<|.Æ 2)<|.Æ 6,.Ŗ (.cmp .Eq (.Æ 0)<|.Æ 3)
  [.î 12 (.Õ .Sub (.Æ 11)<|.Æ 10)]
  [.Ŗ (.cmp .Eq (.Æ 1)<|.Æ 3)
   [.î 12 (.Õ .Sub (.Õ .Add (.c<|.á 4611686018427387904)<|.Æ 9)<|.Æ 11)]
   [.î 12 (.Õ .Sub (.Õ .Add (.c<|.á 4616189618054758400)<|.Æ 10)<|.Æ 9)]],.î 12<|.Õ .Mod (.Õ .Div (.Æ 12)<|.c<|.á 4618441417868443648)<|.c<|.á 4607182418800017408,.ret<|.ñ [(.Æ 12),(.Æ 7),(.Æ 8)]]
def bh:Ã V->Ï (V×Á):=ė 50 13 3 fD
def fG:Ã PS:=
 [.Ŗ (.cmp .Eq (.Æ 2)<|.c<|.á 0)
  [.ret (.ñ [(.Æ 1),(.Æ 1),(.Æ 1)])]
  [],.Ŗ (.cmp .LtE (.Æ 1)<|.c<|.á 4602678819172646912)
  [.î 3 (.Õ .Mult (.Æ 1)<|.Õ .Add (.c<|.á 4607182418800017408)<|.Æ 2)]
  [.î 3 (.Õ .Sub (.Õ .Add (.Æ 1)<|.Æ 2)<|.Õ .Mult (.Æ 1)<|.Æ 2)],.î 4<|.Õ .Sub (.Õ .Mult (.c<|.á 4611686018427387904)<|.Æ 1)<|.Æ 3,.ret<|.ñ [(.fn Km [(.Æ 4),(.Æ 3),(.Õ .Add (.Æ 0)<|.c<|.á 4599676419421066581)]),(.fn Km [(.Æ 4),(.Æ 3),(.Æ 0)]),(.fn Km [(.Æ 4),(.Æ 3),(.Õ .Sub (.Æ 0)<|.c<|.á 4599676419421066581)])]]
def aW:Ã V->Ï (V×Á):=ė 50 5 3 fG
def fE:Ã PS:=
 [.î 3 (.fn GU [(.Æ 0),(.Æ 1),(.Æ 2)]),.î 4<|.fn bz [(.Æ 0),(.Æ 1),(.Æ 2)],.î 5<|.Õ .Sub (.Æ 3)<|.Æ 4,.î 6<|.Æ 3,.Ŗ (.cmp .Eq (.Æ 4)<|.Æ 3)
  [.ret (.ñ [(.c<|.á 0),(.c<|.á 0),(.Æ 6)])]
  [],.î 7<|.Õ .Div (.Æ 5)<|.Æ 3,.î 8<|.Õ .Div (.Õ .Sub (.Æ 3)<|.Æ 0)<|.Æ 5,.î 9<|.Õ .Div (.Õ .Sub (.Æ 3)<|.Æ 1)<|.Æ 5,.î 10<|.Õ .Div (.Õ .Sub (.Æ 3)<|.Æ 2)<|.Æ 5,.Ŗ (.cmp .Eq (.Æ 0)<|.Æ 3)
  [.î 11 (.Õ .Sub (.Æ 10)<|.Æ 9)]
  [.Ŗ (.cmp .Eq (.Æ 1)<|.Æ 3)
   [.î 11 (.Õ .Sub (.Õ .Add (.c<|.á 4611686018427387904)<|.Æ 8)<|.Æ 10)]
   [.î 11 (.Õ .Sub (.Õ .Add (.c<|.á 4616189618054758400)<|.Æ 9)<|.Æ 8)]],.î 11<|.Õ .Mod (.Õ .Div (.Æ 11)<|.c<|.á 4618441417868443648)<|.c<|.á 4607182418800017408,.ret<|.ñ [(.Æ 11),(.Æ 7),(.Æ 6)]]
def aR:Ã V->Ï (V×Á):=ė 50 12 3 fE
def fz:Ã PS:=
 [.Ŗ (.cmp .Eq (.Æ 1)<|.c<|.á 0)
  [.ret (.ñ [(.Æ 2),(.Æ 2),(.Æ 2)])]
  [],.î 3<|.fn t4 [(.Õ .Mult (.Æ 0)<|.c<|.á 4618441417868443648)],.î 4<|.Õ .Sub (.Õ .Mult (.Æ 0)<|.c<|.á 4618441417868443648)<|.Æ 3,.î 5<|.Õ .Mult (.Æ 2)<|.Õ .Sub (.c<|.á 4607182418800017408)<|.Æ 1,.î 6<|.Õ .Mult (.Æ 2)<|.Õ .Sub (.c<|.á 4607182418800017408)<|.Õ .Mult (.Æ 1)<|.Æ 4,.î 7<|.Õ .Mult (.Æ 2)<|.Õ .Sub (.c<|.á 4607182418800017408)<|.Õ .Mult (.Æ 1)<|.Õ .Sub (.c<|.á 4607182418800017408)<|.Æ 4,.î 3<|.Õ .Mod (.Æ 3)<|.c<|.int 6,.Ŗ (.cmp .Eq (.Æ 3)<|.c<|.int 0)
  [.ret (.ñ [(.Æ 2),(.Æ 7),(.Æ 5)])]
  [],.Ŗ (.cmp .Eq (.Æ 3)<|.c<|.int 1)
  [.ret (.ñ [(.Æ 6),(.Æ 2),(.Æ 5)])]
  [],.Ŗ (.cmp .Eq (.Æ 3)<|.c<|.int 2)
  [.ret (.ñ [(.Æ 5),(.Æ 2),(.Æ 7)])]
  [],.Ŗ (.cmp .Eq (.Æ 3)<|.c<|.int 3)
  [.ret (.ñ [(.Æ 5),(.Æ 6),(.Æ 2)])]
  [],.Ŗ (.cmp .Eq (.Æ 3)<|.c<|.int 4)
  [.ret (.ñ [(.Æ 7),(.Æ 5),(.Æ 2)])]
  [],.Ŗ (.cmp .Eq (.Æ 3)<|.c<|.int 5)
  [.ret (.ñ [(.Æ 2),(.Æ 5),(.Æ 6)])]
  []]
def Ϯ:Ã V->Ï (V×Á):=ė 50 8 3 fz
def j0:Ã PS:=
 [.ret (.Õ .FloorDiv (.fn t4 [(.Õ .Add (.Õ .Mult (.Õ .Mult (.Æ 0)<|.c<|.int 2)<|.Æ 1)<|.c<|.int 1)])<|.c<|.int 2)]
def ħ:Ã V->Ï (V×Á):=ė 50 2 2 j0
abbrev Rw:PS:=.ret<|.ñ [(.ite (.uO .LtE .LtE (.c<|.int 0) (.Æ 2)<|.c<|.int 1) (.Õ .Mod (.fn ħ [(.Æ 2),(.c<|.int 96)])<|.c<|.int 96)<|.un .USub<|.c<|.int 1),(.fn ħ [(.Æ 4),(.c<|.int 64)]),(.fn ħ [(.Æ 5),(.c<|.int 64)])]
def jN:Ã PS:=
 [.Ŗ (.cmp .Eq (.Æ 1)<|.c<|.int 0)
  [.mO [2,3,4] (.fn aR [(.ä 0<|.c<|.int 0),(.ä 0<|.c<|.int 1),(.ä 0<|.c<|.int 2)]),.î 5<|.Õ .Mult (.Æ 4)<|.Õ .Sub (.c<|.int 1)<|.Æ 3]
  [.mO [2,6,3] (.fn bh [(.ä 0<|.c<|.int 0),(.ä 0<|.c<|.int 1),(.ä 0<|.c<|.int 2)]),.î 4<|.ite (.cmp .LtE (.Õ .Mult (.c<|.int 2)<|.Æ 6)<|.c<|.int 1) (.Õ .Mult (.Æ 6)<|.Õ .Add (.c<|.int 1)<|.Æ 3)<|.Õ .Sub (.Õ .Add (.Æ 6)<|.Æ 3)<|.Õ .Mult (.Æ 6)<|.Æ 3,.î 5<|.Õ .Sub (.Õ .Mult (.c<|.int 2)<|.Æ 6)<|.Æ 4],Rw]
def bu:Ã V->Ï (V×Á):=ė 50 7 2 jN
abbrev OC:PS:=.Ŗ (.iQ (.cmp .NotEq (.comp (.comp (.fn ħ [(.Æ 15),(.c<|.int 1024)]) (.one 15) Ń [(.Æ 14)] Ä) (.one 14) Ń [(.Æ 10)] Ä)<|.Õ .Mult (.Ñ [(.Æ 7)])<|.c<|.int 2)<|.cmp .NotEq (.Æ 13)<|.Õ .Mult (.Ñ [(.ñ [(.Æ 0),(.Æ 1),(.Æ 2)])])<|.c<|.int 4)
 [.ret (.un .USub<|.c<|.int 1)]
 []
abbrev OP:PE:=(.Ñ [(.fn Ϯ [(.Æ 8),(.Õ .Div (.Õ .Sub (.Æ 1)<|.Æ 2)<|.Æ 1),(.Õ .Div (.Æ 1)<|.c<|.int 64)]),(.fn aW [(.Æ 8),(.Õ .Div (.Æ 9)<|.c<|.int 128),(.Õ .Div (.Õ .Sub (.Æ 1)<|.Æ 2)<|.fn bz [(.Æ 9),(.Õ .Sub (.c<|.int 128)<|.Æ 9)])])])
abbrev O6:PE:=(.comp (.Õ .Add (.Õ .Mult (.c<|.int 16)<|.Æ 2)<|.Õ .Mult (.Õ .Sub (.Æ 1)<|.Æ 2)<|.fn bz [(.c<|.int 16),(.fn GU [(.c<|.int 0),(.Õ .Sub (.c<|.int 32)<|.Æ 6)])]) (.one 6) Ń [(.Æ 5)] Ä)
abbrev RH:PE:=(.comp (.fn bz [(.Õ .Mod (.Õ .Sub (.Æ 0)<|.Æ 4)<|.c<|.int 96),(.Õ .Mod (.Õ .Sub (.Æ 4)<|.Æ 0)<|.c<|.int 96)]) (.one 4) Ń [(.ñ [(.c<|.int 0),(.c<|.int 32),(.c<|.int 64)])] Ä)
abbrev Ox:PE:=(.eZ (.fn bu [(.Æ 11),(.Æ 12)]) (.one 11) Ń [(.Æ 10)] (.one 12) Ń [(.ñ [(.c<|.int 0),(.c<|.int 1)])])
noncomputable abbrev N0:PS:=.par [8,9] [(.Õ .Div (.Õ .Add (.Æ 0)<|.Õ .Mult (.c<|.int 96)<|.Æ 3)<|.c<|.int 96),(.Õ .Add (.Æ 1)<|.Æ 2)]
def jX:Ã PS:=
 [.î 5 RH,.î 7 O6,N0,.î 10 OP,.î 13 Ox,OC,.ret<|.sub (.ä 13<|.c<|.int 0)<|.c<|.int 0]
def ax:Ã V->Ï (V×Á):=ė 50 16 4 jX
abbrev QY:PE:=(.comp (.cmp .Is (.ä 10<|.Æ 13)<|.cmp .In (.fn vV [(.ä 8<|.Æ 13)])<|.Æ 4) (.one 13) ć [(.č 8)] Ä)
abbrev Xz:PS:=.Ŗ (.iQ (.cmp .NotEq QY<|.Õ .Mult (.Ñ [(.c<|.bool true)])<|.č 8)<|.cmp .NotEq (.comp (.fn Ħ [(.Æ 14)]) (.one 14) Ń [(.Æ 12)] Ä)<|.Æ 0)
 [.ret (.c<|.str<|ϰ "")]
 []
abbrev RA:PE:=(.Õ .Add (.Õ .Add (.Õ .Add (.bp (.Æ 7) (.c<|.none)<|.c<|.int 1)<|.Ñ [(.fn qD [(.ä 4<|.Æ 3)])])<|.bp (.Æ 7) (.c<|.int 1)<|.c<|.none)<|.Ñ [(.fn qD [(.Õ .Sub (.ä 4<|.Æ 3)<|.c<|.int 1)]),(.fn qD [(.Õ .Add (.ä 4<|.Æ 3)<|.c<|.int 1)])])
abbrev QQ:PE:=(.Õ .Add (.Ñ [(.c<|.int 173),(.c<|.int 847),(.c<|.int 6150),(.c<|.int 6155),(.c<|.int 6156),(.c<|.int 6157),(.c<|.int 8203),(.c<|.int 8204),(.c<|.int 8205),(.c<|.int 8288),(.c<|.int 65279)])<|.fn ź [(.c<|.int 65024),(.c<|.int 65040)])
abbrev Od:PE:=(.comp (.ä 8<|.Æ 11) (.one 11) ć [(.Õ .Add (.č 7)<|.c<|.int 1)]<|À<|.cmp .Is (.ä 10<|.Æ 11)<|.c<|.bool false)
abbrev ON:PE:=(.comp (.sub (.sub (.ñ [(.Æ 0),(.Æ 1)])<|.Æ 6)<|.Æ 5) (.two 5 6) gE [(.Æ 2)] Ä)
def j6:Ã PS:=
 [.î 4 QQ,.î 7 ON,.î 8 RA,.î 10<|.comp (.fn Ĺ [(.Æ 9)]) (.one 9) Ń [(.Æ 8)] Ä,.î 12 Od,Xz,.ret<|.fn rF [(.c<|.str<|ϰ ""),(.Æ 12)]]
def ϣ:Ã V->Ï (V×Á):=ė 50 15 4 j6
abbrev Xn:PE:=(.iQ (.cmp .IsNot (.fn eX [(.Æ 8)])<|.c<|.ty "int")<|.cK (.cmp .Eq (.Æ 5)<|.c<|.int 0)<|.cmp .NotEq (.fn Í [(.Æ 7),(.Æ 6),(.sub (.ñ [(.Õ .Sub (.Æ 8)<|.c<|.int 1),(.c<|.int 0),(.Æ 8)])<|.Õ .Mod (.Æ 4)<|.c<|.int 3)])<|.sub (.ñ [(.Æ 8),(.c<|.int 1),(.Æ 8)])<|.Õ .Mod (.Æ 4)<|.c<|.int 3)
abbrev XK:Ã PS:=[.mO [6,7] (.ite (.cmp .Eq (.Õ .Mod (.Õ .Add (.Æ 4)<|.Æ 5)<|.c<|.int 2)<|.c<|.int 0) (.ñ [(.ä 0<|.Æ 4),(.ä 0<|.Æ 5)])<|.ñ [(.ä 0<|.Æ 5),(.ä 0<|.Æ 4)]),.î 8<|.fn Í [(.Æ 6),(.Æ 7),(.c<|.int 8)],.Ŗ Xn
  [.ret (.Ñ [])]
  [],.put2 3 (.Æ 4) 5<|.Õ .Pow (.Æ 1)<|.Æ 8,.put2 3 (.Æ 5) 4<|.gJ 3 (.Æ 4) 5]
def gK:Ã PS:=
 [.mS 3 (.Õ .Mult (.Ñ [(.c<|.int 1)])<|.č 0) (.one 2) Ń [(.Æ 0)],.Ū (.one 4) ć [(.č 0)]
  [.Ū (.one 5) ć [(.Õ .Add (.Æ 4)<|.c<|.int 1)]
   XK],.ret<|.Æ 3]
def Ϥ:Ã V->Ï (V×Á):=ė 50 9 2 gK
abbrev VU:PE:=(.comp (.Õ .FloorDiv (.Õ .Sub (.Õ .Mult (.sub (.ä 2<|.Æ 9)<|.Æ 11)<|.ä 8<|.Æ 5)<|.Õ .Mult (.Æ 10)<|.ä 8<|.Æ 11)<|.Æ 3) (.one 11) ć [(.č 2)] Ä)
abbrev LC:PE:=(.comp (.Æ 6) (.one 6) ć [(.Æ 5),(.č 2)]<|À<|.cmp .NotEq (.sub (.ä 2<|.Æ 6)<|.Æ 5)<|.c<|.int 0)
noncomputable abbrev PI:PS:=.Ŗ (.cmp .NotEq (.ä 7<|.c<|.int 0)<|.Æ 5)
 [.swap 2 (.Æ 5) (.ä 7<|.c<|.int 0) 4 (.un .USub<|.Æ 4)]
 []
def aL:Ã PS:=
 [.par [2,3,4] [(.comp (.fn AF [(.Æ 1)]) (.one 1) Ń [(.Æ 0)] Ä),(.c<|.int 1),(.c<|.int 1)],.Ū (.one 5) ć [(.Õ .Sub (.č 2)<|.c<|.int 1)]
  [.î 7 LC,.Ŗ (.cmp .Eq (.Æ 7)<|.Ñ [])
    [.ret (.c<|.int 0)]
    [],PI,.î 8<|.ä 2<|.Æ 5,.Ū (.one 9) ć [(.Õ .Add (.Æ 5)<|.c<|.int 1),(.č 2)]
    [.î 10 (.sub (.ä 2<|.Æ 9)<|.Æ 5),.ö 2 (.Æ 9) VU],.î 3<|.ä 8<|.Æ 5],.ret<|.Õ .Mult (.Æ 4)<|.sub (.ä 2<|.un .USub<|.c<|.int 1)<|.un .USub<|.c<|.int 1]
def Ĭ:Ã V->Ï (V×Á):=ė 50 12 1 aL
abbrev PN:PE:=(.fn Í [(.ä 33<|.Æ 35),(.Õ .Add (.bp (.Æ 45) (.c<|.int 1)<|.c<|.none)<|.Æ 47),(.c<|.int 8)])
abbrev Lc:PE:=(.comp PN (.one 47) Ń [(.ñ [(.c<|.str<|ϰ ""),(.bp (.Æ 45) (.c<|.none)<|.c<|.int 1)])] Ä)
abbrev R3:PS:=.Ŗ (.cmp .NotEq Lc<|.Ñ [(.Õ .Add (.c<|.int 2)<|.Æ 46),(.fn bz [(.Õ .Mult (.c<|.int 2)<|.Æ 9),(.Õ .Add (.c<|.int 4)<|.Æ 46)])])
 [.ret (.c<|.bool false)]
 []
abbrev N4:PE:=(.comp (.fn t4 [(.cmp .Lt (.Õ .Mod (.Õ .Sub (.Æ 37)<|.Æ 38)<|.c<|.int 96)<|.c<|.int 48)]) (.one 38) Ń [(.Æ 16)] Ä)
abbrev Qd:PS:=.app 33<|.fn ϣ [(.Æ 18),(.Æ 26),(.Æ 39),(.Õ .Mod (.Õ .Add (.Õ .FloorDiv (.Æ 8)<|.c<|.int 14641)<|.Õ .Mult (.c<|.int 10)<|.Æ 35)<|.c<|.int 27)]
noncomputable abbrev Qv:PS:=.Ŗ (.iQ (.cmp .NotEq (.Æ 37)<|.Æ 36)<|.cmp .Eq (.ä 33<|.un .USub<|.c<|.int 1)<|.c<|.str<|ϰ "")
 [.ret (.c<|.bool false)]
 []
abbrev VK:Ã PS:=[.î 37 (.fn ax [(.Æ 36),(.Æ 28),(.Æ 29),(.Æ 30)]),.î 39 N4,Qd,.app 34<|.fn ğ [(.Æ 39),(.c<|.int 1)],Qv]
noncomputable abbrev Px:PE:=(.ite (.cmp .Gt (.ä 41<|.Æ 35)<|.c<|.int 0) (.ä 20<|.ä 41<|.Æ 35)<|.c<|.int 0)
abbrev SF:PS:=.par [45,46] [(.ä 33<|.Õ .Sub (.Æ 35)<|.c<|.int 1),Px]
abbrev VM:PE:=(.comp (.Õ .Mod (.Æ 4)<|.Õ .Pow (.c<|.int 10)<|.c<|.int 12) (.two 3 4) gE [(.bp (.Æ 0) (.c<|.none)<|.c<|.int 60)]<|À<|.cmp .Eq (.Õ .Mod (.Æ 3)<|.c<|.int 4)<|.Æ 1)
abbrev Ub:PS:=.Ŗ (.iQ (.cmp .NotEq (.Æ 61)<|.c<|.int 0)<|.iQ (.cmp .IsNot (.fn eX [(.Æ 61)])<|.c<|.ty "int")<|.cmp .IsNot (.fn eX [(.Æ 49)])<|.c<|.ty "int")
 [.ret (.c<|.bool false)]
 []
noncomputable abbrev MS:PE:=(.ñ [(.c<|.int 0),(.c<|.int 1),(.c<|.int 2),(.c<|.int 4),(.c<|.int 6),(.c<|.int 7),(.c<|.int 8),(.c<|.int 9),(.c<|.int 10),(.c<|.int 11),(.c<|.int 12)])
noncomputable abbrev MV:PE:=(.Õ .Mod (.Õ .FloorDiv (.Æ 5)<|.sub (.ñ [(.c<|.int 3),(.c<|.int 144),(.c<|.int 6912),(.c<|.int 331776)])<|.Æ 12)<|.Õ .Sub (.c<|.int 48)<|.Æ 12)
noncomputable abbrev Mh:PE:=(.Õ .Mod (.Õ .FloorDiv (.Æ 7)<|.sub (.ñ [(.c<|.int 1),(.c<|.int 6),(.c<|.int 30),(.c<|.int 120)])<|.Æ 17)<|.Õ .Sub (.c<|.int 6)<|.Æ 17)
abbrev Pk:PE:=(.comp (.ite (.cmp .Eq (.Æ 24)<|.c<|.int 1) (.fn m_upper [(.Æ 23)])<|.fn qD [(.Õ .Add (.Õ .Add (.c<|.int 119711)<|.Õ .Mult (.c<|.int 52)<|.Æ 25)<|.fn vV [(.Æ 23)])]) (.three 23 24 25) DF [(.Æ 18),(.Æ 20),(.Æ 22)] Ä)
abbrev Lg:PE:=(.comp (.Õ .Sub (.c<|.int 1)<|.Õ .Pow (.Æ 27)<|.Õ .Mult (.c<|.int 2)<|.Æ 50) (.one 50) Ń [(.Æ 20)] Ä)
abbrev LB:PE:=(.Ñ [(.Õ .Sub (.c<|.int 1)<|.Õ .Pow (.Æ 27)<|.Õ .Mult (.c<|.int 2)<|.fn xY [(.Æ 20)])])
abbrev QS:PE:=(.comp (.Õ .Add (.Æ 15)<|.Õ .Mult (.c<|.int 48)<|.Õ .BitAnd (.Õ .RShift (.Õ .FloorDiv (.Æ 5)<|.c<|.int 15925248)<|.Æ 14)<|.c<|.int 1) (.two 14 15) gE [(.Æ 13)] Ä)
noncomputable abbrev Mu:PE:=(.Õ .BitAnd (.Õ .RShift (.Õ .FloorDiv (.Æ 7)<|.c<|.int 360)<|.Æ 19)<|.c<|.int 1)
noncomputable abbrev Lz:PE:=(.Õ .Mod (.Õ .FloorDiv (.Æ 8)<|.Õ .Pow (.c<|.int 11)<|.Æ 21)<|.c<|.int 11)
noncomputable abbrev QG:PE:=(.Ñ [(.ñ [(.c<|.int 1),(.Æ 54)]),(.ñ [(.c<|.int 1),(.un .USub<|.Æ 54)]),(.Æ 55),(.ñ [(.ä 55<|.c<|.int 0),(.un .USub<|.ä 55<|.c<|.int 1)])])
abbrev Pp:PE:=(.comp (.Õ .Add (.Õ .Mult (.Ñ [(.c<|.int 0)])<|.Æ 44)<|.Ñ [(.c<|.int 1)]) (.one 44) Ń [(.Æ 41)] Ä)
abbrev P0:PE:=(.eZ (.cmp .Is (.fn eX [(.Æ 60)])<|.c<|.ty "int") (.one 59) Ń [(.Æ 58)] (.one 60) Ń [(.Æ 59)])
def Į:Ã PS:=
 [.qt [5,6,7,8] (.comp (.Õ .Add (.Æ 2)<|.fn xY [VM]) (.two 1 2) gE [(.Ñ [(.c<|.int 31853392),(.c<|.int 138333),(.c<|.int 1440),(.c<|.int 0)])] Ä),.par [9,10,11] [(.Õ .Add (.c<|.int 2)<|.Õ .Mod (.Æ 5)<|.c<|.int 3),(.fn ź [(.c<|.int 48)]),(.Ñ [(.c<|.str<|ϰ "f"),(.c<|.str<|ϰ "i"),(.c<|.str<|ϰ "l"),(.c<|.str<|ϰ "s"),(.c<|.str<|ϰ "t"),(.c<|.str<|ϰ "k")])],.î 13<|.comp (.pop 10 MV) (.one 12) ć [(.Æ 9)] Ä,.î 16 QS,.î 18<|.comp (.pop 11 Mh) (.one 17) ć [(.Æ 9)] Ä,.î 20<|.comp (.Õ .Add (.c<|.int 1) Mu) (.one 19) ć [(.Æ 9)] Ä,.î 22<|.comp (.sub MS Lz) (.one 21) ć [(.Æ 9)] Ä,.î 26 Pk,.par [27,28,29,30] [(.sub (.ñ [(.un .USub<|.c<|.int 4),(.un .USub<|.c<|.int 3),(.un .USub<|.c<|.int 2),(.c<|.int 2),(.c<|.int 3),(.c<|.int 4)])<|.Õ .Mod (.Æ 6)<|.c<|.int 6),(.Õ .Add (.c<|.int 33)<|.Õ .Mod (.Õ .FloorDiv (.Æ 6)<|.c<|.int 6)<|.c<|.int 32),(.Õ .Mod (.Õ .FloorDiv (.Æ 6)<|.c<|.int 192)<|.c<|.int 32),(.Õ .Mod (.Õ .FloorDiv (.Æ 6)<|.c<|.int 6144)<|.c<|.int 3)],.par [32,33,34] [(.fn tJ [(.Õ .Add (.Æ 13)<|.comp (.Õ .Add (.Æ 31)<|.c<|.int 48) (.one 31) Ń [(.Æ 13)] Ä)]),(.Ñ []),(.Ñ [])],.Ū (.two 35 36) gE [(.Æ 32)]
  VK,.î 41<|.comp (.fn m6 [(.Æ 13),(.Õ .Mod (.Æ 40)<|.c<|.int 48)]) (.one 40) Ń [(.Æ 32)] Ä,.î 43<|.comp (.fn ĝ [(.fn IY [(.Õ .Sub (.ä 34<|.Æ 42)<|.ä 34<|.Õ .Sub (.Æ 42)<|.c<|.int 1)]),(.c<|.int 1)]) (.one 42) ć [(.Õ .Mult (.c<|.int 2)<|.Æ 9)] Ä,.Ŗ (.cmp .NotEq (.Æ 43) Pp)
  [.ret (.c<|.bool false)]
  [],.Ū (.one 35) ć [(.Æ 9)]
  [SF,R3],.î 48<|.fn Ϥ [(.Æ 33),(.Æ 27)],.Ŗ (.cmp .Eq (.Æ 48)<|.Ñ [])
  [.ret (.c<|.bool false)]
  [],.î 49<|.fn Ĭ [(.Æ 48)],.par [51,52] [(.Õ .Add (.Õ .Mult LB<|.Õ .Sub (.Æ 9)<|.c<|.int 2)<|.Õ .Mult Lg<|.c<|.int 2),(.c<|.int 1)],.Ū (.one 53) Ń [(.Æ 51)]
  [.î 52 (.Õ .Mult (.Æ 52)<|.Æ 53)],.î 54<|.Õ .Mod (.Õ .Pow (.Õ .FloorDiv (.Æ 6)<|.c<|.int 18432)<|.c<|.int 4)<|.Æ 52,.î 55<|.ite (.cmp .Eq (.Æ 54)<|.c<|.int 0) (.ñ [(.un .USub<|.c<|.int 1),(.c<|.int 0)])<|.ñ [(.un .USub<|.c<|.int 2),(.Õ .Sub (.Æ 52)<|.Æ 54)],.î 58<|.comp (.fn Ņ [(.Õ .Mult (.Æ 56)<|.Õ .Add (.Æ 49)<|.Æ 54),(.Õ .Mult (.Æ 57)<|.Æ 52)]) (.two 56 57) Ń [(.ñ [(.ñ [(.c<|.int 1),(.c<|.int 1)]),(.ñ [(.un .USub<|.c<|.int 1),(.un .USub<|.c<|.int 1)]),(.ñ [(.un .USub<|.c<|.int 1),(.c<|.int 1)]),(.ñ [(.c<|.int 1),(.un .USub<|.c<|.int 1)])])] Ä,.Ŗ (.iQ (.cmp .NotEq (.Æ 58) QG)<|.cmp .NotEq P0<|.Õ .Mult (.Ñ [(.c<|.bool true)])<|.c<|.int 8)
  [.ret (.c<|.bool false)]
  [],.Ū (.one 53) Ń [(.Æ 51)]
  [.mO [49,61] (.fn Ņ [(.Æ 49),(.Æ 53)]),Ub],.ret<|.cmp .Eq (.Æ 49)<|.c<|.int 1]
def gn{p:Prop}(h:∀G:Prop,(p->G)->G):p:=h p id
def ð{x:Ï A}{f:A->Ï D}{G:Prop}(h:x>>=f=À r)(k:∀a,x=À a->f a=À r->G):G:=by
 induction x with
 |none=>exact ÿ h
 |some x=>exact k x rfl h
def Ŵ{x:Ï (A×B)}{f:A×B->Ï D}{G:Prop}(h:x>>=f=À r)(k:∀a b,x=À (a,b)->f (a,b)=À r->G):G:=ð h λa=>k a.1 a.2
def Ŧ{x:Ï (A×B×C)}{f:A×B×C->Ï D}{G:Prop}(h:x>>=f=À r)(k:∀a b c,x=À (a,b,c)->f (a,b,c)=À r->G):G:=ð h λa=>k a.1 a.2.1 a.2.2
def Ϝ{M:A->B->C->Prop}(h:À (a,b,c)=À (v,m,s))(k:M a b c):M v m s:=by cases h;exact k
def â{M:A->B->Prop}(h:À (a,b)=À (v,m))(k:M a b):M v m:=by cases h;exact k
def WO{p:Prop}[Gq p]{x:Ï D}{G:Prop}(h:(if p then Ä else x)=À r)(k:¬p->x=À r->G):G:=if e:p then nomatch(ť e).symm.trans h else k e ((È e).symm.trans h)
def Ϲ{p:Prop}[Gq p]{x:Ï D}{G:Prop}(h:(if p then x else Ä)=À r)(k:p->x=À r->G):G:=if e:p then k e ((ť e).symm.trans h) else nomatch(È e).symm.trans h
def uD{o:Ï A}{f:A->D}{M:D->Prop}(h:o.map f=À d)(k:∀a,o=À a->M (f a)):M d:=by
 induction o with
 |none=>exact ÿ h
 |some x=>obtain rfl:=à h;exact k x rfl
def Xu(B:PB)(v:V)(x:Ë):Prop:=match v with
 |.none=>x=.none
 |.bool b=>x=.bool b
 |.int i=>∃t,x=.int i t
 |.á b=>∃t,x=.float b t
 |.str s=>∃t,x=.str s t
 |.ty n=>x=.type n
 |.fn a=>x=.ref a/\∃o fd,B a=À o/\o.data=.func fd
 |.ñ xs=>∃a o n items,x=.ref a/\B a=À o/\o.cls=.type "tuple"/\o.data=.seq items n/\ě B xs items.toList
 |.Ñ xs=>∃a o n items,x=.ref a/\B a=À o/\o.cls=.type "list"/\o.data=.seq items n/\(o.dict=Ä/\o.slots=#[])/\ě B xs items.toList
def VR.inv(h:VR B v x):Xu B v x:=
 h.casesOn (motive_1:=λv x _=>Xu B v x) rfl rfl ⟨_,rfl⟩ ⟨_,rfl⟩ ⟨_,rfl⟩ rfl (λo a=>⟨rfl,_,_,o,a⟩) (λo c a h=>⟨_,_,_,_,rfl,o,c,a,h⟩) λo c a hx h=>⟨_,_,_,_,rfl,o,c,a,hx,h⟩
section
variable{B:PB}{M:Ë->Prop}
def ϯ(h:VR B .none x)(k:M .none):M x:=h.inv▸k
def dW(h:VR B (.bool b) x)(k:M (.bool b)):M x:=h.inv▸k
def zZ(h:VR B (.ty n) x)(k:M (.type n)):M x:=h.inv▸k
def ŷ(h:VR B (.á i) x)(k:∀t,M<|.float i t):M x:=h.inv.elim λt e=>e▸k t
def ύ(h:VR B (.str i) x)(k:∀t,M<|.str i t):M x:=h.inv.elim λt e=>e▸k t
def ê(h:VR B (.int i) x)(k:∀t,M<|.int i t):M x:=h.inv.elim λt e=>e▸k t
def jQ(h:VR B (.ñ xs) x)(k:∀a o n items,B a=À o->o.cls=.type "tuple"->o.data=.seq items n->ě B xs items.toList->M (.ref a)):M x:=by
 obtain⟨a,o,n,items,rfl,g,c,b,f⟩:=h.inv;exact k a o n items g c b f
def Ł(h:VR B (.Ñ xs) x)(k:∀a o n items,B a=À o->o.cls=.type "list"->o.data=.seq items n->o.dict=Ä/\o.slots=#[]->ě B xs items.toList->M (.ref a)):M x:=by
 obtain⟨a,o,n,items,rfl,c,j,b,g,f⟩:=h.inv;exact k a o n items c j b g f
end
def Ĩ{A B C:Type}{p:V->Ï A}{q:V->Ï B}{f:A->B->Ï C}{g:Ï C}{r:C}{G:Prop}(h:kD p q f a b g=À r)(k:wm p q f a b=À r->G)(l:g=À r->G):G:=by
 unfold kD at h;unfold wm at k;cases e:p a with
 |none=>rw[e] at h;exact l h
 |some x=>
  rw[e] at h k;cases c:q b with
  |none=>rw[c] at h;exact l h
  |some y=>rw[c] at h k;exact k h
def Ú(h:ϐ a=À x):a=.int x:=by
 cases a with
 |int=>exact Ù V.int<|à h
 |_=>exact ÿ h
def Ũ(h:mV a=À x):a=.á x:=by
 cases a with
 |á=>exact Ù V.á<|à h
 |_=>exact ÿ h
def į(h:uv a=À x):a=.str x:=by
 cases a with
 |str=>exact Ù V.str<|à h
 |_=>exact ÿ h
def Ğ(h:ko a=À x):a=.Ñ x:=by
 cases a with
 |Ñ=>exact Ù V.Ñ<|à h
 |_=>exact ÿ h
def fL(h:Cy a=À x):a=.ñ x:=by
 cases a with
 |ñ=>exact Ù V.ñ<|à h
 |_=>exact ÿ h
def kK(h:NB a=À x):a=.bool x:=by
 cases a with
 |bool=>exact Ù V.bool<|à h
 |_=>exact ÿ h
def m5(h:RK a=À x):a=.ty x:=by
 cases a with
 |ty=>exact Ù V.ty<|à h
 |_=>exact ÿ h
def d7(h:JU a=À x):a=.none:=by
 cases a with
 |none=>rfl
 |_=>exact ÿ h
def mH(r:Ï (V×Á))(t:Str):Ò:=r.any λx=>x.2==0&&(uv x.1).any λs=>s.cps==t.cps
def dB(h:mH r t=true):r=À (.str t,0):=by
 induction r with
 |none=>injection h
 |some x=>
  have h:=jU.1 h;cases e:uv x.1 with
  |none=>have h:=e▸h;cases h.2
  |some s=>have h:=e▸h;exact Å (show x=(x.1,x.2) from rfl)<|Å (į e)<|Å (eq_of_beq h.1)<|Å (show s=t from Ù Str.mk<|eq_of_beq h.2) rfl
def Ć{A B C:Type}{p:V->Ï A}{q:V->Ï B}{c:A->V}{d:B->V}(g:∀{a x},p a=À x->a=c x)(hq:∀{a x},q a=À x->a=d x){f:A->B->Ï C}{M:V->V->Prop}{r:C}
  (h:wm p q f a b=À r) (k:∀x y,f x y=À r->M (c x) (d y)):M a b:=
 ð (r:=r) (x:=p a) h λx e h=>ð (r:=r) (x:=q b) (f:=λy=>f x y) h λy j h=>g e▸hq j▸k x y h
def Ŝ{C:Type}{f:Â->Â->Ï C}{M:V->V->Prop}{r:C}(h:AE f a b=À r)(k:∀x y,f x y=À r->M (.int x) (.int y)):M a b:=Ć Ú Ú h k
def dT{C:Type}{f:ā->ā->Ï C}{M:V->V->Prop}{r:C}(h:X7 f a b=À r)(k:∀x y,f x y=À r->M (.á x) (.á y)):M a b:=Ć Ũ Ũ h k
def kA{M:V->V->Ò->Prop}(h:uJ a b=À r)(c:∀x y,M (.int x) (.int y)<|x==y)(s:∀x y,M (.str x) (.str y)<|x==y)(f:∀x y,M (.bool x) (.bool y)<|x==y)(nn:M .none .none true):M a b r:=
 Ĩ h (λh=>Ŝ (M:=λa b=>M a b r) h λx y h=>à h▸c x y) λh=>Ĩ h (λh=>Ć į į (M:=λa b=>M a b r) h λx y h=>à h▸s x y) λh=>
  Ĩ h (λh=>Ć kK kK (M:=λa b=>M a b r) h λx y h=>à h▸f x y) λh=>Ć d7 d7 (M:=λa b=>M a b r) h λx y h=>à h▸nn
def nu{M:V->V->Ò->Prop}(h:jq (n+1) a b=À r)(z:uJ a b=À r->M a b r)(c:∀x y,(if x.length=y.length then qy (jq n) x y else À false)=À r->M (.Ñ x) (.Ñ y) r)
  (t:∀x y,x.length=y.length->qy (jq n) x y=À r->M (.ñ x) (.ñ y) r):M a b r:=
 Ĩ h (λh=>Ć Ğ Ğ (M:=λa b=>M a b r) h c) λh=>Ĩ h (λh=>Ć fL fL (M:=λa b=>M a b r) h λx y h=>Ϲ h<|t x y) z
def nI{M:V->V->V->Prop}(h:ō a i=À r)(l:∀xs i k,place xs.length i=À k->xs[k]?=À r->M (.Ñ xs) (.int i) r)(u:∀xs i k,place xs.length i=À k->xs[k]?=À r->M (.ñ xs) (.int i) r)
  (s:∀b i k c,place b.length i=À k->b.cps[k]?=À c->M (.str b) (.int i) (.str ⟨#[c]⟩)):M a i r:=
 Ĩ h (λh=>Ć Ğ Ú (M:=λa i=>M a i r) h λxs i h=>ð (x:=place xs.length i) h λk e h=>l xs i k e h) λh=>Ĩ h (λh=>Ć fL Ú (M:=λa i=>M a i r) h λxs i h=>ð (x:=place xs.length i) h λk e h=>u xs i k e h)
  λh=>Ć į Ú (M:=λa i=>M a i r) h λb i h=>ð (x:=place b.length i) h λk e h=>uD (M:=λr=>M (.str b) (.int i) r) h λc f=>s b i k c e f
def BH{M:V->Prop}(h:dD v=À n)(l:∀xs:Ã V,xs.length<=1000000->n=xs.length->M (.Ñ xs))(s:∀x:Str,x.length<=1000000->n=x.length->M (.str x)):M v:=by
 cases v with
 |Ñ xs=>exact Ϲ h λa h=>l xs a (à h).symm
 |str x=>exact Ϲ h λa h=>s x a (à h).symm
 |_=>exact ÿ h
def ot{f hi:V}{M:V->V->Á->Prop}(h:au a f hi=À (r,m))(s:∀c l u,ϳ f=À l->ϳ hi=À u->(ľ c l u).length<=1000000->M (.str c) (.str<|ľ c l u) 0)
  (t:∀xs b,ϳ f=À Ä->ϳ hi=À (À b)->0<=b/\xs.length<=1000000->M (.Ñ xs) (.Ñ<|xs.take b.toNat) 1) (d:∀xs b,ϳ f=À (À b)->ϳ hi=À Ä->0<=b/\xs.length<=1000000->M (.Ñ xs) (.Ñ<|xs.drop b.toNat) 1):M a r m:=
 ð (
    x:=ϳ f) h λl e h=>ð (x:=ϳ hi) h λu j h=>by
  cases a with
  |str c=>exact Ϲ h λg h=>â h<|s c l u e j g
  |Ñ xs=>
   induction l with
   |none=>induction u with
    |none=>exact ÿ h
    |some b=>exact Ϲ h λg h=>â h<|t xs b e j g
   |some b=>induction u with
    |none=>exact Ϲ h λg h=>â h<|d xs b e j g
    |some _=>exact ÿ h
  |_=>exact ÿ h
def Mx{M:Ã V->V×V->Prop}(h:l2 l=À x)(k:∀a b,M [a,b] (a,b)):M l x:=by
 cases l with
 |nil=>exact ÿ h
 |cons a l=>cases l with
  |nil=>exact ÿ h
  |cons b l=>cases l with
   |nil=>exact à h▸k a b
   |cons=>exact ÿ h
def Fb{M:Ã V->V×V×V->Prop}(h:l3 l=À x)(k:∀a b c,M [a,b,c] (a,b,c)):M l x:=by
 cases l with
 |nil=>exact ÿ h
 |cons a l=>cases l with
  |nil=>exact ÿ h
  |cons b l=>cases l with
   |nil=>exact ÿ h
   |cons c l=>cases l with
    |nil=>exact à h▸k a b c
    |cons=>exact ÿ h
def q9{M:V->St->Prop}(h:(kJ.two i j).ö v σ=À ø)(k:∀a b,M (.ñ [a,b])<|(σ.ö i a 0).ö j b 0):M v ø:=
 uD (o:=(Cy v).bind l2) h λx h=>ð (x:=Cy v) h λl e h=>fL e▸Mx (M:=λl x=>M (.ñ l)<|(σ.ö i x.1 0).ö j x.2 0) h k
def qP{M:V->St->Prop}(h:(kJ.three i j l).ö v σ=À ø)(k:∀a b c,M (.ñ [a,b,c])<|((σ.ö i a 0).ö j b 0).ö l c 0):M v ø:=
 uD (o:=(Cy v).bind l3) h λx h=>ð (x:=Cy v) h λf e h=>fL e▸Fb (M:=λf x=>M (.ñ f)<|((σ.ö i x.1 0).ö j x.2.1 0).ö l x.2.2 0) h k
def Ŀ{C:Type}{j:V->Ï C}{f:V->V->Ï C}{g:V->V->V->Ï C}{M:Ã V->Prop}{r:C}(h:gq j f g xs=À r)(o:∀a,j a=À r->M [a])(k:∀a b,f a b=À r->M [a,b])(m:∀a b c,g a b c=À r->M [a,b,c]):M xs:=by
 cases xs with
 |nil=>exact ÿ h
 |cons a xs=>cases xs with
  |nil=>exact o a h
  |cons b xs=>cases xs with
   |nil=>exact k a b h
   |cons c xs=>cases xs with
    |nil=>exact m a b c h
    |cons _ _=>exact ÿ h
def AI{A C:Type}{p:V->Ï A}{f:A->Ï C}{g:Ï C}{r:C}{G:Prop}(h:IU p f a g=À r)(k:∀x,p a=À x->f x=À r->G)(l:g=À r->G):G:=by
 unfold IU at h;cases e:p a with
 |none=>rw[e] at h;exact l h
 |some x=>rw[e] at h;exact k x e h
def bJ{A C:Type}{p:V->Ï A}{c:A->V}(b:∀{a x},p a=À x->a=c x){f:A->Ï C}{M:Ã V->Prop}{r:C}(h:uE p f xs=À r)(k:∀x,f x=À r->M [c x]):M xs:=
 Ŀ h (λa h=>ð (x:=p a) h λx e h=>b e▸k x h) (λ_ _ h=>ÿ h) λ_ _ _ h=>ÿ h
def iT{A B C:Type}{p:V->Ï A}{q:V->Ï B}{c:A->V}{d:B->V}(g:∀{a x},p a=À x->a=c x)(hq:∀{a x},q a=À x->a=d x){f:A->B->Ï C}{M:Ã V->Prop}{r:C}
  (h:HK p q f xs=À r) (k:∀x y,f x y=À r->M [c x,d y]):M xs:=
 Ŀ h (λ_ h=>ÿ h) (λa b h=>Ć g hq (M:=λa b=>M [a,b]) h k) λ_ _ _ h=>ÿ h
def iP{A B D C:Type}{p:V->Ï A}{q:V->Ï B}{s:V->Ï D}{c:A->V}{d:B->V}{g:D->V}(o:∀{a x},p a=À x->a=c x)(hq:∀{a x},q a=À x->a=d x)(m:∀{a x},s a=À x->a=g x)
  {f:A->B->D->Ï C} {M:V->V->V->Prop} {r:C} (h:NO p q s f a b w=À r) (k:∀x y z,f x y z=À r->M (c x) (d y) (g z)):M a b w:=
 ð (r:=r) (x:=p a) h λx e h=>ð (r:=r) (x:=q b) h λy t h=>ð (r:=r) (x:=s w) (f:=λz=>f x y z) h λz j h=>o e▸hq t▸m j▸k x y z h
def Li{M:Ã Ë->Prop}(h:ě B (a::as) vals)(k:∀x xs,VR B a x->ě B as xs->M (x::xs)):M vals:=
 h.ind (M:=λl v=>l=a::as->M v) (λe=>nomatch e) (λp q _ e=>k _ _ ((xP e).1▸p)<|(xP e).2▸q) rfl
def RO{M:Ã Ë->Prop}(h:ě B [] vals)(k:M []):M vals:=
 h.ind (M:=λl v=>l=[]->M v) (λ_=>k) (λ_ _ _ e=>nomatch e) rfl
def BN{M:Ã Ë->Prop}(h:ě B [a] vals)(k:∀x,VR B a x->M [x]):M vals:=
 Li h λx xs h t=>RO (M:=λl=>M (x::l)) t<|k x h
def Nv{M:Ã Ë->Prop}(h:ě B [a,b] vals)(k:∀x y,VR B a x->VR B b y->M [x,y]):M vals:=
 Li h λx xs h t=>BN (M:=λl=>M (x::l)) t λy c=>k x y h c
def Le{M:Ã Ë->Prop}(h:ě B [a,b,c] vals)(k:∀x y z,VR B a x->VR B b y->VR B c z->M [x,y,z]):M vals:=
 Li h λx xs h t=>Nv (M:=λl=>M (x::l)) t λy z f hz=>k x y z h f hz
structure RU(M:V->V->V->Á->Prop)(f:ā->ā->ā):Prop where
 ff:∀x y,M (.á x) (.á y) (.á<|f x y) 0
 fi:∀x y,dX y=true->M (.á x) (.int y) (.á<|f x<|jR y) 0
 jf:∀x y,dX x=true->M (.int x) (.á y) (.á<|f (jR x) y) 0
def oG{M:V->V->V->Á->Prop}(h:Ju f a b=À (r,m))(k:RU M f):M a b r m:=
 Ĩ h (λh=>dT (M:=λa b=>M a b r m) h λx y h=>â h<|k.ff x y) λh=>Ĩ h
  (λh=>Ć Ũ Ú (M:=λa b=>M a b r m) h λx y h=>Ϲ h λc h=>â h<|k.fi x y c) λh=>Ć Ú Ũ (M:=λa b=>M a b r m) h λx y h=>Ϲ h λc h=>â h<|k.jf x y c
section
variable{M:V->V->V->Á->Prop}
def zO(h:ü .Add a b=À (r,m))(f:∀x y,M (.int x) (.int y) (.int<|x+y) 0)(k:RU M C4)
  (s:∀x y:Str,x.length+y.length<=1000000->M (.str x) (.str y) (.str<|x++y) 0) (g:∀x y:Ã V,x.length+y.length<=1000000->M (.Ñ x) (.Ñ y) (.Ñ<|x++y) 1):M a b r m:=
 Ĩ h (λh=>Ć Ú Ú (M:=λa b=>M a b r m) h λx y h=>â h<|f x y) λh=>Ĩ h (λh=>Ć į į (M:=λa b=>M a b r m) h λx y h=>Ϲ h λc h=>â h<|s x y c) λh=>Ĩ h
  (λh=>Ć Ğ Ğ (M:=λa b=>M a b r m) h λx y h=>Ϲ h λc h=>â h<|g x y c) λh=>oG h k
def z7(h:ü .Sub a b=À (r,m))(c:∀x y,M (.int x) (.int y) (.int<|x-y) 0)(k:RU M l4):M a b r m:=
 Ĩ h (λh=>Ć Ú Ú (M:=λa b=>M a b r m) h λx y h=>â h<|c x y) λh=>oG h k
def Ah(h:ü .Mult a b=À (r,m))(f:∀x y,(Ĕ x&&Ĕ y)=true->M (.int x) (.int y) (.int<|x*y) 0)(k:RU M wL)
  (g:∀(x:Ã V)(y:Â),0<=y/\y<=1000/\x.length<=1000->M (.Ñ x) (.int y) (.Ñ<|(replicate y.toNat x).flatten) 1):M a b r m:=
 Ĩ h (λh=>Ć Ú Ú (M:=λa b=>M a b r m) h λx y h=>Ϲ h λc h=>â h<|f x y c) λh=>Ĩ h
  (λh=>Ć Ğ Ú (M:=λa b=>M a b r m) h λx y h=>Ϲ h λc h=>â h<|g x y c) λh=>oG h k
end
def aM(h:aU c o=À xs):o=À (.Ñ xs,c):=ð (x:=o) h λx e h=>Ϲ h λa h=>Å e<|Đ a<|Đ (Ğ h) rfl
def u1(h:Cf o=À l):o=À (.int l,0):=ð (x:=o) h λx e h=>Ϲ h λc h=>Å e<|Đ c<|Đ (Ú h) rfl
def D2{o:Ï V}(h:o.bind ko=À ys):o=À (.Ñ ys):=ð (x:=o) h λx e h=>Å e<|Å (Ğ h) rfl
def AG{M:sA->V->V->V->Prop}(h:rj op a b=À r)(c:∀x y,M .Add (.int x) (.int y)<|.int<|x+y)(s:∀x y,M .Sub (.int x) (.int y)<|.int<|x-y):M op a b r:=by
 induction op with
 |Add=>exact Ŝ (M:=λa b=>M .Add a b r) h λx y h=>à h▸c x y
 |Sub=>exact Ŝ (M:=λa b=>M .Sub a b r) h λx y h=>à h▸s x y
 |_=>exact ÿ h
section
variable{M:V->Á->St->Prop}{N:Ã V->St->Prop}{O:mj->St->Prop}{G:Prop}{σ ø:St}
def BM(h:ß (.c w) σ=À (v,m,ø))(k:M w 0 σ):M v m ø:=Ϝ h k
def ud(h:ß (.Æ i) σ=À (v,m,ø))(k:∀x,σ.get i=À x->M x.1 0 (σ.é i)):M v m ø:=uD (o:=σ.get i) (M:=λd=>M d.1 d.2.1 d.2.2) h k
def xH(h:ß (.Õ op a b) σ=À (v,m,ø))(k:∀x n Ø y l c r m,ß a σ=À (x,n,Ø)->ß b Ø=À (y,l,c)->ü op x y=À (r,m)->M r m c):M v m ø:=
 Ŧ (x:=ß a σ) h λx n Ø j h=>Ŧ h λy l c g h=>Ŵ h λr m f h=>Ϝ h<|k x n Ø y l c r m j g f
def As(h:ß (.un op a) σ=À (v,m,ø))(k:∀x n Ø r,ß a σ=À (x,n,Ø)->HM op x=À r->M r 0 Ø):M v m ø:=
 Ŧ (x:=ß a σ) h λx n Ø c h=>ð h λr b h=>Ϝ h<|k x n Ø r c b
def rI(h:ß (.cmp op a b) σ=À (v,m,ø))(k:∀x n Ø y l c r,ß a σ=À (x,n,Ø)->ß b Ø=À (y,l,c)->Ĥ op x y=À r->M (.bool r) 0 c):M v m ø:=
 Ŧ (x:=ß a σ) h λx n Ø j h=>Ŧ h λy l c g h=>ð h λr f h=>Ϝ h<|k x n Ø y l c r j g f
def Ay(h:ß (.uO o1 o2 a b c) σ=À (v,m,ø))(k:∀x n Ø y l f,ß a σ=À (x,n,Ø)->ß b Ø=À (y,l,f)->
  (∀z i g r,Ĥ o1 x y=À true->ß c f=À (z,i,g)->Ĥ o2 y z=À r->M (.bool r) 0 g)/\(Ĥ o1 x y=À false->M (.bool false) 0 f)):M v m ø:=
 Ŧ (x:=ß a σ) h λx n Ø o h=>Ŧ h λy l f p h=>ð h λr j h=>by
  cases r
  .exact Ϝ h<|(k x n Ø y l f o p).2 j
  .exact Ŧ h λz i g s h=>ð h λr q h=>Ϝ h<|(k x n Ø y l f o p).1 z i g r j s q
def xW(h:ß (.cK a b) σ=À (v,m,ø))(k:∀x n Ø,ß a σ=À (x,n,Ø)->(∀y l c,Ó x=À true->ß b Ø=À (y,l,c)->M y 0 c)/\(Ó x=À false->M x 0 Ø)):M v m ø:=
 Ŧ (x:=ß a σ) h λx n Ø g h=>ð h λr f h=>by
  cases r
  .exact Ϝ h<|(k x n Ø g).2 f
  .exact Ŧ h λy l c j h=>Ϝ h<|(k x n Ø g).1 y l c f j
def AU(h:ß (.iQ a b) σ=À (v,m,ø))(k:∀x n Ø,ß a σ=À (x,n,Ø)->(∀y l c,Ó x=À false->ß b Ø=À (y,l,c)->M y 0 c)/\(Ó x=À true->M x 0 Ø)):M v m ø:=
 Ŧ (x:=ß a σ) h λx n Ø g h=>ð h λr f h=>by
  cases r
  .exact Ŧ h λy l c j h=>Ϝ h<|(k x n Ø g).1 y l c f j
  .exact Ϝ h<|(k x n Ø g).2 f
def Gf(h:ß (.ite t a b) σ=À (v,m,ø))(k:∀x n Ø,ß t σ=À (x,n,Ø)->(Ó x=À true->ß a Ø=À (v,m,ø)->G)/\(Ó x=À false->ß b Ø=À (v,m,ø)->G)):G:=
 Ŧ (x:=ß t σ) h λx n Ø f h=>ð h λr c h=>by
  cases r
  .exact(k x n Ø f).2 c h
  .exact(k x n Ø f).1 c h
def ED(h:ß (.ñ es) σ=À (v,m,ø))(k:∀xs Ø,ď es σ=À (xs,Ø)->M (.ñ xs) 0 Ø):M v m ø:=
 Ŵ (x:=ď es σ) h λxs Ø a h=>Ϝ h<|k xs Ø a
def G8(h:ß (.Ñ es) σ=À (v,m,ø))(k:∀xs Ø,ď es σ=À (xs,Ø)->M (.Ñ xs) 1 Ø):M v m ø:=
 Ŵ (x:=ď es σ) h λxs Ø a h=>Ϝ h<|k xs Ø a
def F2(h:ß (.sub a b) σ=À (v,m,ø))(k:∀x n Ø y l c r,ß a σ=À (x,n,Ø)->ß b Ø=À (y,l,c)->ō x y=À r->M r 0 c):M v m ø:=
 Ŧ (x:=ß a σ) h λx n Ø j h=>Ŧ h λy l c g h=>ð h λr f h=>Ϝ h<|k x n Ø y l c r j g f
def sd(h:ß (.ä i e) σ=À (v,m,ø))(k:∀w y l Ø x n r,σ.get i=À w->ß e σ=À (y,l,Ø)->Ø.get i=À (x,n)->n≠2->ō x y=À r->M r 0 Ø):M v m ø:=
 ð (x:=σ.get i) h λw g h=>Ŧ h λy l Ø c h=>Ŵ h λx n f h=>WO h λa h=>ð h λr b h=>Ϝ h<|k w y l Ø x n r g c f a b
def xa(h:ß (.bp a b c) σ=À (v,m,ø))(k:∀x n Ø y l g z i f r m,ß a σ=À (x,n,Ø)->ß b Ø=À (y,l,g)->ß c g=À (z,i,f)->au x y z=À (r,m)->M r m f):M v m ø:=
 Ŧ (x:=ß a σ) h λx n Ø o h=>Ŧ h λy l g q h=>Ŧ h λz i f j h=>Ŵ h λr m p h=>Ϝ h<|k x n Ø y l g z i f r m o q j p
def kq(h:ß (.fn f es) σ=À (v,m,ø))(k:∀xs Ø r m,ď es σ=À (xs,Ø)->f xs=À (r,m)->M r m Ø):M v m ø:=
 Ŵ (x:=ď es σ) h λxs Ø b h=>Ŵ h λr m a h=>Ϝ h<|k xs Ø r m b a
def sG(h:ß (.č i) σ=À (v,m,ø))(k:∀x l n,σ.get i=À (x,l)->dD x=À n->M (.int n) 0 σ):M v m ø:=
 Ŵ (x:=σ.get i) h λx l b h=>ð h λn a h=>Ϝ h<|k x l n b a
def wa(h:ß (.gJ i e j) σ=À (v,m,ø))(k:∀w q n Ø xs l p a r x,σ.get i=À w->ß e σ=À (.int q,n,Ø)->Ø.get i=À (.Ñ xs,2)->Ø.get j=À (.int l,0)->Č xs.length q=À p->xs[p]?=À (.Ñ a)->Č a.length l=À r->a[r]?=À x->M x 0 Ø):M v m ø:=
 ð (x:=σ.get i) h λw A h=>Ŧ h λy n Ø g h=>ð h λq t h=>ð h λxs f h=>ð h λl s h=>ð h λp o h=>ð h λa b h=>ð h λr c h=>ð h λx C h=>
  Ϝ h (k w q n Ø xs l p a r x A (Ú t▸g) (aM f) (u1 s) o (D2 b) c C)
def FY(h:ß (.pop i e) σ=À (v,m,ø))(k:∀a q n Ø xs p x,σ.get i=À (.Ñ a,1)->ß e σ=À (.int q,n,Ø)->Ø.get i=À (.Ñ xs,1)->Č xs.length q=À p->xs[p]?=À x->M x 0 (Ø.ö i (.Ñ<|xs.eraseIdx p) 1)):M v m ø:=
 ð (x:=aU 1<|σ.get i) h λa o h=>Ŧ h λy n Ø c h=>ð h λq j h=>ð h λxs b h=>ð h λp g h=>ð h λx f h=>
  Ϝ h (k a q n Ø xs p x (aM o) (Ú j▸c) (aM b) g f)
def z3(h:ß (.comp Ż ġ f ϝ Ä) σ=À (v,m,ø))(k:∀xs Ø items r a,ď ϝ σ=À (xs,Ø)->f xs=À items->ą ġ Ä (λσ=>(ß Ż σ).map λx=>(x.1,x.2.2)) items (Ø.aaa ġ.slots)=À (r,a)->M (.Ñ r) 1 a):M v m ø:=
 Ŵ (x:=ď ϝ σ) h λxs Ø g h=>ð (x:=f xs) h λitems c h=>Ŵ (x:=ą ġ Ä (λσ=>(ß Ż σ).map λx=>(x.1,x.2.2)) items<|Ø.aaa ġ.slots) h λr a b h=>Ϝ h<|k xs Ø items r a g c b
def qM(h:ß (.comp Ż ġ f ϝ<|À c) σ=À (v,m,ø))(k:∀xs Ø items r a,ď ϝ σ=À (xs,Ø)->f xs=À items->ą ġ (À λσ=>(ß c σ).bind λx=>(Ó x.1).map λb=>(b,x.2.2))
   (λσ=>(ß Ż σ).map λx=>(x.1,x.2.2)) items (Ø.aaa ġ.slots)=À (r,a)->M (.Ñ r) 1 a):M v m ø:=
 Ŵ (x:=ď ϝ σ) h λxs Ø o h=>ð (x:=f xs) h λitems j h=>Ŵ (x:=ą ġ (À λσ=>(ß c σ).bind λx=>(Ó x.1).map λb=>(b,x.2.2)) (λσ=>(ß Ż σ).map λx=>(x.1,x.2.2)) items<|Ø.aaa ġ.slots) h λr a g h=>
  Ϝ h (k xs Ø items r a o j g)
def vJ(h:ß (.eZ Ż t1 f1 kp t2 f2 dG) σ=À (v,m,ø))(k:∀xs Ø items r a,ď kp σ=À (xs,Ø)->f1 xs=À items->ab t1 (λσ=>(ď dG σ).bind λx=>(f2 x.1).map λl=>(l,x.2)) t2
  (λσ=>(ß Ż σ).map λx=>(x.1,x.2.2)) items (Ø.aaa<|t1.slots++t2.slots)=À (r,a)->r.length<=1000000->M (.Ñ r) 1 a):M v m ø:=
 Ŵ (x:=ď kp σ) h λxs Ø f h=>ð h λitems g h=>Ŵ h λr a b h=>Ϲ h λc h=>Ϝ h<|k xs Ø items r a f g b c
def fy(h:ď [] σ=À (vs,ø))(k:N [] σ):N vs ø:=â h k
def aV(h:ď (e::es) σ=À (vs,ø))(k:∀x n Ø xs a,ß e σ=À (x,n,Ø)->ď es Ø=À (xs,a)->N (x::xs) a):N vs ø:=
 Ŧ (x:=ß e σ) h λx n Ø c h=>Ŵ h λxs a b h=>â h<|k x n Ø xs a c b
def zL(h:ď [e] σ=À (vs,ø)):∃x m,ß e σ=À (x,m,ø)/\vs=[x]:=aV (N:=λl τ=>∃x m,ß e σ=À (x,m,τ)/\l=[x]) h λx n Ø _ _ g h=>fy (N:=λl τ=>∃y m,ß e σ=À (y,m,τ)/\x::l=[y]) h ⟨x,n,g,rfl⟩
def FH(h:ċ F [] σ=À (o,ø))(k:O .next σ):O o ø:=â h k
def rJ(h:cX F (.î i e) σ=À (o,ø))(k:∀x m Ø,ß e σ=À (x,m,Ø)->O .next (Ø.ö i x m)):O o ø:=
 Ŧ (x:=ß e σ) h λx m Ø a h=>â h<|k x m Ø a
def Al(h:cX F (.jJ i j e) σ=À (o,ø))(k:∀x m Ø,ß e σ=À (x,m,Ø)->O .next ((Ø.ö i x 0).ö j x 0)):O o ø:=
 Ŧ (x:=ß e σ) h λx m Ø a h=>â h<|k x m Ø a
def Ka(h:cX F (.Ŗ t a b) σ=À (o,ø))(k:∀x n Ø,ß t σ=À (x,n,Ø)->(Ó x=À true->ċ F a Ø=À (o,ø)->G)/\(Ó x=À false->ċ F b Ø=À (o,ø)->G)):G:=
 Ŧ (x:=ß t σ) h λx n Ø f h=>ð h λr c h=>by
  cases r
  .exact(k x n Ø f).2 c h
  .exact(k x n Ø f).1 c h
def Gr(h:cX F (.Ū ġ f ϝ b) σ=À (o,ø))(k:∀xs Ø items,ď ϝ σ=À (xs,Ø)->f xs=À items->bA ġ (λσ=>ċ F b σ) items Ø=À (o,ø)->G):G:=
 Ŵ (x:=ď ϝ σ) h λxs Ø c h=>ð h λitems a h=>k xs Ø items c a h
def Nm(h:cX F (.mO is e) σ=À (o,ø))(k:∀xs m Ø a,ß e σ=À (.ñ xs,m,Ø)->putAll is xs Ø=À a->O .next a):O o ø:=
 Ŧ (x:=ß e σ) h λx m Ø f h=>ð h λxs c h=>uD (M:=λd=>O d.1 d.2) h λa b=>k xs m Ø a (fL c▸f) b
def IG(h:cX F (.qt is e) σ=À (o,ø))(k:∀xs m Ø a,ß e σ=À (.Ñ xs,m,Ø)->putAll is xs Ø=À a->O .next a):O o ø:=
 Ŧ (x:=ß e σ) h λx m Ø f h=>ð h λxs c h=>uD (M:=λd=>O d.1 d.2) h λa b=>k xs m Ø a (Ğ c▸f) b
def ym(h:cX F (.par is es) σ=À (o,ø))(k:∀xs Ø a,du es σ=À (xs,Ø)->ϋ is xs Ø=À a->O .next a):O o ø:=
 Ŵ (x:=du es σ) h λxs Ø c h=>uD (M:=λd=>O d.1 d.2) h λa b=>k xs Ø a c b
def Ez(h:cX F (.aug i op e) σ=À (o,ø))(k:∀x n y l Ø r,σ.get i=À (x,n)->ß e σ=À (y,l,Ø)->rj op x y=À r->O .next (Ø.ö i r 0)):O o ø:=
 Ŵ (x:=σ.get i) h λx n b h=>Ŧ h λy l Ø c h=>ð h λr a h=>â h<|k x n y l Ø r b c a
def FQ(h:cX F (.ö i e' e) σ=À (o,ø))(k:∀v n Ø w q l a xs p,ß e σ=À (v,n,Ø)->Ø.get i=À w->ß e' Ø=À (.int q,l,a)->a.get i=À (.Ñ xs,1)->Č xs.length q=À p->O .next (a.ö i (.Ñ<|xs.set p v) 1)):O o ø:=
 Ŧ (x:=ß e σ) h λv n Ø c h=>ð h λw m h=>Ŧ h λy l a j h=>ð h λq b h=>ð h λxs g h=>ð h λp f h=>â h<|k v n Ø w q l a xs p c m (Ú b▸j) (aM g) f
def IB(h:cX F (.put2 i e' j e) σ=À (o,ø))(k:∀v n Ø w q c a xs l p b r,ß e σ=À (v,n,Ø)->Ø.get i=À w->ß e' Ø=À (.int q,c,a)->a.get i=À (.Ñ xs,2)->a.get j=À (.int l,0)->Č xs.length q=À p->xs[p]?=À (.Ñ b)->
  Č b.length l=À r->O .next (a.ö i (.Ñ<|xs.set p<|.Ñ<|b.set r v) 2)):O o ø:=
 Ŧ (x:=ß e σ) h λv n Ø s h=>ð h λw D h=>Ŧ h λy c a C h=>ð h λq m h=>ð h λxs A h=>ð h λl t h=>ð h λp f h=>ð h λb g h=>ð h λr E h=>
  â h (k v n Ø w q c a xs l p b r s D (Ú m▸C) (aM A) (u1 t) f (D2 g) E)
def BS{M:St->Prop}(h:putAt i e v σ=À ø)(k:∀w q l Ø xs p,σ.get i=À w->ß e σ=À (.int q,l,Ø)->Ø.get i=À (.Ñ xs,1)->Č xs.length q=À p->M (Ø.ö i (.Ñ<|xs.set p v) 1)):M ø:=
 ð (x:=σ.get i) h λw g h=>Ŧ h λy l Ø b h=>ð h λq f h=>ð h λxs a h=>ð h λp c h=>à h▸k w q l Ø xs p g (Ú f▸b) (aM a) c
def H6(h:cX F (.mS i Ż ġ f ϝ) σ=À (o,ø))(k:∀xs Ø items r a,ď ϝ σ=À (xs,Ø)->f xs=À items->Ĉ ġ Ä (ji Ż) items (Ø.aaa ġ.slots)=À (r,a)->r.length<=1000000->O .next (a.ö i (.Ñ r) 2)):O o ø:=
 Ŵ (x:=ď ϝ σ) h λxs Ø g h=>ð h λitems j h=>Ŵ h λr a b h=>Ϲ h λc h=>â h<|k xs Ø items r a g j b c
def M0(h:cX F (.app i e) σ=À (o,ø))(k:∀a v m Ø xs,σ.get i=À (.Ñ a,1)->ß e σ=À (v,m,Ø)->Ø.get i=À (.Ñ xs,1)->xs.length<=1000000->O .next (Ø.ö i (.Ñ<|xs++[v]) 1)):O o ø:=
 ð (x:=aU 1<|σ.get i) h λa g h=>Ŧ h λv m Ø b h=>ð h λxs f h=>Ϲ h λc h=>â h<|k a v m Ø xs (aM g) b (aM f) c
def Mf(h:cX F (.rev i) σ=À (o,ø))(k:∀xs,σ.get i=À (.Ñ xs,1)->xs.length<=1000000->O .next (σ.ö i (.Ñ xs.reverse) 1)):O o ø:=
 ð (x:=aU 1<|σ.get i) h λxs a h=>Ϲ h λc h=>â h<|k xs (aM a) c
def A8{N:Ã (V×Á)->St->Prop}(h:du [] σ=À (vs,ø))(k:N [] σ):N vs ø:=â h k
def oH{N:Ã (V×Á)->St->Prop}(h:du (e::es) σ=À (vs,ø))(k:∀x n Ø xs a,ß e σ=À (x,n,Ø)->du es Ø=À (xs,a)->N ((x,n)::xs) a):N vs ø:=
 Ŧ (x:=ß e σ) h λx n Ø c h=>Ŵ h λxs a b h=>â h<|k x n Ø xs a c b
def za(h:cX F (.ret e) σ=À (o,ø))(k:∀x m Ø,ß e σ=À (x,m,Ø)->O (.ret x) Ø):O o ø:=
 Ŧ (x:=ß e σ) h λx m Ø a h=>â h<|k x m Ø a
end
def fb{x:Ï A}{f:A->Ï B}(h:x=À a)(k:f a=r):x>>=f=r:=Å h k
def lT{σ:St}(h:σ[i]?=À (À w)):σ.get i=À w:=by unfold St.get;exact Å h rfl
section
variable{σ τ ρ υ:St}{e a b c:PE}{v x y z r:V}{m k l F:Á}
def ļ:ß (.c v) σ=À (v,0,σ):=rfl
def Ç(h:σ[i]?=À (À (v,0))):ß (.Æ i) σ=À (v,0,σ):=by
 refine(?_:(σ.get i).map (λx=>(x.1,0,σ.é i))=_);unfold St.é;exact Å (lT h) rfl
def E0(h:σ[i]?=À (À (v,m)))(f:m≠0):ß (.Æ i) σ=À (v,0,σ.ö i v 0):=by
 refine(?_:(σ.get i).map (λx=>(x.1,0,σ.é i))=_);unfold St.é;exact Å (lT h)<|Ù (λx=>À (v,0,x))<|È f
def Û(g:ß a σ=À (x,k,τ))(h:ß b τ=À (y,l,ρ))(f:ü op x y=À (r,m)):ß (.Õ op a b) σ=À (r,m,ρ):=
 fb (x:=ß a σ) g (fb (x:=ß b τ) h<|fb (x:=ü op x y) f rfl)
def Rg(f:ß a σ=À (x,k,τ))(h:HM op x=À r):ß (.un op a) σ=À (r,0,τ):=fb (x:=ß a σ) f<|fb (x:=HM op x) h rfl
def Ă(g:ß a σ=À (x,k,τ))(h:ß b τ=À (y,l,ρ))(f:Ĥ op x y=À t):ß (.cmp op a b) σ=À (.bool t,0,ρ):=
 fb (x:=ß a σ) g (fb (x:=ß b τ) h<|fb (x:=Ĥ op x y) f rfl)
def Ls(f:ß a σ=À (x,k,τ))(o:ß b τ=À (y,l,ρ))(h:Ĥ o1 x y=À true)(j:ß c ρ=À (z,m,υ))(g:Ĥ o2 y z=À t):ß (.uO o1 o2 a b c) σ=À (.bool t,0,υ):=
 fb (x:=ß a σ) f (fb (x:=ß b τ) o<|fb (x:=Ĥ o1 x y) h<|fb (x:=ß c ρ) j<|fb (x:=Ĥ o2 y z) g rfl)
def Ba(g:ß a σ=À (x,k,τ))(h:Ó x=À true)(f:ß b τ=À (y,l,ρ)):ß (.cK a b) σ=À (y,0,ρ):=fb (x:=ß a σ) g<|fb (x:=Ó x) h<|fb (x:=ß b τ) f rfl
def Ak(f:ß a σ=À (x,k,τ))(h:Ó x=À false):ß (.cK a b) σ=À (x,0,τ):=fb (x:=ß a σ) f<|fb (x:=Ó x) h rfl
def C2(f:ß a σ=À (x,k,τ))(h:Ó x=À true):ß (.iQ a b) σ=À (x,0,τ):=fb (x:=ß a σ) f<|fb (x:=Ó x) h rfl
def DZ(g:ß a σ=À (x,k,τ))(h:Ó x=À false)(f:ß b τ=À (y,l,ρ)):ß (.iQ a b) σ=À (y,0,ρ):=fb (x:=ß a σ) g<|fb (x:=Ó x) h<|fb (x:=ß b τ) f rfl
def sF(g:ß c σ=À (x,k,τ))(h:Ó x=À true)(f:ß a τ=À (y,l,ρ)):ß (.ite c a b) σ=À (y,l,ρ):=fb (x:=ß c σ) g<|fb (x:=Ó x) h f
def AK(g:ß c σ=À (x,k,τ))(h:Ó x=À false)(f:ß b τ=À (y,l,ρ)):ß (.ite c a b) σ=À (y,l,ρ):=fb (x:=ß c σ) g<|fb (x:=Ó x) h f
def Ą:ď [] σ=À ([],σ):=rfl
def Ð(f:ß e σ=À (v,k,τ))(h:ď es τ=À (vs,ρ)):ď (e::es) σ=À (v::vs,ρ):=fb (x:=ß e σ) f<|fb (x:=ď es τ) h rfl
def AR:du [] σ=À ([],σ):=rfl
def pB(f:ß e σ=À (v,k,τ))(h:du es τ=À (vs,ρ)):du (e::es) σ=À ((v,k)::vs,ρ):=fb (x:=ß e σ) f<|fb (x:=du es τ) h rfl
def dj(h:ď es σ=À (vs,τ)):ß (.ñ es) σ=À (.ñ vs,0,τ):=fb (x:=ď es σ) h rfl
def Kt(h:ď es σ=À (vs,τ)):ß (.Ñ es) σ=À (.Ñ vs,1,τ):=fb (x:=ď es σ) h rfl
def dJ(h:ď es σ=À (vs,τ))(g:f vs=À (r,m)):ß (.fn f es) σ=À (r,m,τ):=fb (x:=ď es σ) h<|fb (x:=f vs) g rfl
def PQ(g:ß a σ=À (x,k,τ))(h:ß b τ=À (y,l,ρ))(f:ō x y=À r):ß (.sub a b) σ=À (r,0,ρ):=fb (x:=ß a σ) g<|fb (x:=ß b τ) h<|fb (x:=ō x y) f rfl
def nO(j:σ[i]?=À (À w))(f:ß e σ=À (y,l,τ))(g:τ[i]?=À (À (x,m)))(o:m≠2)(h:ō x y=À r):ß (.ä i e) σ=À (r,0,τ):=
 fb (x:=σ.get i) (lT j) (fb (x:=ß e σ) f<|fb (x:=τ.get i) (lT g)<|(È o).trans<|fb (x:=ō x y) h rfl)
def KI(f:ß a σ=À (x,k,τ))(h:ß b τ=À (u,k1,ρ))(j:ß c ρ=À (w,k2,υ))(g:au x u w=À (p,m)):ß (.bp a b c) σ=À (p,m,υ):=
 fb (x:=ß a σ) f (fb (x:=ß b τ) h<|fb (x:=ß c ρ) j<|fb (x:=au x u w) g rfl)
def xN(h:σ[i]?=À (À (v,m)))(f:dD v=À n):ß (.č i) σ=À (.int n,0,σ):=fb (x:=σ.get i) (lT h)<|fb (x:=dD v) f rfl
def vX{o:Ï (V×Á)}(h:o=À (.Ñ xs,k)):aU k o=À xs:=Å h<|ť rfl
def Kh{o:Ï (V×Á)}(h:o=À (.int i,0)):Cf o=À i:=Å h rfl
def OS(o:σ.get i=À (.Ñ xs,1))(f:ß e σ=À (.int q,l,τ))(j:τ.get i=À (.Ñ ys,1))(h:Č ys.length q=À p)(g:ys[p]?=À v):ß (.pop i e) σ=À (v,0,τ.ö i (.Ñ<|ys.eraseIdx p) 1):=
 fb (x:=aU 1<|σ.get i) (vX o) (fb (x:=ß e σ) f<|fb (x:=ϐ<|.int q) rfl<|fb (x:=aU 1<|τ.get i) (vX j)<|fb (x:=Č ys.length q) h<|fb (x:=ys[p]?) g rfl)
def H3(D:σ.get i=À w)(o:ß e σ=À (.int q,l,τ))(C:τ.get i=À (.Ñ xs,2))(g:τ.get j=À (.int t,0))(B:Č xs.length q=À p)(A:xs[p]?=À (.Ñ ys))(h:Č ys.length t=À s)(f:ys[s]?=À v):ß (.gJ i e j) σ=À (v,0,τ):=
 fb (x:=σ.get i) D (fb (x:=ß e σ) o<|fb (x:=ϐ<|.int q) rfl<|fb (x:=aU 2<|τ.get i) (vX C)<|fb (x:=Cf<|τ.get j) (Kh g)<|fb (x:=Č xs.length q) B<|fb (x:=(xs[p]?).bind ko) (Å A rfl)<|fb (x:=Č ys.length t) h<|fb (x:=ys[s]?) f rfl)
def ē:ċ F [] σ=À (.next,σ):=rfl
def eh(f:cX F s σ=À (.next,τ))(h:ċ F ss τ=R):ċ F (s::ss) σ=R:=fb (x:=cX F s σ) f h
def ra(h:cX F s σ=À (.ret v,τ)):ċ F (s::ss) σ=À (.ret v,τ):=fb (x:=cX F s σ) h rfl
def D8(h:ß e σ=À (v,m,τ)):cX F (.î i e) σ=À (.next,τ.ö i v m):=fb (x:=ß e σ) h rfl
def aa(f:ß e σ=À (v,m,τ))(h:ċ F ss (τ.ö i v m)=R):ċ F (.î i e::ss) σ=R:=eh (D8 f) h
def KV(f:du es σ=À (vs,τ))(h:ϋ is vs τ=À ρ):cX F (.par is es) σ=À (.next,ρ):=fb (x:=du es σ) f<|(Ù (f6 _) h).trans rfl
def Ky(f:ß e σ=À (.ñ vs,m,τ))(h:putAll is vs τ=À ρ):cX F (.mO is e) σ=À (.next,ρ):=fb (x:=ß e σ) f<|(Ù (f6 _) h).trans rfl
def Mc(f:ß e σ=À (.Ñ vs,m,τ))(h:putAll is vs τ=À ρ):cX F (.qt is e) σ=À (.next,ρ):=fb (x:=ß e σ) f<|(Ù (f6 _) h).trans rfl
def G3(f:σ.get i=À (x,k))(g:ß e σ=À (y,l,τ))(h:rj op x y=À r):cX F (.aug i op e) σ=À (.next,τ.ö i r 0):=fb (x:=σ.get i) f<|fb (x:=ß e σ) g<|fb (x:=rj op x y) h rfl
def PM(f:σ.get i=À (.Ñ xs,1))(j:ß e σ=À (v,m,τ))(h:τ.get i=À (.Ñ ys,1))(g:ys.length<=1000000):cX F (.app i e) σ=À (.next,τ.ö i (.Ñ<|ys++[v]) 1):=
 fb (x:=aU 1<|σ.get i) (vX f) (fb (x:=ß e σ) j<|fb (x:=aU 1<|τ.get i) (vX h)<|ť g)
def OR(f:σ.get i=À (.Ñ xs,1))(h:xs.length<=1000000):cX F (.rev i) σ=À (.next,σ.ö i (.Ñ xs.reverse) 1):=fb (x:=aU 1<|σ.get i) (vX f)<|ť h
def MO(o:ß e σ=À (v,m,τ))(D:τ.get i=À w)(C:ß a τ=À (.int q,l,ρ))(g:ρ.get i=À (.Ñ xs,2))(B:ρ.get j=À (.int t,0))(A:Č xs.length q=À p)(h:xs[p]?=À (.Ñ ys))(f:Č ys.length t=À s):
  cX F (.put2 i a j e) σ=À (.next,ρ.ö i (.Ñ<|xs.set p<|.Ñ<|ys.set s v) 2):=
 fb (x:=ß e σ) o (fb (x:=τ.get i) D<|fb (x:=ß a τ) C<|fb (x:=ϐ<|.int q) rfl<|fb (x:=aU 2<|ρ.get i) (vX g)<|fb (x:=Cf<|ρ.get j) (Kh B)<|fb (x:=Č xs.length q) A<|fb (x:=(xs[p]?).bind ko) (Å h rfl)<|fb (x:=Č ys.length t) f rfl)
def Kr(g:ß e σ=À (.ñ vs,m,τ))(h:putAll is vs τ=À ρ)(f:ċ F ss ρ=R):ċ F (.mO is e::ss) σ=R:=
 eh (Ky g h) f
def mK(h:ß e σ=À (v,m,τ)):ċ F (.ret e::ss) σ=À (.ret v,τ):=ra<|fb (x:=ß e σ) h rfl
def oW(g:ß e σ=À (v,m,τ))(h:Ó v=À true)(f:ċ F p τ=R):cX F (.Ŗ e p q) σ=R:=fb (x:=ß e σ) g<|fb (x:=Ó v) h f
def uY(g:ß e σ=À (v,m,τ))(h:Ó v=À false)(f:ċ F q τ=R):cX F (.Ŗ e p q) σ=R:=fb (x:=ß e σ) g<|fb (x:=Ó v) h f
def yj(f:ß e σ=À (v,m,τ))(h:Ó v=À true)(j:ċ F p τ=À (.next,ρ))(g:ċ F ss ρ=R):ċ F (.Ŗ e p q::ss) σ=R:=eh (oW f h j) g
def pG(f:ß e σ=À (v,m,τ))(h:Ó v=À false)(j:ċ F q τ=À (.next,ρ))(g:ċ F ss ρ=R):ċ F (.Ŗ e p q::ss) σ=R:=eh (uY f h j) g
def v7(g:ß e σ=À (v,m,τ))(h:Ó v=À true)(f:ċ F p τ=À (.ret r,ρ)):ċ F (.Ŗ e p q::ss) σ=À (.ret r,ρ):=ra<|oW g h f
def KQ(g:ß e σ=À (v,m,τ))(o:τ[i]?=À (À w))(j:ß a τ=À (.int q,l,ρ))(h:ρ[i]?=À (À (.Ñ xs,1)))(f:Č xs.length q=À p):cX F (.ö i a e) σ=À (.next,ρ.ö i (.Ñ<|xs.set p v) 1):=
 fb (x:=ß e σ) g (fb (x:=τ.get i) (lT o)<|fb (x:=ß a τ) j<|fb (x:=ϐ<|.int q) rfl<|fb (x:=aU 1<|ρ.get i) (Å (lT h) rfl)<|fb (x:=Č xs.length q) f rfl)
def aac(j:ď ϝ σ=À (vs,τ))(h:f vs=À items)(g:bA ġ (λσ=>ċ F p σ) items τ=R):cX F (.Ū ġ f ϝ p) σ=R:=fb (x:=ď ϝ σ) j<|fb (x:=f vs) h g
def kH(f:args.length=ar)(h:ċ F body ((args.map λv=>À (v,0))++replicate (n-args.length) Ä)=À (.ret v,τ)):ė F n ar body args=À (v,0):=by
 unfold ė;exact Å (ť f)<|Å h rfl
end
section
variable{X:Cx}{k:Á}{P:Ĳ->Prop}{B B':PB}{env:ey}{δ:Str->Ï Á}{wr:Str->Ò}{σ ø Rq:St}{α:Á->Ã Ĳ}{v:V}{m:Á}{A:q6}{s:ŕ}
def dt(K:Ok X.T P B env δ wr σ α s.heap)(hx:δ x=À i)(hi:σ.get i=À (v,m)):∀a∈α i,∃o,s.heap.get? a=À o:=λa h=>by
 refine K.Æ x i v m hx hi λu _ c _=>?_;refine ì (c.lists a h) ?_;rintro _ ⟨o,b,_⟩ _;exact⟨o,b⟩
def Op.use(H:Op X A B s t v m)(K:Ok X.T P B env δ wr σ α s.heap)
  (q:∀val s' B' as,Ķ env P s s' B B'->Ok X.T P B' env δ wr σ α s'.heap->ĭ s'.heap B' v m val as->(∀a∈as,P a)->gB δ σ α as->Q val s'):
  wq X A t Q E s:=
 H Q E λval j tk B' as x O fr=>q val _ B' as (x.kB K.hi) (K.ext x) O (λa h=>K.hi a<|fr a h) λy i f hi a h g=>by
  refine å (İ.1 hi) λw c=>?_;refine å (dt K f (v:=w.1) (m:=w.2) c a g) λo b=>?_;rw[fr a h] at b;exact ÿ b
def Op.flat(hB:ŀ B s.heap.get?)(h:∀Q E:Ë->ŕ->Prop,(∀val tk,VR B v val->Q val {s with toks:=tk})->wq X A t Q E s):Op X A B s t v 0:=
 λQ E q=>h Q E λval tk a=>q val s.heap tk B [] (E4 hB) (.z a) λ_ h=>ϭ h
def eY(h:dX i=true):¬fI (jR i)=true:=by
 unfold dX at h;simpa using h
def cJ(h:x.natAbs.log2<n):aA x<=n:=by
 unfold aA;split;exact(A1 240);exact(A2 8061456406) h
def Pa(h:(Ĕ x&&Ĕ y)=true):IntMulOk x y:=by
 simp[Ĕ] at h;unfold IntMulOk Ef bitsLine;rw[mE (show¬((aA x:Â)+(aA y:Â)>((2^27:Á):Â)) by exact(A2 0x1d0d8800000077d491f40471061f4047006) (cJ h.1)<|cJ h.2),Bool.and_false];exact Bool.false_ne_true
def qi(h:Ĕ x=true):tN x y=false:=by
 simp[Ĕ] at h;unfold tN;dsimp only;have:(if(x==0)=true then 0 else x.natAbs.log2/30+1)<=300:=by split;exact(A0 19675120);exact(A3 0x12c37e080f1e2721e272181201e2a82761f4047116) h<|dm _ 30
 simp only[Bool.and_eq_false_iff,oX];exact(A2 0x96271819112c3719812c37006) this
def P8(a:y<=10000)(h:Ĕ x=true):(aA x:Â)+y<=2^27:=by
 simp[Ĕ] at h;have:=cJ h;omega
def Lr(f:0<=b)(j:b<=100)(o:a.natAbs.log2<100)
  (q:Q (.int (a^b.toNat) s.toks) {s with toks:=s.toks+1}):ϛ (aT prog w) A (mv .Pow (.int a t)<|.int b u) Q E s:=by
 apply AutoIntOpsIf.pow;refine Å (ť f) ?_;obtain⟨n,rfl⟩:=et f;rw[Ě] at q;split
 .rename_i h;have:n=0:=by simpa using h
  subst this;have y:Q (.int 1 s.toks) {s with toks:=s.toks+1}:=by simpa using q
  exact y
 .rename_i h;have g:n≠0:=by simpa using h
  obtain⟨n,rfl⟩:=Nat.exists_eq_succ_of_ne_zero g;split
  .rename_i c;have:a=0\/a=1:=by simpa using c
   rcases this with rfl|rfl
   .rw[Int.zero_pow (Gh n)] at q;exact q
   .rw[Int.one_pow] at q;exact q
  .split
   .rename_i c;have:a=-1:=by simpa using c
    subst this;have e:(if(((n+1:Á):Â)%2==0)=true then(1:Â) else -1)=(-1)^(n+1):=by
     clear q h g f j o c
     induction n with
     |zero=>rfl
     |succ n ih=>
      refine Å (Int.pow_succ ..)<|Đ (ih ..) ?_;by_cases p:(((n+1:Á):Â)%2==0)=true
      .have:¬(((n+1+1:Á):Â)%2==0)=true:=by simp at p⊢;exact(WM 0xf059f2172217040f378ee0d880321a8576f2172217141f378e0d81221a8576f156) p (dz _ 2) (dz _ 2)
       exact Å (ť p)<|Å (È this) rfl
      .have:(((n+1+1:Á):Â)%2==0)=true:=by simp at p⊢;exact(WM 0xf05f2172217040f378ee0d880321a8576f2172217141f378e0d81221a8576f1596) p (dz _ 2) (dz _ 2)
       exact Å (È p)<|Å (ť this) rfl
    exact Å (Nat.succ_eq_add_one ..)<|Å (e ..) q
   .split
    .rename_i c;unfold Ef bitsLine at c;have C:(aA a:Â)*((n.succ:Á):Â)<=100*100:=Int.mul_le_mul ((A1 0x64270d36427006)<|cJ o) j (by assumption) (by exact(A0 6563827));have:=ma c;omega
    .exact Å (Ě ..) q
end
section
variable{X:Cx}{k:Á}{T:gk}{P:Ĳ->Prop}{B B':PB}{env:ey}{δ:Str->Ï Á}{wr:Str->Ò}{σ ø Rq:St}{α:Á->Ã Ĳ}{h h':gk}{v:V}{m:Á}{A:q6}{s:ŕ}
def ĭ.vr(O:ĭ h B v 0 val as):VR B v val:=by
 generalize a:(0:Á)=n at O
 induction O with
 |z h=>exact h
 |one=>injection a
 |two=>injection a
def Ok.Bs{G:Prop}(K:Ok T P B env δ wr σ α h)(hi:δ x=À i)(I:σ.get i=À (v,m))
  (k:∀B' M val,ŀ B B'->(∀a o,B' a=À o->B a=À o\/P a)->At h env x val->VR B' v val->Ok T P B' env δ wr (σ.é i) M h->G):G:=by
 refine K.Æ x i v m hi I λval C O hP=>?_;by_cases J:m=0
 .subst J;apply k B α val (.refl _) (λ_ _ e=>.inl e) C O.vr;unfold St.é;refine Å I ?_;simpa using K
 .have fr:gB δ (σ.ö i v 0) (λj=>if j=i then[] else α j) (α i):=λy j p c a b E=>by
   by_cases e:j=i
   .simp only[ť e] at E;exact ϭ E
   .simp only[È e] at E;rw[St.a9,È λq=>e q.1.symm] at c;exact K.apart x y i j hi p (λq=>e q.symm) (Å I rfl) c a b E
  have t:ŀ B (B.adds h<|α i):=PB.nc λa b=>(O.lists a b).choose_spec.2;refine k (B.adds h<|α i) (λj=>if j=i then[] else α j) val t (λa o e=>?_) C O.frozen ?_
  .unfold PB.adds at e;by_cases b:a∈α i
   .exact .inr<|hP a b
   .rw[È b] at e;exact .inl e
  .have K1:Ok T P B env δ wr (σ.ö i v 0) (λj=>if j=i then[] else α j) h->Ok T P (B.adds h<|α i) env δ wr (σ.ö i v 0) (λj=>if j=i then[] else α j) h:=λK1=>K1.é O.lists fr;have e:σ.é i=σ.ö i v 0:=by
    unfold St.é;refine Å I ?_;simp[J]
   refine Å e ?_;refine⟨K.top,K.low,K.hi,λa o e=>?_,K.kind,K.glob,⟨K.loc.1,K.loc.2.1,?_⟩,K.cells,K.Ė,K.ϓ,λy p=>?_,K.inj,λy j w n p c=>?_,λy z j l p hz W H D a b=>?_,λa b=>(let⟨hp,e⟩:=K.ex a b;⟨hp,e.go (λ_ h=>h) t<|by unfold PB.adds;exact Å (È λJ=>let⟨_,q,_⟩:=O.lists _ J;e.dP q rfl) e.fresh⟩)⟩
   .unfold PB.adds at e;by_cases b:a∈α i
    .rw[ť b] at e;exact e
    .rw[È b] at e;exact K.base a o e
   .unfold PB.adds;apply Ϸ K.loc;rintro⟨mm,hn⟩ _ hB;exact Å (È λb=>let⟨_,q,_⟩:=O.lists _ b;ī q hn rfl) hB
   .rcases K.wrs y p with e|⟨e,c',v',H,D,Y,h4⟩
    .exact .inl e
    .exact .inr ⟨e,c',v',H,D,Y,by unfold PB.adds;exact Å (È λb=>let⟨_,q,_⟩:=O.lists _ b;ĥ q D rfl) h4⟩
   .rw[St.a9] at c;by_cases f:j=i
    .subst f;have R:y=x:=K.inj y x j p hi;subst R;by_cases g:j<σ.length
     .simp[g] at c;obtain⟨rfl,rfl⟩:=c;exact⟨val,C,by simp;exact .z O.frozen,by simp⟩
     .simp[g] at c;exact ó c<|by unfold St.get;refine Å (ķ<|Ϣ.1 g) ?_;simp
    .rw[È (λe=>f e.1.symm)] at c;refine K.Æ y j w n p c λu H D Y=>?_;refine⟨u,H,?_,?_⟩
     .simp only[È f];exact D.adds t λa b E=>K.apart x y i j hi p (λq=>f q.symm) (Å I rfl) (Å c rfl) a E b
     .simp only[È f];exact Y
   ·(try dsimp only at b⊢)
    by_cases S:j=i
    .rw[ť S] at b;exact ϭ b
    .rw[È S] at b;by_cases L:l=i
     .refine Å (ť L) ?_;intro hc;exact ϭ hc
     .refine Å (È L) ?_;rw[St.a9,È λq=>S q.1.symm] at H;rw[St.a9,È λq=>L q.1.symm] at D;exact K.apart y z j l p hz W H D a b
def At.load(f:env.scope.kind=.function)(b:At s.heap env x val)(q:Q val s):ϛ M A (loadName env x) Q E s:=by
 rcases b with⟨a,p,o,e⟩|⟨a,c,j,g⟩
 .exact Eo f a o e q
 .rcases a with a|⟨a,hx⟩
  .exact wpAny_loadName_cell f a j g q
  .exact wpAny_loadName_free f a j g q hx
end
structure Sc where
 kinds:Ã (Str×NameKind)
 δ:Ã (Str×Á)
 wr:Ã Str
noncomputable abbrev Sc.dl(sc:Sc):Str->Ï Á:=λx=>sc.δ.lookup x
noncomputable abbrev Sc.wl(sc:Sc):Str->Ò:=λx=>sc.wr.contains x
def SE(X:Cx)(k:Á)(sc:Sc)(e:Expr)(pe:PE):Prop:=
 ∀env,env.scope.names=sc.kinds->∀σ v m ø,ß pe σ=À (v,m,ø)->Ev X k env sc.dl sc.wl σ (eval e env) v m ø
def J3(X:Cx)(k:Á)(env:ey)(δ:Str->Ï Á)(wr:Str->Ò)(σ:St)(t:ŭ Ò)(b:Ò)(ø:St):Prop:=
 ∀(P:Ĳ->Prop)(B:PB)(α:Á->Ã Ĳ)(A:q6)(s:ŕ)(Q:Ò->ŕ->Prop)(E:Ë->ŕ->Prop),ţ k A->Ok X.T P B env δ wr σ α s.heap->
  (∀s' B' a,Ķ env P s s' B B'->Ok X.T P B' env δ wr ø a s'.heap->Q b s')->
  wq X A t Q E s
def cG(X:Cx)(k:Á)(sc:Sc)(e:Expr)(pe:PE):Prop:=
 ∀env,env.scope.names=sc.kinds->∀σ v m ø b,ß pe σ=À (v,m,ø)->Ó v=À b->J3 X k env sc.dl sc.wl σ (isTrue e env<|eval e env) b ø
inductive eV(X:Cx)(k:Á)(sc:Sc):Ã Expr->Ã PE->Prop
 |nil:eV X k sc [] []
 |cons {e pe es i6} (hs:Ý e=false) (h:SE X k sc e pe) (t:eV X k sc es i6):eV X k sc (e::es) (pe::i6)
section
variable{X:Cx}{k:Á}{sc:Sc}
def bind_some(h:(x>>=f)=À r):∃a,x=À a/\f a=À r:=ð h λa h k=>⟨a,h,k⟩
def SE.vF(p:∀σ,ß pe σ=À (v,0,σ))(H:∀env A s(B:PB),ŀ B s.heap.get?->Op X A B s (eval e env) v 0):SE X k sc e pe:=by
 intro env c σ f m ø b;apply Ϝ<|(p σ).symm.trans b;intro P B α A s Q E R K q;exact(H env A s B K.base).use K λval s' B' as S K' O a fr=>q val s' B' α as S K' O a fr
def SE.mP:SE X k sc (.Constant (.int i) n p) (.c<|.int i):=.vF (λ_=>rfl) λenv A s B hB=>.flat hB λQ E q=>wpAny_Constant_int<|q _ _ .int
def SE.UJ:SE X k sc (.Constant (.str x) n p) (.c<|.str x):=.vF (λ_=>rfl) λenv A s B hB=>.flat hB λQ E q=>Constant_str<|q _ _ .str
def SE.Uz:SE X k sc (.Constant (.float x) n p) (.c<|.á x):=.vF (λ_=>rfl) λenv A s B hB=>.flat hB λQ E q=>(wpAny_mkFloat (q _ _ .á):ϛ _ _ (mkFloat x) _ _ _)
def SE.NZ:SE X k sc (.Constant (.bool x) n p) (.c<|.bool x):=.vF (λ_=>rfl) λenv A s B hB=>.flat hB λQ E q=>(õ (q _ s.toks .bool):ϛ _ _ (pure (yY x):ŭ Ë) _ _ _)
def SE.KD:SE X k sc (.Constant .none n p) (.c .none):=.vF (λ_=>rfl) λenv A s B hB=>.flat hB λQ E q=>(õ (q _ s.toks .none):ϛ _ _ (pure Value.none:ŭ Ë) _ _ _)
def SE.name(hi:sc.δ.lookup x=À i)(t:(x==("__debug__":Str))=false:=by decide):SE X k sc (.Name x p) (.Æ i):=by
 intro env y σ v m ø j;refine ud j λw o=>?_;intro P B α A s Q E R K q;exact K.Bs (x:=x) hi o λB' g val f a b c K'=>j5 (b.load K.kind<|q val s B' g [] (.same s.toks f a) K' (.z c) (λ_ h=>ϭ h) λ_ _ _ _ _ h=>ϭ h) t
end
section
variable{X:Cx}{k:Á}{B B':PB}{A:q6}{s:ŕ}
def Bq{as:Ã V}:∀{c:Ã V}{r:Ò},qy f as c=À r->∃e:Á->Ò,(∀(j:Á)(a b:V),as[j]?=À a->c[j]?=À b->f a b=À (e j))/\(range as.length).all e=r:=by
 induction as with
 |nil=>intro c r h;induction c with
  |nil=>exact⟨λ_=>true,λ_ _ _ h=>ÿ h,à h⟩
  |cons=>exact ÿ h
 |cons a as ih=>intro c r h;induction c with
  |nil=>exact ÿ h
  |cons b c=>
   exact ð (x:=f a b) h λx t h=>uD (M:=λr=>∃e:Á->Ò,(∀(j:Á)(g m:V),(a::as)[j]?=À g->(b::c)[j]?=À m->f g m=À (e j))/\(range (a::as).length).all e=r) h λy v=>
    (ih v).elim λe o=>⟨λj=>Nat.casesOn j x e,λj g m q p=>(by
     induction j with
     |zero=>exact Đ (à q)<|Đ (à p) t
     |succ j=>exact o.1 j g m q p),Å kc<|Å range_succ_eq_map<|Å all_cons<|Å List.all_map<|Ù (x&&·) o.2⟩
def đ(hB:ŀ B s.heap.get?)(h:B a=À o)(c:o.cls=.type "list")(b:o.data=.seq items n):s.heap.IsList a items:=⟨o,hB _ _ h,c,n,b⟩
def cZ{o:Obj}(hB:ŀ B s.heap.get?)(h:B a=À o)(c:o.cls=.type "tuple")(b:o.data=.seq items n):s.heap.IsTuple a items:=⟨o,hB _ _ h,c,n,b⟩
def ě.pR{items:gS Ë}(h:ě B vs items.toList)(a:j<items.size):∃v,vs[j]?=À v/\VR B v items[j]:=by
 have c:j<vs.length:=by refine Å h.length ?_;simpa using a
 refine ì (h.get (i:=j) (v:=vs[j])<|by simp) λx hx b=>?_;refine⟨vs[j],by simp,?_⟩;have:items[j]=x:=by
  exact à<|(show items.toList[j]?=À items[j] by simp[a])▸hx
 exact Å this b
def E3{B:PB}(h:B a=À o)(c:B a'=À o')(e:aD a=.ref a')(f:o.data=.seq items n)(b:o'.data=.seq nN n'):items=nN:=by
 obtain rfl:=EL e;obtain rfl:=à<|h.symm.trans c;exact(Data.seq.inj<|f.symm.trans b).1
def rx{n:Á}(ih:∀{a b r x},jq n a b=À r->VR B a x->VR B b x->r=true){zs:Ã Ë}(p:ě B xs zs):∀{c:Ã V}{r:Ò},qy (jq n) xs c=À r->ě B c zs->r=true:=by
 apply p.ind
 .intro c r h q;induction c with
  |nil=>exact(à h).symm
  |cons=>exact ÿ h
 .intro v x vs zs p ps ihs c r h q;induction c with
  |nil=>exact ÿ h
  |cons b f=>
   have q:VR B b x/\ě B f zs:=Li (M:=λl=>l=x::zs->VR B b x/\ě B f zs) q (λy c p q e=>⟨(xP e).1▸p,(xP e).2▸q⟩) rfl;exact ð (x:=jq n v b) h λu j h=>uD (M:=λr=>r=true) h λw g=>Å (ih j p q.1)<|Å (ihs g q.2) rfl
def mF:∀(n:Á){a b:V}{r:Ò}{x:Ë},jq n a b=À r->VR B a x->VR B b x->r=true:=by
 have z:∀{a b:V}{r:Ò}{x:Ë},uJ a b=À r->VR B a x->VR B b x->r=true:=λ{a b r x}h=>kA (M:=λa b r=>VR B a x->VR B b x->r=true) h
  (λi j c f=>c.inv.elim λ_ e=>f.inv.elim λ_ m=>ka.2 (Value.int.inj<|e.symm.trans m).1) (λi j c f=>c.inv.elim λ_ e=>f.inv.elim λ_ m=>ka.2 (Value.str.inj<|e.symm.trans m).1)
  (λi j c f=>ka.2<|Value.bool.inj<|Eq.trans (Eq.symm c.inv) f.inv) λ_ _=>rfl
 intro n
 induction n with
 |zero=>exact z
 |succ n ih=>
  intro a b r x h;apply nu (M:=λa b r=>VR B a x->VR B b x->r=true) h z (λxs C h c f=>?_) λxs C D h c f=>?_
  all_goals
   obtain⟨a,o,n,items,e,y,_,w,t⟩:=c.inv;obtain⟨E,G,n',p,m,v,_,q,g⟩:=f.inv;cases E3 y v (e.symm.trans m) w q
  .rw[ť (t.2.length.trans g.2.length.symm)] at h;exact rx ih t.2 h g.2
  .exact rx ih t h g
def AX(h:uJ a b=À r)(c:VR B a x)(f:VR B b y):zk A s x y r/\WA A s x y r:=by
 revert c f;refine kA (M:=λa b r=>VR B a x->VR B b y->zk A s x y r/\WA A s x y r) h (λi j c f=>?_) (λi j c f=>?_) (λi j c f=>?_) λc f=>?_
 .apply ê c;intro t;apply ê f;intro u;exact⟨.int_int _ _ _ _,.int_int _ _ _ _⟩
 .apply ύ c;intro t;apply ύ f;intro u;exact⟨.str_str _ _ _ _,.str_str _ _ _ _⟩
 .apply dW c;apply dW f;exact⟨.bool_bool _ _,.bool_bool _ _⟩
 .apply ϯ c;apply ϯ f;exact⟨.same _,.none_none⟩
def km{n:Á}{items c:gS Ë}(ih:∀{A a b r x y},jq n a b=À r->VR B a x->VR B b y->A.units+n<t6->zk A s x y r/\WA A s x y r)(h:qy (jq n) xs ys=À r)
  (f:ě B xs items.toList) (g:ě B ys c.toList) (G:A.units+(n+1)<t6):∃e:Á->Ò,(∀j(q:j<items.size)(p:j<c.size),zk A.in1 s items[j] c[j]<|e j)/\(range items.size).all e=r:=by
 refine ì (Bq h) λe D E=>?_;exact⟨e,λj q p=>ì (f.pR q) λv t o=>ì (g.pR p) λw C m=>(ih (D j v w t C) o m<|Å (Around.in1_units ..)<|(A3 0x2e18810e281816) G).1,Đ Ì<|Đ f.length E⟩
def rf{items a:gS Ë}(h:ě B xs items.toList)(b:ě B ys a.toList):items.size=a.size↔xs.length=ys.length:=by
 rw[<-Ì,<-h.length,<-Ì,<-b.length]
def xh(hB:ŀ B s.heap.get?):∀(n:Á){A:q6}{a b:V}{r:Ò}{x y:Ë},jq n a b=À r->VR B a x->VR B b y->A.units+n<t6->zk A s x y r/\WA A s x y r:=by
 intro n
 induction n with
 |zero=>exact λh q j _=>AX h q j
 |succ n ih=>
  intro A a b r x y h q j G;refine nu (M:=λa b r=>jq (n+1) a b=À r->VR B a x->VR B b y->zk A s x y r/\WA A s x y r) h (λh _=>AX h) (λxs P h O q j=>?_) (λxs P H h O q j=>?_) h q j
  .have f:x=y->r=true:=λe=>mF (n+1) O q<|e▸j;refine Ł (M:=λx=>(x=y->r=true)->zk A s x y r/\WA A s x y r) q (λa o m items I J L hx C=>Ł (M:=λy=>(.ref a=y->r=true)->zk A s (.ref a) y r/\WA A s (.ref a) y r) j λb S W p w v t R D f=>?_) f;have H:=đ hB I J L;have E:=đ hB w v t;have key:WA A s (.ref a) (.ref b) r:=by
    by_cases c:xs.length=P.length
    .rw[ť c] at h;exact ì (km ih h C D G) λe K f=>f▸RcAt.lists H E ((rf C D).2 c) ((A3 73251952662) G) K
    .rw[È c] at h;obtain rfl:=à h;exact RcAt.lists_lengths H E (Wq.2 λe=>c<|(rf C D).1 e)<|(A3 73251952662) G
   by_cases g:a=b
   .subst g;cases f rfl;exact⟨.same _,key⟩
   .exact⟨.of_refs g key,key⟩
  .have f:x=y->r=true:=λe=>mF (n+1) O q<|e▸j;apply jQ (M:=λx=>(x=y->r=true)->zk A s x y r/\WA A s x y r) q (λa o m items I J L C=>jQ (M:=λy=>(.ref a=y->r=true)->zk A s (.ref a) y r/\WA A s (.ref a) y r) j λb S W p w v t D f=>?_) f;have key:WA A s (.ref a) (.ref b) r:=by
    refine ì (km ih h C D G) λe K f=>?_;have:=RcAt.tuples (cZ hB I J L) (cZ hB w v t) ((A3 73251952662) G) K;rw[<-(rf C D).2 H,Nat.min_self,f] at this;simpa using this
   by_cases g:a=b
   .subst g;cases f rfl;exact⟨.same _,key⟩
   .exact⟨.of_refs g key,key⟩
end
set_option tactic.hygienic true
section
variable{X:Cx}{k:Á}{sc:Sc}{B B':PB}{A:q6}{s:ŕ}
def lF(e:Ó v=À b)(h:VR B v x)(hB:ŀ B s.heap.get?)
  (q:∀tk,Q b {s with toks:=tk}):wq X A (truthy x) Q E s:=by
 cases v with
 |none=>obtain rfl:=à e;apply ϯ h;exact λ_ _ _=>q s.toks
 |bool=>obtain rfl:=à e;apply dW h;exact gX<|q s.toks
 |int=>obtain rfl:=à e;apply ê h;intro t;exact PySem.P.truthy_int<|q s.toks
 |str x=>
  apply ύ h;intro t;refine Ϲ e λc e=>?_;obtain rfl:=à e;exact PySem.P.truthy_str (by omega)<|Å (show((x.length:Â) !=0)=(x.length !=0) by cases x.length<;>rfl)<|q _
 |Ñ xs=>
  apply Ł h;intro a o n items g j m hx f;refine Ϲ e λc e=>?_;obtain rfl:=à e;exact wpAny_truthy_list (đ hB g j m) (by rw[f.length,Ì] at c;omega)<|Đ Array.isEmpty_toList<|Å (ě.ind (M:=λa b=>b.isEmpty=a.isEmpty) rfl (λ_ _ _=>rfl) f)<|q _
 |_=>exact ÿ e
def vK(x y:pF):(yu x==yu y)=(x==y):=by
 by_cases h:x=y
 .subst h;exact Å (eE ..)<|Å (eE ..) rfl
 .exact Å (Š.2 h)<|Å (Š.2 λe=>h<|Value.type.inj e) rfl
def MJ(hB:ŀ B s.heap.get?)(h:jq n a b=À r)(f:VR B a x)(c:VR B b y)(G:A.units+n<t6):sZ A s x y (!r):=by
 have z:uJ a b=À r->VR B a x->VR B b y->sZ A s x y (!r):=λh=>by
  refine kA (M:=λa b r=>VR B a x->VR B b y->sZ A s x y (!r)) h (λi j f c=>?_) (λi j f c=>?_) (λi j f c=>?_) λf c=>?_
  .apply ê f;intro t;apply ê c;intro u;exact .int_int _ _ _ _
  .apply ύ f;intro t;apply ύ c;intro u;exact .str_str _ _ _ _
  .apply dW f;apply dW c;exact .bool_bool _ _
  .apply ϯ f;apply ϯ c;exact .none_none
 induction n with
 |zero=>
  exact z h f c
 |succ n=>
  apply nu (M:=λa b r=>(uJ a b=À r->VR B a x->VR B b y->sZ A s x y (!r))->VR B a x->VR B b y->sZ A s x y (!r)) h (λh z=>z h) (λxs P h _ f c=>?_) (λxs P H h _ f c=>?_) z f c
  .refine Ł (M:=λx=>sZ A s x y<|!r) f λa o m items I J O hx C=>Ł (M:=λy=>sZ A s _ y<|!r) c λb S W p w v q R D=>?_;have H:=đ hB I J O;have E:=đ hB w v q;by_cases g:xs.length=P.length
   .rw[ť g] at h;exact ì (km (xh hB n) h C D G) λe L K=>K▸RcNeAt.lists H E ((rf C D).2 g) ((A3 73251952662) G) L
   .rw[È g] at h;obtain rfl:=à h;exact RcNeAt.lists_lengths H E (Wq.2 λe=>g<|(rf C D).1 e)<|(A3 73251952662) G
  .refine jQ (M:=λx=>sZ A s x y<|!r) f λa o m items I J O C=>jQ (M:=λy=>sZ A s _ y<|!r) c λb S W p w v q D=>?_;refine ì (km (xh hB n) h C D G) λe L K=>?_;have:=RcNeAt.tuples (cZ hB I J O) (cZ hB w v q) ((A3 73251952662) G) L;rw[<-(rf C D).2 H,Nat.min_self,K] at this;simpa using this
def My{x:Â}{zs:Ã Ë}(q:ě B j zs):∀{f:Ã Â},(j.mapM (m:=Ï) λ|V.int y=>À y|_=>Ä)=À f->
  (∀z∈zs,∃i u,z=jT i u)/\zs.any (λz=>match z with|.int i _=>i==x|_=>false)=f.contains x:=by
 apply q.ind
 .exact λb=>à b▸⟨λ_ h=>ϭ h,rfl⟩
 intro y z j zs v o ih f b;rw[gU] at b;refine ð b λi hi b=>ð b λis c b=>?_;obtain rfl:=à b;have g:=ih c;cases Ú (a:=y) (x:=i) hi;exact ê (M:=λz=>(∀w∈z::_,∃i u,w=jT i u)/\any (z::_) _=_) v λt=>⟨λz hz=>(ő.1 hz).elim (λe=>⟨_,_,e⟩)<|g.1 z,(Å any_cons<|Å g.2<|Å contains_cons<|Ù (·||_)<|Å Bool.beq_comm rfl)⟩
def tI(e:Ĥ op a b=À r)(hx:VR B a x)(h:VR B b y)(hB:ŀ B s.heap.get?)(f:A.units+5<t6):Op X A B s (compareOp op x y) (.bool r) 0:=by
 refine Op.flat hB λQ E q=>?_;have q:Q (.bool r) s:=q _ s.toks .bool;have D:∀{r},jq 5 a b=À r->Q (.bool r) s->wq X A (compareOp .Eq x y) Q E s:=λe q=>(xh hB 5 e hx h f).2 _ _ _ _ q;have C:∀{r},jq 5 a b=À r->Q (.bool !r) s->wq X A (compareOp .NotEq x y) Q E s:=λe q=>(MJ hB e hx h f) _ _ _ _ q;revert hx h
 induction op with
 |Eq=>
  exact Ĩ e (λe=>dT (M:=λa b=>VR B a x->VR B b y->_) e λi j e hx h=>by obtain rfl:=à e;apply ŷ hx;intro t;apply ŷ h;intro u;exact AutoFloatOps.eq_0 q) λe _ _=>D e q
 |NotEq=>obtain⟨b,c,rfl⟩:=lb.1 e;exact λ_ _=>C c q
 |Lt=>
  exact Ĩ e (λe=>dT (M:=λa b=>VR B a x->VR B b y->_) e λi j e hx h=>by obtain rfl:=à e;apply ŷ hx;intro t;apply ŷ h;intro u;exact AutoFloatOps.lt_0 q)
   λe=>Ŝ (M:=λa b=>VR B a x->VR B b y->_) e λi j e hx h=>by obtain rfl:=à e;apply ê hx;intro t;apply ê h;intro u;exact lt_int q
 |LtE=>
  exact Ĩ e (λe=>dT (M:=λa b=>VR B a x->VR B b y->_) e λi j e hx h=>by obtain rfl:=à e;apply ŷ hx;intro t;apply ŷ h;intro u;exact AutoFloatOps.le_0 q)
   λe=>Ĩ e (λe=>Ć Ũ Ú (M:=λa b=>VR B a x->VR B b y->_) e λi j e hx h=>by obtain rfl:=à e;apply ŷ hx;intro t;apply ê h;intro u;exact le_fi q)
   λe=>Ĩ e (λe=>Ć Ú Ũ (M:=λa b=>VR B a x->VR B b y->_) e λi j e hx h=>by obtain rfl:=à e;apply ê hx;intro t;apply ŷ h;intro u;exact le_if q)
   λe=>Ŝ (M:=λa b=>VR B a x->VR B b y->_) e λi j e hx h=>by obtain rfl:=à e;apply ê hx;intro t;apply ê h;intro u;exact le_int q
 |Gt=>
  exact Ŝ (M:=λa b=>VR B a x->VR B b y->_) e λi j e hx h=>by obtain rfl:=à e;apply ê hx;intro t;apply ê h;intro u;exact gt_int q
 |GtE=>
  exact Ŝ (M:=λa b=>VR B a x->VR B b y->_) e λi j e hx h=>by obtain rfl:=à e;apply ê hx;intro t;apply ê h;intro u;exact ge_int q
 |Is=>
  exact Ĩ e (λe=>Ć kK kK (M:=λa b=>VR B a x->VR B b y->_) e λi j e hx h=>by obtain rfl:=à e;apply dW hx;apply dW h;exact pq (by cases i<;>cases j<;>rfl)<|(show(yY i==yY j)=(i==j) by cases i<;>cases j<;>rfl)▸q)
   λe=>Ĩ e (λe=>Ć m5 m5 (M:=λa b=>VR B a x->VR B b y->_) e λi j e hx h=>by obtain rfl:=à e;apply zZ hx;apply zZ h;exact pq rfl<|vK i j▸q)
   λe=>Ĩ e (λe=>Ć d7 d7 (M:=λa b=>VR B a x->VR B b y->_) e λi j e hx h=>by obtain rfl:=à e;apply ϯ hx;apply ϯ h;exact pq rfl q)
   λe=>Ć į d7 (M:=λa b=>VR B a x->VR B b y->_) e λi j e hx h=>by obtain rfl:=à e;apply ύ hx;intro t;apply ϯ h;exact pq rfl q
 |IsNot=>
  exact Ĩ e (λe=>Ć m5 m5 (M:=λa b=>VR B a x->VR B b y->_) e λi j e hx h=>by obtain rfl:=à e;apply zZ hx;apply zZ h;exact isnot_type<|(show(!(yu i==yu j))=(i !=j) by exact Å (vK ..) rfl)▸q)
   λe=>Ĩ e (λe=>Ć d7 d7 (M:=λa b=>VR B a x->VR B b y->_) e λi j e hx h=>by obtain rfl:=à e;apply ϯ hx;apply ϯ h;exact wpAny_isNot_plain rfl q)
   λe=>Ć į d7 (M:=λa b=>VR B a x->VR B b y->_) e λi j e hx h=>by obtain rfl:=à e;apply ύ hx;intro t;apply ϯ h;exact wpAny_isNot_plain rfl q
 |In=>
  exact Ć Ú Ğ (M:=λa b=>VR B a x->VR B b y->_) e λi I e hx h=>by
   obtain⟨J,c,rfl⟩:=lb.1 e;apply ê hx;intro t;apply Ł h;intro a o n items g m H _ v;obtain⟨p,G⟩:=My (x:=i) v c;apply in_listAt (λz=>match z with|.int j _=>j==i|_=>false) (đ hB g m H) (λz hz=>?_)<|Đ Array.any_toList<|Å G q
   .obtain⟨i,u,rfl⟩:=p z<|yR.1 hz;exact .int_int _ _ _ _
 |_=>
  exact nomatch e
end
set_option tactic.hygienic false
section
variable{X:Cx}{k:Á}{sc:Sc}
def ţ.u(h:ţ k A):A.units+5<t6:=by unfold t6;exact(A2 0x26ac47517081232847181a0816) h.units
def Oh(e:HM op a=À r)(hx:VR B a x)(hB:ŀ B s.heap.get?):Op X A B s (unaryOp op x) r 0:=by
 refine Op.flat hB λQ E q=>?_
 induction op with
 |USub=>obtain⟨i,h,rfl⟩:=lb.1 e;cases Ú h;exact ê (M:=λx=>ϛ _ A (unaryOp .USub x) Q E s) hx λt=>neg_int<|q _ _ .int
 |Invert=>obtain⟨i,h,rfl⟩:=lb.1 e;cases Ú h;exact ê (M:=λx=>ϛ _ A (unaryOp .Invert x) Q E s) hx λt=>invert_int<|q _ _ .int
 |Not=>obtain⟨b,c,rfl⟩:=lb.1 e;exact not_of<|lF c hx hB λtk=>q _ tk .bool
 |_=>exact ÿ e
def SE.un(h:SE X k sc x a):SE X k sc (.UnaryOp op x p) (.un op a):=by
 intro env y σ v m D g;refine As g λw m1 Ø r C t=>?_;intro P B G A s Q E R K q;exact wpAny_UnaryOp<|(h env y σ w m1 Ø C).é P B G A s _ _ R K λL M J b f S1 c o I H=>((Oh (X:=X) (A:=A) t o.vr c.base).use c λval s' B' as S K' O j fr=>q val s' B' b as (S1.trans S) K' O j fr)
def SE.cmp(G:SE X k sc l a)(W:SE X k sc r b)(w:yy op r=false:=by rfl):SE X k sc (.Compare l [op] [r] p) (.cmp op a b):=by
 intro env h σ v m H C;refine rI C λx m1 Ø y m2 f r' h1 h2 J=>?_;intro P B α A s Q E R K q;exact wpAny_Compare1 ((G env h σ x m1 Ø h1).é P B α A s _ _ R K λva L t c D S1 K1 I Y Bo=>(W env h Ø y m2 f h2).é P t c A L _ _ R K1 λvb s2 B2 g Nu o j O2 Ks M=>(tI J (I.vr.mono o.le) O2.vr j.base R.u).use j λval s' B' as S K' O hP fr=>q val s' B' g as ((S1.trans o).trans S) K' O hP fr) w
def cG.cmp(H:SE X k sc l a)(Y:SE X k sc r b)(C:yy op r=false:=by rfl):cG X k sc (.Compare l [op] [r] p) (.cmp op a b):=by
 intro env j σ v m c b D;refine rI (M:=λv m c=>Ó v=À b->J3 X k env sc.dl sc.wl σ _ b c) D λx m1 Ø y m2 g r' h1 h2 J hb=>?_;obtain rfl:=à hb;intro P B α A s Q E R K q;apply Du ((H env j σ x m1 Ø h1).é P B α A s _ _ R K λva L w f G S1 K1 I NN Bo=>(Y env j Ø y m2 g h2).é P w f A L _ _ R K1 λvb s2 B2 h Nu t o O2 Ks W=>?_) C;refine(tI J (I.vr.mono t.le) O2.vr o.base R.u).use o λval s' B' as S K' O hP fr=>?_;apply dW O.vr;exact gX<|q s' B' h ((S1.trans t).trans S) K'
def cG.val(h:SE X k sc e pe)(t:∀env w,isTrue e env w=(do let v<-w;bc e.pos;bF [v] (truthy v)):=by intro _ _;rfl):cG X k sc e pe:=by
 intro env p σ v m a b o D P B y A s Q E R K q;exact wpAny_isTrue_value ((h env p σ v m a o).é P B y A s _ _ R K λH x g c j S1 f O G C=>lF D O.vr f.base λtk=>(q {x with toks:=tk} g c (S1.trans<|.tok tk) f))<|t env _
def cG.not(h:cG X k sc x a):cG X k sc (.UnaryOp .Not x p) (.un .Not a):=by
 intro env y σ v m f b t;refine As (M:=λv m f=>Ó v=À b->J3 X k env sc.dl sc.wl σ _ b f) t λj m1 Ø r D w=>uD (o:=Ó j) (M:=λr=>Ó r=À b->J3 X k env sc.dl sc.wl σ _ b Ø) w λc C H=>?_;obtain rfl:=à H;intro P B G A s Q E R K q;exact wpAny_isTrue_Not<|h env y σ j m1 Ø c D C P B G A s _ _ R K λs' B' g S K'=>q s' B' g S K'
def t9(X:Cx)(k:Á)(sc:Sc)(op:BoolOp)(es:Ã Expr)(pe:PE):Prop:=
 ∀env,env.scope.names=sc.kinds->∀σ v m a b,ß pe σ=À (v,m,a)->Ó v=À b->J3 X k env sc.dl sc.wl σ (allTrue op es env) b a
def t9.one(h:cG X k sc e pe):t9 X k sc op [e] pe:=by
 intro env g σ v m c b f o P B j A s Q E R K q;cases op
 .apply xG<|h env g σ v m c b f o P B j A s _ _ R K λs' B' a S K'=>?_;cases b
  .exact q s' B' a S K'
  .exact wpAny_allTrue_And_nil<|q s' B' a S K'
 .apply nD<|h env g σ v m c b f o P B j A s _ _ R K λs' B' a S K'=>?_;cases b
  .exact wpAny_allTrue_Or_nil<|q s' B' a S K'
  .exact q s' B' a S K'
def t9.and(h:cG X k sc e a)(t:t9 X k sc .And (e2::es) c):t9 X k sc .And (e::e2::es) (.cK a c):=by
 intro env x σ v m g b J;apply xW (M:=λv m g=>Ó v=À b->J3 X k env sc.dl sc.wl σ _ b g) J λH m1 Ø I=>⟨λW m2 D j L o P B G A s Q E R K q=>xG<|h env x σ H m1 Ø _ I j P B G A s _ _ R K λs' B' w S K'=>t env x Ø W m2 D b L o P B' w A s' _ _ R K' λp y f O C=>q p y f (S.trans O) C,λj o P B G A s Q E R K q=>?_⟩
 .obtain rfl:=à<|j.symm.trans o;exact xG<|h env x σ H m1 Ø _ I j P B G A s _ _ R K q
def t9.or(h:cG X k sc e a)(t:t9 X k sc .Or (e2::es) c):t9 X k sc .Or (e::e2::es) (.iQ a c):=by
 intro env x σ v m g b J;apply AU (M:=λv m g=>Ó v=À b->J3 X k env sc.dl sc.wl σ _ b g) J λH m1 Ø I=>⟨λW m2 D j L o P B G A s Q E R K q=>nD<|h env x σ H m1 Ø _ I j P B G A s _ _ R K λs' B' w S K'=>t env x Ø W m2 D b L o P B' w A s' _ _ R K' λp y f O C=>q p y f (S.trans O) C,λj o P B G A s Q E R K q=>?_⟩
 .obtain rfl:=à<|j.symm.trans o;exact nD<|h env x σ H m1 Ø _ I j P B G A s _ _ R K q
def cG.bool(h:t9 X k sc op es pe):cG X k sc (.BoolOp op es p) pe:=by
 intro env f σ v m a b c j P B g A s Q E R K q;exact wpAny_isTrue_BoolOp<|h env f σ v m a b c j P B g A s _ _ R K q
def SE.Yz(hx:SE X k sc x a)(hy:SE X k sc y b):SE X k sc (.BoolOp .Or [x,y] p) (.iQ a b):=by
 intro env I σ v m W L;refine AU L λx1 m1 Ø h1=>⟨λY m2 g H h3 P B J A s Q E R K q=>?_,λH P B J A s Q E R K q=>?_⟩<;>
  refine Ü<|(hx env I σ x1 m1 Ø h1).é P B J A s _ _ R K λva s1 G c f S1 D O t o=>Ü<|ų<|Ü<|ϗ<|lF H O.vr D.base λtk=>?_
 .exact(hy env I Ø Y m2 g h3).é P G c A _ _ _ R D λvb M B3 w j S3 K3 S h C=>q vb M B3 w j ((S1.trans<|.tok tk).trans S3) K3 S h C
 .exact õ<|q va _ G c f (S1.trans<|.tok tk) D O t o
def SE.ite(ht:cG X k sc t c)(hx:SE X k sc x a)(hy:SE X k sc y b):SE X k sc (.IfExp t x y p) (.ite c a b):=by
 intro env D σ v m C w;exact Gf w λx1 m1 Ø h1=>⟨λL w P B Y A s Q E R K q=>Ep<|ht env D σ x1 m1 Ø _ h1 L P B Y A s _ _ R K λI G f S1 W=>hx env D Ø v m C w P G f A I _ _ R W λS H J j g S3 M O h o=>q S H J j g (S1.trans S3) M O h o,λL w P B Y A s Q E R K q=>Ep<|ht env D σ x1 m1 Ø _ h1 L P B Y A s _ _ R K λI G f S1 W=>hy env D Ø v m C w P G f A I _ _ R W λS H J j g S3 M O h o=>q S H J j g (S1.trans S3) M O h o⟩
def mN{es:Ã PE}:∀{σ:St}{vs:Ã V}{a:St},ď es σ=À (vs,a)->vs.length=es.length:=by
 induction es with
 |nil=>exact λh=>fy (N:=λvs _=>vs.length=0) h rfl
 |cons e es ih=>exact λh=>aV (N:=λvs _=>vs.length=es.length+1) h λx m Ø xs c f b=>Ù (·+1)<|ih b
def eV.spliced{es:Ã Expr}{p:Ã PE}(H:eV X k sc es p){env:ey}(L:env.scope.names=sc.kinds)(pos:o6):∀{σ vs a},ď p σ=À (vs,a)->Zn X k env sc.dl sc.wl σ (spliced<|ş pos<|ϧ es env) vs a:=by
 induction H with
 |nil=>
  intro σ vs a h;exact fy h λP B f A s Q E R K q=>rD<|q [] s B f (.refl _ _ _ _) K .nil
 |@cons e pe es p w h t ih=>
  intro σ vs a o;refine aV o λx m Ø xs y Y J=>?_;intro P B f A s Q E R K q;have e1:ş pos (ϧ (e::es) env)=(false,eval e env)::ş pos (ϧ es env):=by
   cases e<;>first|rfl|injection w
  exact Å e1<|ua<|(h env L σ x m Ø Y).é P B f A s _ _ R K λva C g b j S1 W O G I=>ih J P g b A C _ _ R W λvals s2 D c S M v=>q _ s2 D c (S1.trans S) M<|.cons (O.vr.mono S.le) v
def ou{s:ŕ}{A:q6}{B:PB}{vs:Ã V}{vals:Ã Ë}(hB:ŀ B s.heap.get?)(v:ě B vs vals):
  ∃B',kQ s.heap (s.heap.push {cls:=.type "tuple",data:=.seq vals.toArray}) B B'/\VR B' (.ñ vs) (.ref s.heap.objs.size):=
 ⟨_,kN hB _ rfl,.ñ (PB.cS _ _ _) rfl rfl<|by simpa using v.mono (kN hB _ rfl).le⟩
def SE.ñ{es:Ã Expr}{a:Ã PE}{n:Á}{p:o6}(H:eV X k sc es a)(G:a.length<=1000:=by decide):SE X k sc (.Tuple es n p) (.ñ a):=by
 intro env o σ v m w c;refine ED c λxs Ø j=>?_;intro P B C A s Q E R K q;apply sD (H.spliced o p j P B C A s _ _ R K λvals t D g S1 f b=>⟨by refine Đ b.length<|Å (mN j) ?_;unfold ee;exact ϴ ‹_› rfl,?_⟩);exact ì (ou (A:=A) f.base b) λy x c=>(q _ _ y g [] (S1.trans<|x.kB f.hi (tk:=t.toks)) (f.ext x) (.z c) (λ_ h=>ϭ h) λ_ _ _ _ _ h=>ϭ h)
def uT(K:Ok T P B env δ wr σ α s.heap)(v:ě B vs vals)(tk:Á):
  Ķ env P s {s with heap:=s.heap.push {cls:=.type "list",data:=.seq vals.toArray},toks:=tk} B B/\Ok T P B env δ wr σ α (s.heap.push {cls:=.type "list",data:=.seq vals.toArray})/\
   ĭ (s.heap.push {cls:=.type "list",data:=.seq vals.toArray}) B (.Ñ vs) 1 (.ref s.heap.objs.size) [s.heap.objs.size]/\(∀a∈[s.heap.objs.size],P a)/\gB δ σ α [s.heap.objs.size]:=by
 have x:=ό K.base {cls:=.type "list",data:=.seq vals.toArray};refine⟨x.kB K.hi,K.ext x,.one ⟨_,ë _ rfl,rfl,⟨0,rfl⟩,rfl,rfl⟩ (K.HJ<|ĉ _)<|by simpa using v,λa h=>?_,λy i g hi a h j=>?_⟩
 .obtain rfl:=Ċ.1 h;exact K.hi _<|ĉ _
 .obtain rfl:=Ċ.1 h;refine å (İ.1 hi) λw f=>?_;refine K.Æ y i w.1 w.2 g f λu _ c _=>?_;apply ì<|c.lists _ j;rintro _ ⟨o,b,_⟩ _;exact ó (Ļ b)<|fK _
def SE.Ñ(H:eV X k sc es i6)(I:i6.length<=1000:=by decide):SE X k sc (.List es p) (.Ñ i6):=by
 intro env y σ v m G f;refine G8 f λxs Ø b=>?_;intro P B J A s Q E R K q;apply wpAny_List (H.spliced y p b P B J A s _ _ R K λvals D c a S1 t h=>⟨by refine Đ h.length<|Å (mN b) ?_;unfold ee;exact(A1 0x100000077003e837006) I,?_⟩);exact NL (uT t h D.toks) λo g j x w=>q _ _ c a _ (S1.trans o) g j x w
end
section
variable{X:Cx}{k:Á}{sc:Sc}{A:q6}{B:PB}{s:ŕ}
def pw(h:place n i=À j):n<=1000000/\((0<=i/\i<n/\j=i.toNat)\/(i<0/\0<=i+n/\j=(i+n).toNat)):=by
 exact Ϲ h λa h=>⟨a,by
  by_cases b:0<=i
  .exact Ϲ ((ť b).symm.trans h) λc h=>.inl ⟨b,c,(à h).symm⟩
  .exact Ϲ ((È b).symm.trans h) λc h=>.inr ⟨Int.not_le.1 b,c,(à h).symm⟩⟩
def ry(h:place n i=À j):hX i n=À j/\-2^63<=i/\i<2^63:=by
 apply Ö (λf c=>?_)<|pw h;refine⟨?_,by omega,by omega⟩;unfold hX;rcases c with⟨a,b,rfl⟩|⟨a,b,rfl⟩
 .simp only[(show¬i<0 by exact(Ad 4031319862) a),jz];exact Å (ť<|by simp[a,b]) rfl
 .simp only[a,sJ];exact Å (ť<|by simp;exact⟨(wo 0xd08f30d08f36) b,(wo 896851570758) a⟩) rfl
def i0(h:s.heap.IsList l items)(p:place items.size i=À j)(hx:items[j]?=À x)(q:Q x s):
  wq X A (wy (.ref l)<|.int i u) Q E s:=by
 apply Ö (λf c=>?_)<|pw p;rcases c with⟨a,b,rfl⟩|⟨a,b,rfl⟩
 .exact wpAny_getItem_list h a (by omega) hx q
 .exact wpAny_getItem_list_neg h a ((wo 945711779638) b) (by omega) hx q
def AV{xs:Ã V}{items:gS Ë}(p:place xs.length i=À j)(hx:xs[j]?=À r)(h:s.heap.IsList l items)(a:ě B xs items.toList)(q:∀x,VR B r x->Q x s)
  (b:∀o i,subscripted fq false o i=jV [o,i] (wy o i)):wq X A (nM qg fq (.ref l)<|.int i u) Q E s:=by
 exact ì (a.get hx) λx hx v=>lx h.typeIs zj.lookup (i0 h (a.length▸p) ((fh)▸hx)<|q x v)<|b _ _
def EJ(e:ō a i=À r)(h:VR B a o)(hi:VR B i iv)(hB:ŀ B s.heap.get?)
  (p:∀o i,subscripted fq false o i=jV [o,i] (wy o i)):Op X A B s (nM qg fq o iv) r 0:=by
 refine Op.flat hB λQ E q=>?_;revert h hi q;refine nI (M:=λa i r=>VR B a o->VR B i iv->(∀val tk,VR B r val->Q val {s with toks:=tk})->wq X A (nM qg fq o iv) Q E s) e (λxs i j f m h hi q=>?_) (λxs i j f m h hi q=>?_) λH i j c f b h hi q=>?_<;>
  obtain⟨u,rfl⟩:=hi.inv
 .apply Ł h;intro l o n items h b y _ v;exact AV f m (đ hB h b y) v (λx=>q x s.toks) p
 .apply jQ h;intro l o n items h b y v;refine ì (v.get m) λx hx C=>?_;rw[v.length] at f;exact Ϸ (ry f) λg G D=>(lx (T:="tuple") ⟨o,hB _ _ h,b⟩ F.slot_tuple_getitem.lookup (PyProof.Rows.getItem_tuple (s:=s) (cZ hB h b y) G D g (by exact((fh)▸hx))<|q x s.toks C)<|p _ _)
 .apply ύ h;intro t;exact Ϸ (ry f) λg G D=>lx (xp s _ _) F.slot_str_getitem.lookup (PySem.P.getItem_str (by simp[oX];omega) (Å g b)<|q _ _ .str)<|p _ _
def SE.sub(D:SE X k sc qg a)(hi:SE X k sc fq i)(M:∀o i,subscripted fq false o i=jV [o,i] (wy o i):=by intro _ _;rfl):
  SE X k sc (.Subscript qg fq p) (.sub a i):=by
 intro env j σ v m I h;refine F2 h λx m1 Ø y m2 c r' h1 h2 h3=>?_;intro P B J A s Q E R K q;exact Ş<|(D env j σ x m1 Ø h1).é P B J A s _ _ R K λva s1 B1 b Ab S1 K1 C L Bo=>(hi env j Ø y m2 c h2).é P B1 b A s1 _ _ R K1 λvb s2 B2 f W g t G Y H=>(EJ h3 (C.vr.mono g.le) G.vr t.base M).use t λval s' B' as S K' O w fr=>q val s' B' f as ((S1.trans g).trans S) K' O w fr
def IX(e:ō a i=À r)(D:m≠2)(f:ĭ s.heap B a m o as)(hi:VR B i iv)(hB:ŀ B s.heap.get?)
  (b:∀o i,subscripted fq false o i=jV [o,i] (wy o i)):Op X A B s (nM qg fq o iv) r 0:=by
 induction f with
 |z h=>exact EJ e h hi hB b
 |two=>exact ó rfl D
 |@one xs a items g c v=>
  refine Op.flat hB λQ E q=>?_;refine nI (M:=λt i C=>t=.Ñ xs->C=r->VR B i iv->wq X A (nM qg fq (.ref a) iv) Q E s) e (λxs i j y p e _ hi=>?_) (λ_ _ _ _ _ e=>nomatch e) (λ_ _ _ _ _ _ e=>nomatch e) rfl rfl hi;apply ê hi;intro u;cases e;exact AV y p g.isList v (λx=>q x s.toks) b
def At.Hk(a:At h env x u)(b:At h env x v):u=v:=by
 rcases a with⟨f,m1,E,H⟩|⟨f,O,C,J⟩
 .rcases b with⟨c,m2,w,t⟩|⟨c,D,l2,y⟩
  .refine JW E λo es M m p _ I=>?_;refine JW w λL G K j g _ q=>?_;obtain rfl:=à<|m.symm.trans j;obtain rfl:=(c0<|p.symm.trans g).1;exact à<|t▸H▸((I x).symm.trans<|q x)
  .rw[f] at c;rcases c with c|c
   .exact nomatch c
   .exact nomatch c.1
 .rcases b with⟨c,m2,w,t⟩|⟨c,D,l2,y⟩
  .rw[c] at f;rcases f with f|f
   .exact nomatch f
   .exact nomatch f.1
  .obtain rfl:=à<|C.symm.trans l2;refine ì J λo m p=>?_;refine ì y λL j g=>?_;obtain rfl:=à<|m.symm.trans j;exact à<|Data.cell.inj<|p.symm.trans g
def SE.ä(hx:sc.δ.lookup x=À i)(hi:SE X k sc fq e)(M:∀o i,subscripted fq false o i=jV [o,i] (wy o i):=by intro _ _;rfl)
  (hd:(x==("__debug__":Str))=false:=by decide):SE X k sc (.Subscript (.Name x p') fq p) (.ä i e):=by
 intro env he σ v m I c;refine sd c λC y m2 b w n r' h0 h2 h1 hn h3=>?_
 .intro P B J A s Q E R K q;refine K.Æ x i C.1 C.2 hx h0 λval a _ _=>?_;refine Ş<|j5 (a.load K.kind<|(hi env he σ y m2 b h2).é P B J A s _ _ R K λvb s2 B2 g W t f G Y H=>?_) hd;refine f.Æ x i w n hx h1 λj h O' L=>?_;obtain rfl:=(t.names x val a).Hk h;exact(IX h3 hn O' G.vr f.base M).use f λval s' B' as S K' O D fr=>q val s' B' g as (t.trans S) K' O D fr
end
def ç(X:Cx)(k:Á)(fv:Ë)(F:Ã V->Ï (V×Á)):Prop:=
 ∀(A:q6)(B:PB)(s:ŕ)(vs:Ã V)(v:V)(m:Á)(vals:Ã Ë),F vs=À (v,m)->ţ k A->(∀a o,X.T.get? a=À o->s.heap.get? a=À o)->ŀ B s.heap.get?->ě B vs vals->
  Op X A B s (call fv vals) v m
def ç.HI{C:Type}{p:V->Ï C}{c:C->V}(j:∀{a x},p a=À x->a=c x){f:C->Ï (V×Á)}(H:∀{A B s i v m x},f i=À (v,m)->ţ k A->ŀ B s.heap.get?->VR B (c i) x->Op X A B s (call fv [x]) v m):ç X k fv (uE p f):=
 λA B s vs v m vals g R top hB b=>bJ j (M:=λvs=>ě B vs vals->Op X A B s (call fv vals) v m) g (λi h b=>BN (M:=λvals=>Op X A B s (call fv vals) v m) b λx hx=>H h R hB hx) b
def ç.of2{C D:Type}{p:V->Ï C}{q:V->Ï D}{c:C->V}{d:D->V}(g:∀{a x},p a=À x->a=c x)(hq:∀{a x},q a=À x->a=d x){f:C->D->Ï (V×Á)}
  (H:∀{A B s i j v m x y},f i j=À (v,m)->ţ k A->ŀ B s.heap.get?->VR B (c i) x->VR B (d j) y->Op X A B s (call fv [x,y]) v m):ç X k fv (HK p q f):=
 λA B s vs v m vals t R top hB b=>iT g hq (M:=λvs=>ě B vs vals->Op X A B s (call fv vals) v m) t (λi j h b=>Nv (M:=λvals=>Op X A B s (call fv vals) v m) b λx y hx o=>H h R hB hx o) b
inductive Callee(X:Cx)(sc:Sc)(f:Str):Ë->Prop
 |builtin {id} (hk:sc.kinds.lookup f=À .globalImplicit) (hm:X.mg f=Ä) (hb:lK f=À (.builtin id)) (hn:f≠"__name__"):Callee X sc f (.builtin id)
 |type {T} (hk:sc.kinds.lookup f=À .globalImplicit) (hm:X.mg f=Ä) (hb:lK f=À (.type T)) (hn:f≠"__name__"):Callee X sc f (.type T)
 |func {a o fd} (hk:sc.kinds.lookup f=À .globalImplicit) (hm:X.mg f=À (.ref a)) (ho:X.T.get? a=À o) (hd:o.data=.func fd):Callee X sc f (.ref a)
section
variable{X:Cx}{k:Á}{sc:Sc}
def Callee.kind(c:Callee X sc f fv):sc.kinds.lookup f=À .globalImplicit:=by cases c<;>assumption
def Callee.load(c:Callee X sc f fv)(j:env.scope.names=sc.kinds)(K:Ok X.T P B env δ wr σ α s.heap)
  (q:Q fv s) (t:(f==("__debug__":Str))=false):wq X A (eval (.Name f p) env) Q E s:=by
 have a:s.heap.Ns env.globals X.mg:=Å K.glob.1<|X.ng.keeps K.top;have g:s.heap.Ns env.builtins X.mb:=Å K.glob.2<|X.nb.keeps K.top;have o:env.kindOf f=À .globalImplicit:=by unfold bC;exact Å j c.kind
 apply yc K.kind o ?_ t
 induction c with
 |builtin _ m b h=>exact Fz a m g ((X.bl f h).trans b) q
 |type _ m b h=>exact Fz a m g ((X.bl f h).trans b) q
 |func _ m _ _=>exact xu a m q
def Ĝ(H:eV X k sc es p):(ş pos<|ϧ es env).any (·.1)=false:=by
 induction H with
 |nil=>rfl
 |@cons e pe es p s h t ih=>
  have a:ş pos (ϧ (e::es) env)=(false,eval e env)::ş pos (ϧ es env):=by
   cases e<;>first|rfl|injection s
  refine Å a<|Å any_cons<|Å ih ?_;rfl
def eV.args(H:eV X k sc (e::es) i6)
  (h:ϛ M A (tZ<|ş pos<|ϧ (e::es) env) (λvs s'=>Q ⟨vs,[]⟩ s') E s):ϛ M A (jt f true (ş pos<|ϧ (e::es) env) []) Q E s:=by
 cases H with
 |cons a _ _=>
  have b:ş pos (ϧ (e::es) env)=(false,eval e env)::ş pos (ϧ es env):=by
   cases e<;>first|rfl|injection a
  rw[b] at h⊢;exact evalArgs_plain h
def SE.call(c:Callee X sc f fv)(H:eV X k sc (e::es) i6)(W:ç X k fv F)
  (y:(f==("__debug__":Str))=false:=by decide):SE X k sc (.Call (.Name f p) (e::es) [] pos) (.fn F i6):=by
 intro env C σ v m I L;refine kq L λxs Ø r m1 M h2=>?_;intro P B J A s Q E R K q;apply gQ<|c.load C K ?_ y;have key:wq X A (jt fv true (ş pos<|ϧ (e::es) env) []) (λa g=>(∀b o,X.T.get? b=À o->g.heap.get? b=À o)/\wq X A (Î fv ([]++a.pos) a.kw) Q E g) E s:=
  H.args (H.spliced C pos M P B J A s _ _ R K λvals s1 Y x S1 j t=>⟨j.top,(W A Y s1 xs r m1 vals h2 R j.top j.base t).use j λval s' B' as S K' O D fr=>q val s' B' x as (S1.trans S) K' O D fr⟩)
 induction c with
 |builtin _ _ _ _=>exact gm (Ĝ H)<|mz key (λ_ _ h=>h.2) λ_ _ h=>h
 |type _ _ _ _=>exact ϸ (Ĝ H)<|mz key (λ_ _ h=>h.2) λ_ _ h=>h
 |@func a o fd _ _ G y=>exact lJ (o:=o) (fd:=fd)<|mz key (λ_ _ h=>⟨⟨h.1 _ _ G,y⟩,h.2⟩) λ_ _ h=>h
end
structure CB(T:pF)(name:Str)(id:pF):Prop where
 pa:PlainAttrs T
 slot:Slot T name id
 ty:typeOf (.builtin id)=pure (.type "method_descriptor")
inductive jc:pF->V->Prop
 |str {s}:jc "str" (.str s)
 |int {i}:jc "int" (.int i)
 |Ñ {xs}:jc "list" (.Ñ xs)
section
variable{X:Cx}{k:Á}{sc:Sc}
def jc.type{s:ŕ}(r:jc T v)(h:VR B v x)(hB:ŀ B s.heap.get?):s.TypeIs x T/\∀a,x=.ref a->∃b,s.heap.get? a=À b/\b.dict=Ä:=by
 induction r with
 |str=>apply ύ h;intro _;exact⟨xp _ _ _,λ_ e=>nomatch e⟩
 |int=>apply ê h;intro _;exact⟨rC _ _ _,λ_ e=>nomatch e⟩
 |Ñ=>apply Ł h;intro _ _ _ _ o c f hx g;exact⟨(đ hB o c f).typeIs,λa e=>by injection e with e;subst e;exact⟨_,hB _ _ o,hx.1⟩⟩
def eV.QA{es:Ã Expr}(H:eV X k sc es i6)(a:es.length<20):
  ((ş pos<|ϧ es env).all (λx=>!x.1)&&(backToKw pos<|keywordEach [] env).all (λx=>x.1.isSome)&&decide (es.length+([]:Ã Keyword).length+(if([]:Ã Keyword).isEmpty then 0 else 1)<30))=true:=by
 have h:=Ĝ H (pos:=pos) (env:=env);have b:(ş pos<|ϧ es env).all (λx=>!x.1)=true:=by
  refine Å (pI<|ę ..) ?_;intro x hx;cases e:x.1 with
  |false=>rfl
  |true=>have h:=List.any_eq_false.1 h;exact ó e<|h x hx
 refine Å b ?_;have:es.length+([]:Ã Keyword).length+(if([]:Ã Keyword).isEmpty=true then 0 else 1)<30:=by simp;exact(A1 530445930491926) a
 simp only[aaB,ix this,Bool.and_true];rfl
def SE.vu{name:Str}{T id:pF}(M:CB T name id)(ho:SE X k sc o po)(H:eV X k sc es G)(hF:ç X k (.builtin id) F)
  (hr:∀v vs r,F (v::vs)=À r->jc T v) (b:∀env,attributeBase o name env (eval o env)=eval o env:=by intro _;rfl) (j:(zF.endLine==pos.line)=true:=by rfl) (hn:es.length<20:=by decide):
  SE X k sc (.Call (.Attribute o name zF) es [] pos) (.fn F (po::G)):=by
 intro env he σ v m ø hv;refine kq hv λxs I r m2 h1 h2=>aV (N:=λxs I=>F xs=À (r,m2)->Ev X k env sc.dl sc.wl σ _ r m2 I) h1 (λx m1 Ø R C h0 c h2=>?_) h2;intro P B α A s Q E hR K q;apply pY (b env) (H.QA hn) j<|(ho env he σ x m1 Ø h0).é P B α A s _ _ hR K λva W L f Ab S1 K1 O1 NN Bo=>?_;apply Ö (λt1 t2=>?_)<|(hr _ _ _ h2).type O1.vr K1.base;refine⟨T,id,M.pa,M.slot,M.ty,t1,t2,?_⟩;apply gm<|Ĝ H;have D:∀vals p g a,Ķ env P W p L g->Ok X.T P g env sc.dl sc.wl C a p.heap->ě g R vals->wq X A (Î (.builtin id)<|[va]++vals) Q E p:=λvals p g a Y J y=>
  (hF A g p (x::R) r m2 (va::vals) h2 hR J.top J.base<|.cons (O1.vr.mono Y.le) y).use J λval s' B' as S K' O hP fr=>q val s' B' a as ((S1.trans Y).trans S) K' O hP fr
 induction H with
 |nil=>
  exact evalArgs_nil3 (â (M:=λR _=>ě L R []) c .nil|>D [] W L f (.refl _ _ _ _) (â (M:=λ_ C=>Ok X.T P L env sc.dl sc.wl C f W.heap) c K1))
 |@cons e pe es G hs h t=>
  exact eV.args (.cons hs h t)<|eV.spliced (.cons hs h t) he pos c P L f A W _ _ hR K1 λvals p g a Y J y=>D vals p g a Y J y
def xm(h:x.length<=1000000)(q:∀tk u,Q (.int x.length u) {s with toks:=tk}):wq X A (Î (.builtin "len") [.str x t]) Q E s:=
 call_len_gives (xp s x t) F.slot_str_len F.entry_str_len (F.args_str_len_1 _) (gives_str_len x t) (by exact(A1 986441)) (by omega) (q _ _)
def ă.length(H:ă h B cz as):as.length=cz.length:=by
 induction H with
 |nil=>rfl
 |cons _ _ _ _ t=>exact Ù (·+1) t
def len_own(h:dD v=À n)(O:ĭ s.heap B v m val as)(hB:ŀ B s.heap.get?):Op X A B s (Î (.builtin "len") [val]) (.int n) 0:=by
 refine Op.flat hB λQ E q=>?_;have Ñ:∀{a:Ĳ}{items:gS Ë}{l:Á},s.heap.IsList a items->items.size=l->l<=1000000->n=l->wq X A (Î (.builtin "len") [.ref a]) Q E s:=by
  intro a items l b hz y f;subst hz f;exact PyProof.Rows.len_list b (by omega)<|q _ _ .int
 induction O with
 |z c=>
  apply BH (M:=λv=>VR B v x->_) h (λxs b f c=>?_) (λx b f c=>?_) c
  .apply Ł c;intro a o _ items g j C _ c;exact Ñ (đ hB g j C) (by exact Å c.length rfl) b f
  .apply ύ c;intro t;subst f;exact xm b λtk u=>q _ _ .int
 |one b _ c=>exact Ϲ h λhz h=>Ñ b.isList (by exact Å c.length rfl) hz (à h).symm
 |two b _ p _=>exact Ϲ h λhz h=>Ñ b.isList (by exact Å (É ..)<|Đ (p.length ..)<|É _) hz (à h).symm
def SE.č(c:Callee X sc "len" (.builtin "len"))(hx:sc.δ.lookup x=À i)(t:(x==("__debug__":Str))=false:=by decide):
  SE X k sc (.Call (.Name "len" p) [.Name x p'] [] pos) (.č i):=by
 intro env j σ v m b g;refine sG g λw n l o y=>?_;intro P B f A s Q E R K q;exact K.Æ x i w n hx o λval a O h=>gQ<|c.load j K (gm rfl<|FV<|ua<|j5 (a.load K.kind<|rD<|(len_own y O K.base).use K λval s' B' as S K' O h fr=>q val s' B' f as S K' O h fr) t) rfl
inductive ri(X:Cx)(k:Á)(sc:Sc):Ï Expr->PE->Prop
 |no:ri X k sc Ä (.c .none)
 |yes {e pe} (h:SE X k sc e pe):ri X k sc (À e) pe
def ri.ev(h:ri X k sc o pe)(f:env.scope.names=sc.kinds)(b:ß pe σ=À (v,m,a)):Ev X k env sc.dl sc.wl σ (yI o env) v 0 a:=by
 induction h with
 |no=>
  apply Ϝ (M:=λv _ a=>Ev X k env sc.dl sc.wl σ (yI Ä env) v 0 a) b;intro P B c A s Q E R K q;exact Å (evalPart_none ..)<|õ<|q .none s B c [] (.refl _ _ _ _) K (.z .none) (λ_ h=>ϭ h) λ_ _ _ _ _ h=>ϭ h
 |yes h=>exact Å (evalPart_some ..)<|(h env f σ v m a b).é
def part_of{v:V}{B:PB}(h:ϳ v=À o)(a:VR B v x):IsPart x o/\∃l:Ï (Â×Tok),x=ph l/\l.map (·.1)=o:=by
 cases v with
 |none=>obtain rfl:=à h;apply ϯ a;exact⟨.none,Ä,rfl,rfl⟩
 |int=>obtain rfl:=à h;apply ê a;intro t;exact⟨.int _ _,À (_,_),rfl,rfl⟩
 |_=>exact ÿ h
def SE.bp{a lo hi:PE}(hv:SE X k sc (.Name x p') a)(hl:ri X k sc lower lo)(hu:ri X k sc upper hi):
  SE X k sc (.Subscript (.Name x p') (.Slice lower upper Ä p) pos) (.bp a lo hi):=by
 intro env he σ v m ø Co;refine xa Co λx1 m1 Ø y m2 dM z m3 Y r m4 H h2 h3 h4=>?_;have base:∀{x1 P B α A s E},ß a σ=À (x1,m1,Ø)->ţ k A->Ok X.T P B env sc.dl sc.wl σ α s.heap->∀(Q':Ë->Ë->Ë->ŕ->Prop),(∀va O S f L g,Ķ env P s f B L->Ok X.T P L env sc.dl sc.wl Y g f.heap->VR L x1 va->VR L y O->VR L z S->Q' va O S f)->
   wq X A (eval (.Name x p') env) (λo Hf=>wq X A (yI lower env) (λO UY=>wq X A (yI upper env) (λS C8=>Q' o O S C8) E UY) E Hf) E s:=λH hR K Q' q'=>
  (hv env he σ _ m1 Ø H).é _ _ _ _ _ _ _ hR K λva s1 B1 eI Ab S1 K1 O1 NN Bo=>(hl.ev he h2) _ B1 eI _ s1 _ _ hR K1 λO s2 B2 cR Nu S2 K2 O2 Ks OJ=>(hu.ev he h3) _ B2 cR _ s2 _ _ hR K2 λS f L g Zl W R O3 Zf Z6=>
   q' va O S f L g ((S1.trans S2).trans W) R ((O1.vr.mono S2.le).mono W.le) (O2.vr.mono W.le) O3.vr
 have Ñ:∀{xs vs:Ã V}{I J}(G:Ã Ë->Ã Ë),ϳ y=À I->ϳ z=À J->(∀items:gS Ë,slicePick items I J Ä=(G items.toList).toArray)->(∀{B l},ě B xs l->ě B vs (G l))->xs.length<=1000000->
   ß a σ=À (.Ñ xs,m1,Ø)->Ev X k env sc.dl sc.wl σ (eval (.Subscript (.Name x p') (.Slice lower upper Ä p) pos) env) (.Ñ vs) 1 Y:=by
  intro xs vs I J G C j NS UG c H P B α A s Q E hR K q;refine wpAny_Subscript_list_slice<|base H hR K _ λva O S f L g W R h5 h6 h7=>?_;apply Ł h5;intro l o n items ho hc hd _ lH;refine⟨l,items,_,_,rfl,đ R.base ho hc hd,ú (Đ Ì<|Đ lH.length c)<|by decide,(part_of C h6).1,(part_of j h7).1,?_⟩;have x0:=ό R.base {cls:=.type "slice",data:=.fields #[O,S,.none]};rw[NS,<-e0];exact NL (uT (s:={f with heap:=f.heap.push {cls:=.type "slice",data:=.fields #[O,S,.none]}}) (R.ext x0) (UG lH) f.toks) λx1 x2 x3 x4 x5=>(q _ _ L g _ ((W.trans<|x0.kB R.hi (tk:=f.toks)).trans x1) x2 x3 x4 x5)
 refine ot (M:=λx1 r m4=>ß a σ=À (x1,m1,Ø)->Ev X k env sc.dl sc.wl σ (eval (.Subscript (.Name x p') (.Slice lower upper Ä p) pos) env) r m4 Y) h4 (λst I J C j c H P B α A s Q E hR K q=>?_) (λxs b C j c H=>?_) (λxs b C j c H=>?_) H
 .apply wpAny_Subscript_str_slice<|base H hR K _ λva O S f L g W R h5 h6 h7=>?_;apply ύ h5;intro t;obtain⟨_,l,rfl,Sg⟩:=part_of C h6;obtain⟨_,u,rfl,Y7⟩:=part_of j h7;refine⟨_,t,l,u,rfl,rfl,rfl,?_⟩;have x:=ό R.base {cls:=.type "slice",data:=.fields #[ph l,ph u,.none]};have D:∀tk u',Q (.str (ľ st I J) u') {f with heap:=f.heap.push {cls:=.type "slice",data:=.fields #[ph l,ph u,.none]},toks:=tk}:=λtk u'=>
   q _ _ L g [] (W.trans<|x.kB R.hi) (R.ext x) (.z .str) (λ_ h=>ϭ h) λ_ _ _ _ _ h=>ϭ h
  unfold sliceMade slicePicked;unfold ľ at D c;refine Å Sg<|Å Y7 ?_;simp only[Option.map_none,getD_none,eE,aaB];split
  .rename_i hc;rw[ť hc] at D;exact D f.toks t
  .rename_i hc;rw[È hc] at c;simp only[È hc] at D;exact⟨ú c<|by decide,D (f.toks+1) f.toks⟩
 .obtain⟨b,rfl⟩:=et c.1;exact Ñ (take b) C j (λitems=>slicePick_upto' items b) (λh=>h.take b) c.2 H
 .obtain⟨b,rfl⟩:=et c.1;exact Ñ (drop b) C j (λitems=>slicePick_from' items b) (λh=>h.drop b) c.2 H
end
structure ig(X:Cx)(A:q6)(te:Expr)(I:Ĳ)(fp wr:Ã Ĳ)(items:Ã V)(zy:PB)(St:Á->gk->Prop):Prop where
 sub:∀b∈wr,b∈fp
 live:∀i h,St i h->∀b∈wr,∃o,h.get? b=À o
 frame:∀i h h',St i h->(∀b∈fp,∀o,h.get? b=À o->h'.get? b=À o)->St i h'
 item:∀i v(s:ŕ)(B:PB)(Q:Ë->ŕ->Prop)(E:Ë->ŕ->Prop),items[i]?=À v->St i s.heap->ŀ B s.heap.get?->ŀ zy B->(∀b∈wr,B b=Ä)->
  (∀val h' tk B',(∀b o,b∉wr->s.heap.get? b=À o->h'.get? b=À o)->ŀ B B'->ŀ B' h'.get?->(∀a o,B' a=À o->B a=À o\/s.heap.get? a=Ä)->St (i+1) h'->VR B' v val->Q val {s with heap:=h',toks:=tk})->
  wq X A (o8<|.ref I) (λr s1=>match r with|none=>False|some val=>wq X A (hJ te (.ref I) val) (λ_ s2=>Q val s2) E s1) E s
 done:∀(s:ŕ)(Q:Ï Ë->ŕ->Prop)(E:Ë->ŕ->Prop),St items.length s.heap->
  (∀h' tk,(∀b o,b∉wr->s.heap.get? b=À o->h'.get? b=À o)->Q Ä {s with heap:=h',toks:=tk})->wq X A (o8<|.ref I) Q E s
 self:∀i(s:ŕ)(Q:Ë->ŕ->Prop)(E:Ë->ŕ->Prop),St i s.heap->Q (.ref I) s->wq X A (pN<|.ref I) Q E s
def Off(env:ey)(δ:Str->Ï Á)(σ:St)(α:Á->Ã Ĳ)(fp:Ã Ĳ):Prop:=
 env.locals∉fp/\(∀x c,env.cells.lookup x=À c->c∉fp)/\(∀x i,δ x=À i->(σ.get i).isSome=true->∀a∈α i,a∉fp)/\∀a∈bS,a∉fp
section
variable{X:Cx}{k:Á}{sc:Sc}{T:gk}{P P':Ĳ->Prop}{B B':PB}{env:ey}{δ:Str->Ï Á}{wr:Str->Ò}{σ ø:St}{α:Á->Ã Ĳ}{h h':gk}{fp ws:Ã Ĳ}
def ă.uI(g:∀b o,b∉ws->h.get? b=À o->h'.get? b=À o)(H:ă h B cz as):(∀a∈as,a∉ws)->ă h' B cz as:=by
 induction H with
 |nil=>exact λ_=>.nil
 |cons f hB v _ t=>exact λn=>.cons (IsL.keep f λ_=>g _ _<|n _<|.head _) hB v<|t λa c=>n a<|.tail _ c
def ĭ.uI(g:∀b o,b∉ws->h.get? b=À o->h'.get? b=À o)(O:ĭ h B v m val as)(n:∀a∈as,a∉ws):ĭ h' B v m val as:=by
 induction O with
 |z f=>exact .z f
 |one c hB f=>exact .one (ì c λo ho r=>⟨o,g _ _ (n _<|.head _) ho,r⟩) hB f
 |two c hB j q=>exact .two (ì c λo ho r=>⟨o,g _ _ (n _<|.head _) ho,r⟩) hB (j.uI g λa p=>n a<|.tail _ p) q
def ă.R8(b:ŀ B B')(f:∀a o,h.get? a=À o->B a=Ä->B' a=Ä)(H:ă h B cz as):ă h B' cz as:=by
 induction H with
 |nil=>exact .nil
 |cons c hB v _ t=>exact .cons c (f _ _ c.choose_spec.1 hB) (v.mono b) t
def ĭ.R8(b:ŀ B B')(f:∀a o,h.get? a=À o->B a=Ä->B' a=Ä)(O:ĭ h B v m val as):ĭ h B' v m val as:=by
 induction O with
 |z g=>exact .z<|g.mono b
 |one c hB g=>exact .one c (f _ _ c.choose_spec.1 hB)<|g.mono b
 |two c hB j p=>exact .two c (f _ _ c.choose_spec.1 hB) (j.R8 b f) p
def Ok.eS(K:Ok T P B env δ wr σ α h)(hk:∀b o,b∉ws->h.get? b=À o->h'.get? b=À o)(gi:∀b∈ws,P b\/∃o,h'.get? b=À o)
  (i4:Off env δ σ α ws) (hT:∀b∈ws,T.get? b=Ä) (nx:ŀ B B') (PA:ŀ B' h'.get?) (mT:∀a o,B' a=À o->B a=À o\/h.get? a=Ä):Ok T P B' env δ wr σ α h':=by
 have hn:∀a o,h.get? a=À o->B a=Ä->B' a=Ä:=λa o e hb=>by
  cases e':B' a with
  |none=>rfl
  |some o'=>
      rcases mT a o' e' with q|q
      .exact ÿ<|hb.symm.trans q
      .exact gC<|e.symm.trans q
 exact{
  top:=λa o e=>hk a o (λha=>by rw[hT a ha] at e;exact ÿ e) (K.top a o e)
  low:=K.low
  hi:=λa ha=>by
   by_cases hw:a∈ws
   .rcases gi a hw with q|⟨o',JH⟩
    .exact q
    .exact ÿ<|ha.symm.trans JH
   .apply K.hi a;cases e:h.get? a with
    |none=>rfl
    |some o=>rw[hk a o hw e] at ha;exact gC ha
  base:=PA
  kind:=K.kind
  glob:=K.glob
  loc:=by
   apply Ϸ K.loc;rintro⟨m,o,es,ep,ho,r⟩ hp hb;exact⟨⟨m,o,es,ep,hk _ _ i4.1 ho,r⟩,hp,hn _ _ ho hb⟩
  cells:=K.cells
  ϓ:=K.ϓ
  Ė:=λy c hy=>wO (K.Ė y c hy) λv o ho hd=>⟨v,o,hk _ _ (i4.2.1 y c hy) ho,hd⟩
  wrs:=λy hy=>by
   rcases K.wrs y hy with q|⟨q,c,v,h1,⟨o,ho,hd⟩,h3,h4⟩
   .exact .inl q
   .exact .inr ⟨q,c,v,h1,⟨o,hk _ _ (i4.2.1 y c h1) ho,hd⟩,h3,hn _ _ ho h4⟩
  inj:=K.inj
  vars:=λy i v m hi hv=>by
   refine K.Æ y i v m hi hv λval h1 h2 h3=>?_;refine⟨val,?_,(h2.R8 nx hn).uI hk<|i4.2.2.1 y i hi<|by refine Å hv ?_;rfl,h3⟩;rcases h1 with⟨kd,m',⟨o,es,ep,ho,r⟩,e⟩|⟨kd,c,hl,o,ho,hd⟩
   .exact .inl ⟨kd,m',⟨o,es,ep,hk _ _ i4.1 ho,r⟩,e⟩
   .exact .inr ⟨kd,c,hl,o,hk _ _ (i4.2.1 y c hl) ho,hd⟩
  apart:=K.apart
  ex:=λa ha=>(K.ex a ha).elim λhp e=>⟨hp,e.go (hk a · (i4.2.2.2 a ha)) nx<|e.alive.elim λ_ ho=>hn a _ ho e.fresh⟩}
def Ok.outside(K:Ok T P B env δ wr σ α h)(hk:∀b o,b∉ws->h.get? b=À o->h'.get? b=À o)(gi:∀b∈ws,∃o,h'.get? b=À o)
  (i4:Off env δ σ α ws) (hT:∀b∈ws,T.get? b=Ä) (nx:ŀ B B') (PA:ŀ B' h'.get?) (mT:∀a o,B' a=À o->B a=À o\/h.get? a=Ä):Ok T P B' env δ wr σ α h':=
 K.eS hk (λb hb=>.inr<|gi b hb) i4 hT nx PA mT
def Ok.shrink(K:Ok T P B env δ wr σ α h)(g:Off env δ σ α fp)(j:∀b∈fp,∃o,h.get? b=À o):Ok T (λa=>P a/\a∉fp) B env δ wr σ α h:=
 {K with
  low:=λa f=>K.low a f.1
  hi:=λa f=>⟨K.hi a f,λG=>å (j a G) λo C=>ÿ<|f.symm.trans C⟩
  loc:=⟨K.loc.1,⟨K.loc.2.1,g.1⟩,K.loc.2.2⟩
  wrs:=λy D=>by
   rcases K.wrs y D with q|⟨q,c,v,p,w,t,E⟩
   .exact .inl q
   .exact .inr ⟨q,c,v,p,w,⟨t,g.2.1 y c p⟩,E⟩
  vars:=λy i v m hi x=>by
   exact K.Æ y i v m hi x λval p w t=>⟨val,p,w,λa f=>⟨t a f,g.2.2.1 y i hi (Å x rfl) a f⟩⟩
  ex:=λa f=>(K.ex a f).elim λhp e=>⟨⟨hp,g.2.2.2 a f⟩,e⟩}
def Ok.grow(K:Ok T P B env δ wr σ α h)(b:∀a,P a->P' a)(low:∀a,P' a->T.get? a=Ä):Ok T P' B env δ wr σ α h:=
 {K with
  low:=low
  hi:=λa f=>b a (K.hi a f)
  loc:=⟨K.loc.1,b _ K.loc.2.1,K.loc.2.2⟩
  wrs:=λy t=>by
   rcases K.wrs y t with q|⟨q,c,v,j,o,g,w⟩
   .exact .inl q
   .exact .inr ⟨q,c,v,j,o,b _ g,w⟩
  vars:=λy i v m hi p=>by
   exact K.Æ y i v m hi p λval j o g=>⟨val,j,o,λa f=>b a<|g a f⟩
  ex:=λa f=>(K.ex a f).elim λhp e=>⟨b a hp,e⟩}
def Step.grow(S:Step P s s' B B')(b:∀a,P a->P' a):Step P' s s' B B':=
 ⟨S.eq,λa o e n=>S.kept a o e λh=>n<|b a h,S.le,λa o e=>(S.new a o e).imp id<|b a⟩
def Ok.Hi(K:Ok T (λa=>P a/\a∉fp) B env δ wr σ α h)(j:∀x c,env.cells.lookup x=À c->c∉fp)(f:∀b∈ws,b∈fp):Off env δ σ α ws:=
 ⟨λm=>K.loc.2.1.2<|f _ m,λx c hx m=>j x c hx<|f _ m,λx i hx hi a g m=>by
  exact å (İ.1 hi) λw p=>K.Æ x i w.1 w.2 hx p λu _ _ o=>(o a g).2<|f _ m,λa g m=>(K.ex a g).1.2<|f _ m⟩
end
inductive ip(sc:Sc):Expr->kJ->Prop
 |one {x p i} (hx:sc.δ.lookup x=À i) (hw:sc.wr.contains x=true):ip sc (.Name x p) (.one i)
 |two {x y p p' n q i j} (hx:sc.δ.lookup x=À i) (hw:sc.wr.contains x=true) (hy:sc.δ.lookup y=À j) (Ul:sc.wr.contains y=true):ip sc (.Tuple [.Name x p,.Name y p'] n q) (.two i j)
 |three {x y z p p' NJ n q i j l} (hx:sc.δ.lookup x=À i) (hw:sc.wr.contains x=true) (hy:sc.δ.lookup y=À j) (Ul:sc.wr.contains y=true) (hz:sc.δ.lookup z=À l) (YE:sc.wr.contains z=true):
  ip sc (.Tuple [.Name x p,.Name y p',.Name z NJ] n q) (.three i j l)
section
variable{X:Cx}{k:Á}{sc:Sc}{P:Ĳ->Prop}{B:PB}{env:ey}{σ ø:St}{α:Á->Ã Ĳ}{A:q6}{s:ŕ}
def IP(K:Ok X.T P B env sc.dl sc.wl σ α s.heap)(hx:sc.δ.lookup x=À i)(w:sc.wr.contains x=true)
  (O:ĭ s.heap B v m val as) (c:∀a∈as,P a) (fr:gB sc.dl σ α as)
  (q:∀s' b,Step P s s' B B->Ok X.T P B env sc.dl sc.wl (σ.ö i v m) b s'.heap->Q () s'):ϛ M A (bindName env x val) Q E s:=
 wz (oA K w hx O c fr λs' S K'=>q s' _ S K')
def eT(K:Ok X.T P B env sc.dl sc.wl σ α s.heap)(hx:sc.δ.lookup x=À i)(w:sc.wr.contains x=true)
  (O:VR B v val) (q:∀s' a,Step P s s' B B->Ok X.T P B env sc.dl sc.wl (σ.ö i v 0) a s'.heap->Q () s'):ϛ M A (bindName env x val) Q E s:=
 IP K hx w (.z O) (λ_ h=>ϭ h) (λ_ _ _ _ _ h=>ϭ h) q
def iU{M:Ë->Prop}(h:VR B (.ñ vs) val)(hB:ŀ B s.heap.get?)(k:∀t items,s.heap.IsTuple t items->ě B vs items.toList->M (.ref t)):M val:=by
 apply jQ h;intro a o n items b f c v;exact k a items (cZ hB b f c) v
def vW(K:Ok X.T P B env sc.dl sc.wl σ α s.heap)(c:∀b o,b≠s.heap.objs.size->s.heap.get? b=À o->h'.get? b=À o):kQ s.heap h' B B:=
 ⟨λb o e=>c b o (λa=>by rw[a,ĉ] at e;exact ÿ e) e,.refl _,λb o e=>c b o (λa=>by rw[a,K.HJ<|ĉ _] at e;exact ÿ e)<|K.base b o e,λ_ _ e=>.inl e⟩
def kL(K:Ok X.T P B env sc.dl sc.wl σ α s.heap)(hx:sc.δ.lookup x=À i)(b:sc.wr.contains x=true)(O:VR B v val){t:ŭ Unit}{vs:Ã Ë}
  (q:∀s' a,Step P s s' B B->Ok X.T P B env sc.dl sc.wl (σ.ö i v 0) a s'.heap->wq X A t Q E s'):wq X A (do bF vs (assign (.Name x p) env val);t) Q E s:=
 Ü (ϗ<|Ü (m:=bc _)<|ų<|eT K hx b O q)
def yG(R:ip sc te ġ)(hh:A.handled=Ä)(K:Ok X.T P B env sc.dl sc.wl σ α s.heap)(L:ġ.ö v σ=À ø)
  (g:VR B v val) (q:∀s' f,Step P s s' B B->Ok X.T P B env sc.dl sc.wl ø f s'.heap->Q () s'):wq X A (assign te env val) Q E s:=by
 revert g q
 induction R with
 |one hx D=>exact à L▸λg q=>Ü (m:=bc _)<|ų<|eT K hx D g q
 |two hx D W p=>
  refine q9 (M:=λv ø=>VR B v val->(∀s' f,Step P s s' B B->Ok X.T P B env sc.dl sc.wl ø f s'.heap->Q () s')->wq X A (assign _ env val) Q E s) L λa b g q=>?_;apply iU g K.base;intro t items j o;obtain⟨l⟩:=items;revert j;apply Nv (vals:=l) o;intro _ _ G J j
  .refine gN hh j rfl rfl λh' I=>?_;have x:=vW K I;refine(?_:ϛ _ A (do bF [_] (assign (.Name _ _) env _);bV _ _) Q E _);refine kL (s:={s with heap:=h'}) (K.ext x) hx D G λs2 cR S Y=>?_;refine(?_:ϛ _ A (do bF [] (assign (.Name _ _) env _);bV _ _) Q E _);exact kL Y W p J λs3 y S3 H=>(õ<|q s3 y (((x.step K.hi (tk:=s.toks)).trans S).trans S3) H)
 |three hx D W p hz C=>
  refine qP (M:=λv ø=>VR B v val->(∀s' f,Step P s s' B B->Ok X.T P B env sc.dl sc.wl ø f s'.heap->Q () s')->wq X A (assign _ env val) Q E s) L λa b c g q=>?_;apply iU g K.base;intro t items j o;obtain⟨l⟩:=items;revert j;apply Le (vals:=l) o;intro _ _ _ G J vc j
  .refine gN hh j rfl rfl λh' I=>?_;have x:=vW K I;refine(?_:ϛ _ A (do bF [_,_] (assign (.Name _ _) env _);bV _ _) Q E _);refine kL (s:={s with heap:=h'}) (K.ext x) hx D G λs2 cR S Y=>?_;refine(?_:ϛ _ A (do bF [_] (assign (.Name _ _) env _);bV _ _) Q E _);refine kL Y W p J λs3 y S3 H=>?_;refine(?_:ϛ _ A (do bF [] (assign (.Name _ _) env _);bV _ _) Q E _);exact kL H hz C vc λs4 O S4 K4=>(õ<|q s4 O ((((x.step K.hi (tk:=s.toks)).trans S).trans S3).trans S4) K4)
end
def SX(X:Cx)(k:Á)(sc:Sc)(F:Á)(s:DA)(p:PS):Prop:=
 ∀env,env.scope.names=sc.kinds->∀σ o a,cX F p σ=À (o,a)->Ex X k env sc.dl sc.wl σ (exec s env) o a
def SS(X:Cx)(k:Á)(sc:Sc)(F:Á)(s:Ã DA)(ps:Ã PS):Prop:=
 ∀env,env.scope.names=sc.kinds->∀σ o a,ċ F ps σ=À (o,a)->Ex X k env sc.dl sc.wl σ (execs s env) o a
def dO(X:Cx)(k:Á)(sc:Sc)(t e:Expr)(f:Ã V->Ï (Ã V))(p:Ã PE):Prop:=
 ∀env,env.scope.names=sc.kinds->∀σ vs a items,ď p σ=À (vs,a)->f vs=À items->
  ∀(P:Ĳ->Prop)(B:PB)(g:Á->Ã Ĳ)(A:q6)(s:ŕ)(Q E:Ë->ŕ->Prop),ţ k A->Ok X.T P B env sc.dl sc.wl σ g s.heap->
  (∀I s' B' c fp ws St,Ķ env P s s' B B'->Ok X.T P B' env sc.dl sc.wl a c s'.heap->ig X A t I fp ws items B' St->St 0 s'.heap->(∀b∈fp,∃o,s'.heap.get? b=À o)->(∀b∈ws,P b/\B' b=Ä)->
   Off env sc.dl a c fp->items.length<=1000000->Q (.ref I) s')->
  wq X A (eval e env) (λx h=>wq X A (pN x) Q E h) E s
section
variable{X:Cx}{k:Á}{sc:Sc}{F:Á}
def SS.nil:SS X k sc F [] []:=by
 intro env c σ o b h;exact FH h λP B a A s Q E R K q=>jI<|q .next s B a (.refl _ _ _) K .next
def SS.cons{w:DA}(h:SX X k sc F w p)(t:SS X k sc F Zq ps):SS X k sc F (w::Zq) (p::ps):=by
 intro env y σ o a v;refine Ŵ (x:=cX F p σ) v λD Ø H v=>?_;intro P B G A s Q E R K q;refine Å (wK ..) ?_;apply Ü<|h env y σ D Ø H P B G A s _ _ R K λfl f c b S1 g j=>?_
 induction j with
 |next=>exact t env y Ø o a v P c b A f _ _ R g λfl J I m S L j=>q fl J I m (S1.trans S) L j
 |brk=>
  exact õ<|q .brk f c b S1 (â (M:=λ_ a=>Ok X.T P c env sc.dl sc.wl a b f.heap) v g)<|â (M:=λo _=>dR c o .brk) v .brk
 |cont=>
  exact õ<|q .cont f c b S1 (â (M:=λ_ a=>Ok X.T P c env sc.dl sc.wl a b f.heap) v g)<|â (M:=λo _=>dR c o .cont) v .cont
 |ret C=>
  exact õ<|q (.ret _) f c b S1 (â (M:=λ_ a=>Ok X.T P c env sc.dl sc.wl a b f.heap) v g)<|â (M:=λo _=>dR c o<|.ret _) v<|.ret C
def SX.ret(h:SE X k sc e pe):SX X k sc F (.Return (À e) p) (.ret pe):=by
 intro env g σ o c v;refine za v λx m Ø j=>?_;intro P B f A s Q E R K q;exact xA<|(h env g σ x m Ø j).é P B f A s _ _ R K λG C y a w S1 b O t D=>q _ C y a S1.toStep b<|.ret O.vr
def SX.Ŗ(L:cG X k sc t pt)(W:SS X k sc F a pa)(O:SS X k sc F b pb):SX X k sc F (.If t a b p) (.Ŗ pt pa pb):=by
 intro env h σ o g v;exact Ka v λx m Ø M=>⟨λJ v P B j A s Q E R K q=>sE<|L env h σ x m Ø _ M J P B j A s _ _ R K λI H c S1 C=>W env h Ø o g v P H c A I _ _ R C λfl D y f S G w=>q fl D y f (S1.toStep.trans S) G w,λJ v P B j A s Q E R K q=>sE<|L env h σ x m Ø _ M J P B j A s _ _ R K λI H c S1 C=>O env h Ø o g v P H c A I _ _ R C λfl D y f S G w=>q fl D y f (S1.toStep.trans S) G w⟩
def uV{b:Ã PS}(h:bA ġ (λσ=>ċ F b σ) (v::vs) σ=À (o,ø)):
  ∃c f a,ġ.ö v σ=À c/\ċ F b c=À (f,a)/\(match f with|.next|.cont=>bA ġ (λσ=>ċ F b σ) vs a|.brk=>À (.next,a)|.ret v=>À (.ret v,a))=À (o,ø):=by
 exact ð (x:=ġ.ö v σ) h λc g h=>ð (x:=ċ F b c) h λ⟨f,a⟩j h=>⟨c,f,a,g,j,h⟩
def Dv{D Q1:Prop}{Q2:Ë->Prop}{R:Ï (mj×St)}{g o:mj}{a f:St}{fl:Flow}(m:dR B g fl)(h:(match(generalizing:=false) g with|.next|.cont=>R|.brk=>À (.next,a)|.ret v=>À (.ret v,a))=À (o,f))
  (n:g=.next->D) (c:g=.cont->D) (b:o=.next->a=f->Q1) (r:∀v val,o=.ret v->a=f->VR B v val->Q2 val):match(generalizing:=false) fl with
  |.next|.cont=>D
  |.brk=>Q1
  |.ret v=>Q2 v:=by
 induction m with
 |next=>exact n rfl
 |cont=>exact c rfl
 |brk=>exact(â (M:=λo s=>(o=mj.next->a=s->Q1)->Q1) h λb=>b rfl rfl) b
 |ret j=>exact(â (M:=λo s=>(∀v val,o=mj.ret v->a=s->VR B v val->Q2 val)->Q2 _) h λr=>r _ _ rfl rfl j) r
inductive DE(X:Cx)(F:Á)(ġ:kJ)(bd:Ã PS)(items:Ã V)(o:mj)(ø:St)(P:Ĳ->Prop)(fp:Ã Ĳ)(env:ey)(sc:Sc)(TQ:Á->gk->Prop)(B B1:PB)(ws:Ã Ĳ)(s:ŕ)(n:Á)(s2:ŕ):Prop
 |mk (j:Á) (dM:St) (B2:PB) (cR:Á->Ã Ĳ) (e:n=items.length-j) (hj:j<=items.length) (dH:bA ġ (λσ=>ċ F bd σ) (items.drop j) dM=À (o,ø))
  (hK:Ok X.T (λa=>P a/\a∉fp) B2 env sc.dl sc.wl dM cR s2.heap) (CK:TQ j s2.heap) (hS:Step P s s2 B B2) (hB:ŀ B1 B2) (hw:∀b∈ws,P b/\B2 b=Ä)
def SX.Ū{te iter:Expr}(hi:dO X k sc te iter f ϝ)(ht:ip sc te ġ)(hb:SS X k sc F body b)
  (hs:∀env x,foldedSetIterable iter env x=pure x:=by intro _ _;rfl):SX X k sc F (.For te iter body [] pos) (.Ū ġ f ϝ b):=by
 intro env he σ o ø hv;refine Gr hv λvs Ø items h1 h2 hv=>?_;intro P B α A s Q E hR K q;apply wpAny_For (hi env he σ vs Ø items h1 h2 P B α A s _ _ hR K λI s1 B1 eI fp ws St S1 K1 D CK gi LA i4 uy=>?_)<|hs env;apply codeAny_forLoop_any (DE X F ġ b items o ø P fp env sc St B B1 ws s) ?_ items.length ⟨0,Ø,B1,eI,by simp,Ϫ _,by simpa using hv,K1.shrink i4 gi,CK,S1.toStep,.refl _,LA⟩
 .intro n s2 hh;refine gn λG iD=>?_;obtain⟨j,dM,B2,cR,en,hj,dH,K2,JG,S2,X1,uM⟩:=hh;clear h1 h2 hv;have LN:Off env sc.dl dM cR ws:=K2.Hi i4.2.1 D.sub;have Xb:∀b∈ws,X.T.get? b=Ä:=λb hb=>K.low b (uM b hb).1;by_cases sy:j<items.length
  .
   obtain⟨v,Co⟩:∃v,items[j]?=À v:=⟨items[j],by simp[sy]⟩
   rw[fH sy] at dH;have Ru:items[j]=v:=by have:=Ų sy;rw[this] at Co;exact à Co
   rw[Ru] at dH;refine CI (uV dH) λCD o4 Xj h3 h4 dH=>?_;have W2:∀val h' tk B3,(∀b o,b∉ws->s2.heap.get? b=À o->h'.get? b=À o)->ŀ B2 B3->ŀ B3 h'.get?->(∀a o,B3 a=À o->B2 a=À o\/s2.heap.get? a=Ä)->St (j+1) h'->VR B3 v val->
     wq X A (assign te env val) (λ_ s3=>wq X A (execs body env) (λf C8=>match f with
      |.next|.cont=>∃m,m<n/\DE X F ġ b items o ø P fp env sc St B B1 ws s m C8
      |.brk=>Q .next C8
      |.ret v=>Q (.ret v) C8) (wG (aT X.prog X.w) A env λe s'=>xg (aT X.prog X.w) A env E e s') s3) (wG (aT X.prog X.w) A env λe s'=>xg (aT X.prog X.w) A env E e s') {s2 with heap:=h',toks:=tk}:=by
    intro val h' tk B3 hk nx PA mT Ol Bp;have RG:∀b∈ws,B3 b=Ä:=λb hb=>by
     cases e':B3 b with
     |none=>rfl
     |some o'=>
       rcases mT b o' e' with q|q
       .rw[(uM b hb).2] at q;exact ÿ q
       .exact å (D.live _ _ JG b hb) λV2 VY=>gC<|VY.symm.trans q
    have S3:Step P s2 {s2 with heap:=h',toks:=tk} B2 B3:=⟨⟨h',tk,rfl⟩,λa o e n=>hk a o (λhw=>n (uM a hw).1) e,nx,λa o e=>(mT a o e).imp id λq=>(K2.hi a q).1⟩
    refine yG (s:={s2 with heap:=h',toks:=tk}) ht hR.hd (K2.outside hk (D.live _ _ Ol) LN Xb nx PA mT) h3 Bp λs4 RX S4 K4=>?_;refine hb env he CD o4 Xj h4 _ B3 RX A s4 _ _ hR K4 λfl s5 B5 Sk S5 K5 hf=>?_;have Wj:∀b∈ws,P b/\B5 b=Ä:=λb hb=>⟨(uM b hb).1,by
     cases e':B5 b with
     |none=>rfl
     |some o'=>
       rcases S5.new b o' e' with q|q
       .rw[RG b hb] at q;exact ÿ q
       .exact ó (D.sub b hb) q.2⟩
    have gr:∀a,(P a/\a∉fp)->P a:=λa h=>h.1;have Um:Step P s s5 B B5:=((S2.trans S3).trans<|S4.grow gr).trans<|S5.grow gr;have next:(o4=.next\/o4=.cont)->∃m,m<n/\DE X F ġ b items o ø P fp env sc St B B1 ws s m s5:=λho=>by
     refine⟨items.length-(j+1),((A3 0x2e180910116109226) en sy),j+1,Xj,B5,Sk,rfl,sy,?_,K5,(D.frame _ _ _ (D.frame _ _ _ Ol λb hb o e=>S4.kept b o e λq=>q.2 hb) λb hb o e=>S5.kept b o e λq=>q.2 hb),Um,(X1.trans nx).trans S5.le,Wj⟩;rcases ho with e|e<;>rw[e] at dH<;>exact dH
    exact Dv (Q2:=λv=>Q (.ret v) s5) hf dH (λh=>next<|.inl h) (λh=>next<|.inr h) (λe1 e2=>q .next s5 B5 Sk Um (e2▸K5.grow gr K.low)<|e1▸.next) λv val e1 e2 hr=>q (.ret _) s5 B5 Sk Um (e2▸K5.grow gr K.low)<|e1▸.ret hr
   refine iD ?_;apply mz (D.item j v s2 B2 (λval s5=>wq X A (assign te env val) _ _ s5) _ Co JG K2.base X1 (λb hb=>(uM b hb).2) W2) (λr s5 hr=>?_) λ_ _ x=>x
   induction r with
   |none=>exact hr.elim
   |some val=>exact hr
  .
   have Kc:j=items.length:=((A2 17733946576902) hj sy)
   rw[Kc,rP] at dH;obtain⟨e1,e2⟩:o=.next/\dM=ø:=by cases(show À (mj.next,dM)=À (o,ø) from dH);exact⟨rfl,rfl⟩
   rw[Kc] at JG;rw[e2] at K2 LN;apply iD;exact D.done s2 _ _ JG λh' tk hk=>jI<|q .next _ B2 cR (S2.trans ⟨⟨h',tk,rfl⟩,λa o e n=>hk a o (λhw=>n (uM a hw).1) e,.refl _,λa o e=>.inl e⟩) ((K2.grow (λa h=>h.1) K.low).eS hk (λb hb=>.inl (uM b hb).1) LN Xb (.refl _) (λa o e=>hk a o (λhw=>by rw[(uM a hw).2] at e;exact ÿ e)<|K2.base a o e) λa o e=>.inl e)<|e1▸.next
end
mutual
noncomputable def Ŋ:PE->Ã Á
 |.c _=>[]
 |.Æ i=>[i]
 |.Õ _ a b=>Ŋ a++Ŋ b
 |.un _ a=>Ŋ a
 |.cmp _ a b=>Ŋ a++Ŋ b
 |.uO _ _ a b c=>Ŋ a++Ŋ b++Ŋ c
 |.cK a b=>Ŋ a++Ŋ b
 |.iQ a b=>Ŋ a++Ŋ b
 |.ite t a b=>Ŋ t++Ŋ a++Ŋ b
 |.ñ es=>dY es
 |.Ñ es=>dY es
 |.sub a i=>Ŋ a++Ŋ i
 |.ä _ e=>Ŋ e
 |.gJ _ k _=>Ŋ k
 |.bp a l h=>Ŋ a++Ŋ l++Ŋ h
 |.fn _ es=>dY es
 |.č _=>[]
 |.pop i e=>i::Ŋ e
 |.comp Ż ġ _ ϝ cond=>dY ϝ++ġ.slots++Ŋ Ż++(match cond with|none=>[]|some c=>Ŋ c)
 |.eZ Ż t1 _ kp t2 _ dG=>dY kp++(t1.slots++t2.slots)++dY dG++Ŋ Ż
noncomputable def dY:Ã PE->Ã Á
 |[]=>[]
 |e::es=>Ŋ e++dY es
end
def ŋ{σ:St}(h:j≠i):(σ.ö i v m).get j=σ.get j:=by
 exact Å (St.a9 ..)<|Å (È (λe=>h e.1.symm) ..) rfl
def aH(l:Ã Á):∀(σ:St)(j:Á),(σ.aaa l).get j=if j∈l then Ä else σ.get j:=by
 induction l with
 |nil=>exact λ_ _=>rfl
 |cons i l ih=>
  intro σ j;refine(ih (set σ i Ä) j).trans ?_;have h:St.get (set σ i Ä) j=if j=i then Ä else σ.get j:=by
   unfold St.get;refine Å (kU) ?_;by_cases e:i=j
   .refine Å (ť e)<|Å (ť e.symm) ?_;split<;>rfl
   .exact Å (È e)<|Å (È<|Ne.symm e) rfl
  refine Å h ?_;by_cases a:j∈l
  .exact Å (ť a)<|Å (ť<|.tail _ a) rfl
  .refine Å (È a) ?_;by_cases e:j=i
   .exact Å (ť e)<|Å (ť<|e▸.head _) rfl
   .exact Å (È e)<|Å (È λq=>(ő.1 q).elim e a) rfl
def qG{σ:St}{i j:Á}(h:j≠i):(σ.é i).get j=σ.get j:=by
 unfold St.é;split
 .split
  .rfl
  .exact ŋ h
 .rfl
def fX{t:kJ}(h:t.ö v σ=À f)(j:Á)(g:j∉t.slots):f.get j=σ.get j:=by
 induction t with
 |one i=>exact à h▸ŋ λe=>g<|e▸r4
 |two i k=>
  exact q9 (M:=λ_ f=>f.get j=σ.get j) h λa b=>by
   exact Å (ŋ λe=>g<|by exact Å e<|.tail _<|.head _)<|Å (ŋ λe=>g<|by exact Å e<|.head _) rfl
 |three i k l=>
  exact qP (M:=λ_ f=>f.get j=σ.get j) h λa b c=>by
   exact Å (ŋ λe=>g<|by rw[e];exact .tail _<|.tail _<|.head _)<|Å (ŋ λe=>g<|by rw[e];exact .tail _<|.head _)<|Å (ŋ λe=>g<|by rw[e];exact .head _) rfl
def qA{c:Type}(f:St->Ï (c×St))(l:Ã Á):Prop:=∀σ a b,f σ=À (a,b)->∀j,j∉l->b.get j=σ.get j
def qA.map{b β:Type}{f:St->Ï b}{g:b->β×St}{l:Ã Á}(h:∀σ a,f σ=À a->∀j,j∉l->(g a).2.get j=σ.get j):qA (λσ=>(f σ).map g) l:=λσ a c e=>uD (M:=λd=>∀j,j∉l->d.2.get j=σ.get j) e<|h σ
def cH{b:Ï (St->Ï (Ò×St))}(D:∀i∈ġ.slots,i∈l)(t:∀c,b=À c->qA c l)(y:qA Ż l)(items:Ã V):qA (ą ġ b Ż items) l:=by
 induction items with
 |nil=>exact λσ a f h j k=>â (M:=λ_ f=>St.get f j=σ.get j) h rfl
 |cons v vs ih=>
  intro σ a f h j k;have more:∀{g:St},g.get j=σ.get j->(do
     let Xe<-Ż g
     let J2<-ą ġ b Ż vs Xe.2
     À (Xe.1::J2.1,J2.2))=À (a,f)->f.get j=σ.get j:=λ{g}e h=>Ŵ (x:=Ż g) h λx m w h=>Ŵ (x:=ą ġ b Ż vs m) h λxs s B h=>â (M:=λ_ f=>St.get f j=σ.get j) h
    ((ih _ _ _ B j k).trans<|(y _ _ _ w j k).trans e)
  refine ð (x:=ġ.ö v σ) h λØ A h=>?_;have o:=fX A j λq=>k<|D j q
  induction b with
  |none=>exact more o h
  |some c=>
   exact Ŵ (x:=c Ø) h λok g C h=>by
    have p:=(t c rfl _ _ _ C j k).trans o
    induction ok with
    |true=>exact more p h
    |false=>exact(ih _ _ _ h j k).trans p
def qn{f:St->Ï (Ã V×St)}(y:∀i∈t1.slots,i∈l)(C:∀i∈t2.slots,i∈l)(hi:qA f l)(w:qA Ż l)(items:Ã V):qA (ab t1 f t2 Ż items) l:=by
 induction items with
 |nil=>exact λσ a b h j g=>â (M:=λ_ b=>St.get b j=σ.get j) h rfl
 |cons v vs ih=>exact λσ a b h j g=>ð (x:=t1.ö v σ) h λØ t h=>Ŵ (x:=f Ø) h λo m A h=>Ŵ (x:=ą t2 Ä Ż o m) h λxs k B h=>Ŵ (x:=ab t1 f t2 Ż vs k) h λE s D h=>â (M:=λ_ b=>St.get b j=σ.get j) h<|(ih _ _ _ D j g).trans<|(cH C (λc p=>ÿ p) w o _ _ _ B j g).trans<|(hi _ _ _ A j g).trans<|fX t j λq=>g<|y j q
def aG(h:x.map f=À r):∃a,x=À a/\f a=r:=lb.1 h
def nl{l r:Ã Á}(h:j∉l++r):j∉l:=λq=>h<|æ.2<|.inl q
def nr{l r:Ã Á}(h:j∉l++r):j∉r:=λq=>h<|æ.2<|.inr q
def qN(h:ji pe σ=À (xs,ø)):∃y,ß pe σ=À (.Ñ y,1,ø)/\xs=[.Ñ y]:=
 Ŧ (x:=ß pe σ) h λv m Ø c h=>Ϲ h λb h=>uD (o:=ko v) (M:=λd=>∃y,ß pe σ=À (.Ñ y,1,d.2)/\d.1=[.Ñ y]) h λy a=>⟨y,by refine Å c<|Å (Ğ a) ?_;subst b;rfl,rfl⟩
def Bv(e:PE):Prop:=∀(σ:St)(v:V)(m:Á)(a:St),ß e σ=À (v,m,a)->∀j,j∉Ŋ e->a.get j=σ.get j
def p8{σ b:St}(g:Bv Ż)(h:ą ġ Ä (λσ=>(ß Ż σ).map λx=>(x.1,x.2.2)) items (σ.aaa ġ.slots)=À (r,b))(f:j∉ġ.slots++Ŋ Ż):b.get j=σ.get j:=
 (cH (l:=ġ.slots++Ŋ Ż) (λi q=>æ.2<|.inl q) (λc k=>ÿ k) (.map λσ a e j f=>g σ a.1 a.2.1 a.2.2 e j<|nr f) items _ _ _ h j f).trans ((aH _ _ _).trans<|È<|nl f)
def qa{σ g:St}(p:Bv c)(he:Bv Ż)(h:ą ġ (À λσ=>(ß c σ).bind λx=>(Ó x.1).map λb=>(b,x.2.2)) (λσ=>(ß Ż σ).map λx=>(x.1,x.2.2)) items (σ.aaa ġ.slots)=À (r,g))(f:j∉ġ.slots++Ŋ Ż++Ŋ c):g.get j=σ.get j:=
 (cH (l:=ġ.slots++Ŋ Ż++Ŋ c) (λi q=>æ.2<|.inl<|æ.2<|.inl q) (λc' k=>à k▸λσ a o e j f=>Ŧ (x:=ß c σ) e λv m t s h=>uD (M:=λd:Ò×St=>d.2.get j=σ.get j) h λb _=>p _ _ _ _ s j<|nr f)
  (.map λσ a e j f=>he σ a.1 a.2.1 a.2.2 e j<|nr<|nl f) items _ _ _ h j f).trans ((aH _ _ _).trans<|È<|nl<|nl f)
def eP(e:PE):Bv e:=by
 apply PE.rec (motive_1:=Bv) (motive_2:=λes=>∀(σ:St)(vs:Ã V)(g:St),ď es σ=À (vs,g)->∀j,j∉dY es->g.get j=σ.get j) (motive_3:=λo=>∀c,o=À c->Bv c)
 .exact λv σ _ _ _ h j m=>BM (M:=λ_ _ g=>g.get j=σ.get j) h rfl
 .exact λi σ _ _ _ h j m=>ud (M:=λ_ _ g=>g.get j=σ.get j) h λ_ _=>qG λe=>m<|e▸r4
 .exact λop a b w y σ _ _ _ h j m=>xH (M:=λ_ _ g=>g.get j=σ.get j) h λ_ _ _ _ _ _ _ _ p s _=>(y _ _ _ _ s j<|nr m).trans<|w _ _ _ _ p j<|nl m
 .exact λop a w σ _ _ _ h j m=>As (M:=λ_ _ g=>g.get j=σ.get j) h λ_ _ _ _ p _=>w _ _ _ _ p j m
 .exact λop a b w y σ _ _ _ h j m=>rI (M:=λ_ _ g=>g.get j=σ.get j) h λ_ _ _ _ _ _ _ p s _=>(y _ _ _ _ s j<|nr m).trans<|w _ _ _ _ p j<|nl m
 .exact λX Y a b c w y K σ _ _ _ h j m=>Ay (M:=λ_ _ g=>g.get j=σ.get j) h λ_ _ _ _ _ _ p s=>
   have e:=(y _ _ _ _ s j<|nr<|nl m).trans<|w _ _ _ _ p j<|nl<|nl m
   ⟨λ_ _ _ _ _ J _=>(K _ _ _ _ J j<|nr m).trans e,λ_=>e⟩
 .exact λa b w y σ _ _ _ h j m=>xW (M:=λ_ _ g=>g.get j=σ.get j) h λ_ _ _ p=>⟨λ_ _ _ _ s=>(y _ _ _ _ s j<|nr m).trans<|w _ _ _ _ p j<|nl m,λ_=>w _ _ _ _ p j<|nl m⟩
 .exact λa b w y σ _ _ _ h j m=>AU (M:=λ_ _ g=>g.get j=σ.get j) h λ_ _ _ p=>⟨λ_ _ _ _ s=>(y _ _ _ _ s j<|nr m).trans<|w _ _ _ _ p j<|nl m,λ_=>w _ _ _ _ p j<|nl m⟩
 .exact λt a b it w y σ _ _ _ h j m=>Gf h λ_ _ _ p=>⟨λ_ s=>(w _ _ _ _ s j<|nr<|nl m).trans<|it _ _ _ _ p j<|nl<|nl m,λ_ s=>(y _ _ _ _ s j<|nr m).trans<|it _ _ _ _ p j<|nl<|nl m⟩
 .exact λes A σ _ _ _ h j m=>ED (M:=λ_ _ g=>g.get j=σ.get j) h λ_ _ p=>A _ _ _ p j m
 .exact λes A σ _ _ _ h j m=>G8 (M:=λ_ _ g=>g.get j=σ.get j) h λ_ _ p=>A _ _ _ p j m
 .exact λa b w y σ _ _ _ h j m=>F2 (M:=λ_ _ g=>g.get j=σ.get j) h λ_ _ _ _ _ _ _ p s _=>(y _ _ _ _ s j<|nr m).trans<|w _ _ _ _ p j<|nl m
 .exact λi e I σ _ _ _ h j m=>sd (M:=λ_ _ g=>g.get j=σ.get j) h λ_ _ _ _ _ _ _ _ p _ _ _=>I _ _ _ _ p j m
 .exact λi k l R σ _ _ _ h j m=>wa (M:=λ_ _ g=>g.get j=σ.get j) h λ_ _ _ _ _ _ _ _ _ _ _ p _ _ _ _ _ _=>R _ _ _ _ p j m
 .exact λa b c w y K σ _ _ _ h j m=>xa (M:=λ_ _ g=>g.get j=σ.get j) h λ_ _ _ _ _ _ _ _ _ _ _ p s J _=>(K _ _ _ _ J j<|nr m).trans<|(y _ _ _ _ s j<|nr<|nl m).trans<|w _ _ _ _ p j<|nl<|nl m
 .exact λf es A σ _ _ _ h j m=>kq (M:=λ_ _ g=>g.get j=σ.get j) h λ_ _ _ _ p _=>A _ _ _ p j m
 .exact λi σ _ _ _ h j m=>sG (M:=λ_ _ g=>g.get j=σ.get j) h λ_ _ _ _ _=>rfl
 .exact λi e I σ _ _ _ h j m=>FY (M:=λ_ _ g=>g.get j=σ.get j) h λ_ _ _ _ _ _ _ _ p _ _ _=>(ŋ λ(q:j=i)=>m (show j∈i::Ŋ e from q▸r4)).trans<|I _ _ _ _ p j λq=>m<|.tail _ q
 .intro Ż O f P cond B C E;induction cond with
  |none=>exact λσ _ _ _ h j m=>z3 (M:=λ_ _ g=>g.get j=σ.get j) h λ_ _ items _ _ p _ s=>
   (p8 B s λq=>(æ.1 q).elim (nr<|nl<|nl m)<|nr<|nl m).trans (C _ _ _ p j<|nl<|nl<|nl m)
  |some c'=>exact λσ _ _ _ h j m=>qM (M:=λ_ _ g=>g.get j=σ.get j) h λ_ _ items _ _ p _ s=>
   (qa (E c' rfl) B s λq=>(æ.1 q).elim (λq=>(æ.1 q).elim (nr<|nl<|nl m)<|nr<|nl m)<|nr m).trans (C _ _ _ p j<|nl<|nl<|nl m)
 .exact λŻ t1 f1 L W f2 D B G H σ _ _ _ h j m=>vJ (M:=λ_ _ g=>g.get j=σ.get j) h λ_ _ items _ _ p _ s _=>
   (qn (l:=t1.slots++W.slots++dY D++Ŋ Ż) (λi q=>æ.2<|.inl<|æ.2<|.inl<|æ.2<|.inl q) (λi q=>æ.2<|.inl<|æ.2<|.inl<|æ.2<|.inr q)
    (λσ a g e j m=>Ŵ (x:=ď D σ) e λv S J h=>uD (M:=λd:Ã V×St=>d.2.get j=σ.get j) h λb _=>H _ _ _ J j<|nr<|nl m) (.map λσ a e j m=>B σ a.1 a.2.1 a.2.2 e j<|nr m) items _ _ _ s j
    λq=>(æ.1 q).elim (λq=>(æ.1 q).elim (nr<|nl<|nl m)<|nr<|nl m)<|nr m).trans
    (((aH _ _ _).trans<|È<|nr<|nl<|nl m).trans<|G _ _ _ p j<|nl<|nl<|nl m)
 .exact λσ _ _ h j m=>fy (N:=λ_ g=>g.get j=σ.get j) h rfl
 .exact λe es I A σ _ _ h j m=>aV (N:=λ_ g=>g.get j=σ.get j) h λ_ _ _ _ _ p s=>(A _ _ _ s j<|nr m).trans<|I _ _ _ _ p j<|nl m
 .exact λ_ h=>ÿ h
 .exact λ_ i _ h=>à h▸i
def BU(es:Ã PE):∀(σ:St)(vs:Ã V)(ø:St),ď es σ=À (vs,ø)->∀j,j∉dY es->ø.get j=σ.get j:=by
 induction es with
 |nil=>exact λσ _ _ h j hj=>fy (N:=λ_ ø=>ø.get j=σ.get j) h rfl
 |cons e es ih=>exact λσ _ _ h j hj=>aV (N:=λ_ ø=>ø.get j=σ.get j) h λ_ _ _ _ _ h1 h2=>(ih _ _ _ h2 j<|nr hj).trans<|eP e _ _ _ _ h1 j<|nl hj
def ea(l:Ã (Str×NameKind)):∀(n:Á)(a:Ã (Str×Ĳ)),cellsFrom n l a=cellsFrom n l []++a:=by
 induction l with
 |nil=>exact λ_ _=>rfl
 |cons x r ih=>
  intro n a;unfold cellsFrom;split
  .rw[ih (n+1) ((x.1,n)::a),ih (n+1) [(x.1,n)],ak];rfl
  .exact ih n a
def Ō(a:Ã (Str×α)):∀(l2:Ã (Str×α))(x:Str),(a++l2).lookup x=(a.lookup x).or (l2.lookup x):=by
 induction a with
 |nil=>exact λ_ _=>rfl
 |cons p r ih=>
  intro l2 x;refine Å ti<|Å bf<|Å bf ?_;cases x==p.1 with
  |true=>rfl
  |false=>exact ih l2 x
def xr(names:Ã (Str×NameKind)):(∀x,(x,Ő)∈names->∃c,env.cells.lookup x=À c)->∀b:Ã (Str×Ĳ),∃cl:Ã (Str×Ĳ),(forIn names b (λ(p:Str×NameKind)cs=>if p.2==Ő then(do let a<-cellOf env p.1;pure (aq ((p.1,a)::cs))) else pure (aq cs)):ŭ (Ã<|Str×Ĳ))=pure (cl++b)/\
   (∀x c,cl.lookup x=À c->env.cells.lookup x=À c)/\(∀x,(x,Ő)∈names->∃c,cl.lookup x=À c):=by
 induction names with
 |nil=>exact λh b=>⟨[],rfl,λx c e=>ÿ e,λx hx=>ϭ hx⟩
 |cons p r ih=>
  intro h b;obtain⟨y,B⟩:=p;refine Å (tp ..) ?_;by_cases o:B=.free
  .subst o;refine å (h y<|.head _) λc v=>?_;refine qJ (ih (λx hx=>h x<|.tail _ hx) ((y,c)::b)) λcl m t k=>?_;refine⟨cl++[(y,c)],?_,λx c' e=>?_,λx hx=>?_⟩
   .have f:cellOf env y=pure c:=by unfold cellOf;exact Å v rfl
    simp only[eE,sJ,f];refine(?_:(forIn r ((y,c)::b) _:ŭ _)=_);refine Å m ?_;simp
   .rw[Ō] at e;cases f:cl.lookup x with
    |some g=>rw[f] at e;simp at e;subst e;exact t x _ f
    |none=>
     rw[f,eH,bf] at e;cases q:x==y with
     |true=>rw[q] at e;simp at e;subst e;exact Å (ka.1 q) v
     |false=>rw[q] at e;simp at e
   .refine Å (Ō ..) ?_;rcases ő.1 hx with e|hx
    .cases e;cases f:cl.lookup y with
     |some g=>exact⟨g,rfl⟩
     |none=>exact⟨c,by simp[bf]⟩
    .exact å (k x hx) λc' j=>⟨c',by refine Å j ?_;rfl⟩
  .refine qJ (ih (λx hx=>h x<|.tail _ hx) b) λcl m t k=>?_;refine⟨cl,?_,t,λx hx=>?_⟩
   .simp only[(show(B==Ő)=false by simpa using o),aX,jz];exact m
   .rcases ő.1 hx with e|hx
    .cases e;exact ó rfl o
    .exact k x hx
def je(h:∀x,(x,Ő)∈scope.names->∃c,env.cells.lookup x=À c):
  ∃cl:Ã (Str×Ĳ),closureFor scope env=pure cl/\(∀x c,cl.lookup x=À c->env.cells.lookup x=À c)/\(∀x,(x,Ő)∈scope.names->∃c,cl.lookup x=À c):=by
 refine qJ (xr scope.names h []) λcl a f b=>?_;refine⟨cl,?_,f,b⟩;rw[pH] at a;unfold closureFor;exact Ù (λt:ŭ (Ã<|Str×Ĳ)=>t>>=λcs=>pure cs) a
def CV
  (h:Q {scope:=scope,locals:=s.heap.objs.size,globals:=globals,cells:=cellsFrom (s.heap.objs.size+1) scope.names cl,qual:=qual,func:=Ä,code:=zH.code,frame:=zH.frame,builtins:=zH.builtins}
   {s with heap:=pushCells (s.heap.push {cls:=.type "dict",data:=.dict #[]}) scope.names}):
  ϛ M A (newFunctionEnv scope globals cl [] qual Ä .none (À zH) b) Q E s:=by
 simp only[newFunctionEnv,isSome_some,sJ];exact Ü<|wpAny_alloc<|Ü<|wpAny_layCells _ (λname kind cells=>by cases k:kind==pj<;>simp[k]) _ _ _ _<|Å (show({s with heap:=s.heap.push {cls:=.type "dict",data:=.dict #[]}}:ŕ).heap.objs.size=s.heap.objs.size+1 from e0 ..)<|Ü<|õ<|õ h
noncomputable def pz(a:Ã (Str×NameKind))(names:Ã (Str×NameKind)):Ã (Str×NameKind):=
 names.map λp=>if(p.2==.free&&a.lookup p.1==À .cell)=true then(p.1,.cell) else p
def f9(sc š:Sc)(names:Ã (Str×NameKind))(s:Ã Á):Ò:=
 (decide (pz sc.kinds names=š.kinds)&&names.all (λp=>decide<|names.lookup p.1=À p.2)&&names.all (λp=>p.2 !=.free||decide (sc.kinds.lookup p.1=À .cell\/sc.kinds.lookup p.1=À .free)))&&
 (š.wr.all (λx=>decide<|names.lookup x=À .local\/names.lookup x=À .cell)&&decide ((š.δ.map (·.2)).Nodup))&&
 (š.δ.all (λp=>s.contains p.2||(decide (names.lookup p.1=À .free/\sc.δ.lookup p.1=À p.2)&&p.1 !=("__classdict__":Str)))&&sc.δ.all (λp=>!s.contains p.2))
structure sO(sc š:Sc)(names:Ã (Str×NameKind))(sl:Ã Á):Prop where
 kinds:pz sc.kinds names=š.kinds
 look:∀x kd,(x,kd)∈names->names.lookup x=À kd
 free:∀x,(x,Ő)∈names->sc.kinds.lookup x=À .cell\/sc.kinds.lookup x=À .free
 wr:∀x,š.wr.contains x=true->names.lookup x=À .local\/names.lookup x=À .cell
 inj:∀x y i,š.δ.lookup x=À i->š.δ.lookup y=À i->x=y
 CG:∀x i,š.δ.lookup x=À i->i∉sl->names.lookup x=À .free/\sc.δ.lookup x=À i/\(x==("__classdict__":Str))=false
 out:∀x i,sc.δ.lookup x=À i->i∉sl
def k8{l:Ã (Str×Á)}:(l.map (·.2)).Nodup->∀x y i,(x,i)∈l->(y,i)∈l->x=y:=by
 induction l with
 |nil=>exact λ_ _ _ _ h=>ϭ h
 |cons p r ih=>
  intro h x y i hx g;rw[mC,dg] at h;rcases ő.1 hx with e|b<;>rcases ő.1 g with c|a
  .rw[<-c] at e;exact(lV e).1
  .exact ó (e▸(mem_map_of_mem (f:=(·.2)) a:i∈r.map (·.2)):p.2∈r.map (·.2)) h.1
  .exact ó (c▸(mem_map_of_mem (f:=(·.2)) b:i∈r.map (·.2)):p.2∈r.map (·.2)) h.1
  .exact ih h.2 x y i b a
def sO.of(h:f9 sc š names sl=true):sO sc š names sl:=by
 simp only[f9,è,ę,ϻ,zg,Wq,ne_eq,rN,contains_eq_mem,oX] at h;obtain⟨⟨⟨⟨o,v⟩,m⟩,t,s⟩,f,g⟩:=h;refine⟨o,λx w hx=>v _ hx,λx hx=>(m _ hx).resolve_left λq=>q rfl,λx hx=>t x<|by simpa using hx,λx y i hx p=>k8 s x y i (mem_of_lookup hx)<|mem_of_lookup p,λx i hx j=>?_,λx i hx=>g _<|mem_of_lookup hx⟩;obtain⟨⟨a,b⟩,c⟩:=(f _<|mem_of_lookup hx).resolve_left j;exact⟨a,b,Š.2 c⟩
def tT{names:Ã (Str×NameKind)}{x:Str}:(pz ks names).lookup x=(names.lookup x).map λa=>if(a==.free&&ks.lookup x==À .cell)=true then .cell else a:=by
 induction names with
 |nil=>rfl
 |cons p r ih=>
  unfold pz at ih⊢;refine Å mC ?_;have e:(if(p.2==Ő&&ks.lookup p.1==À .cell)=true then(p.1,pj) else p)=(p.1,if(p.2==Ő&&ks.lookup p.1==À .cell)=true then pj else p.2):=by split<;>rfl
  refine Å e<|Å bf<|Å bf ?_;cases h:x==p.1 with
  |true=>exact Å (ka.1 h) rfl
  |false=>exact ih
inductive oj(X:Cx)(k:Á)(sc:Sc):Ã Expr->Ï (St->Ï (Ò×St))->Prop
 |no:oj X k sc [] Ä
 |one {c pc} (h:cG X k sc c pc):oj X k sc [c] (À λσ=>(ß pc σ).bind λx=>(Ó x.1).map λb=>(b,x.2.2))
def Ff{x:Str}{names:Ã (Str×NameKind)}:∀{n:Á}{c:Ĳ},(cellsFrom n names []).lookup x=À c->(x,pj)∈names:=by
 induction names with
 |nil=>exact λh=>ÿ h
 |cons p r ih=>
  intro n c h;unfold cellsFrom at h;split at h
  .rename_i b;rw[ea,Ō] at h;cases e:(cellsFrom (n+1) r []).lookup x with
   |some c'=>exact .tail _<|ih e
   |none=>
    rw[e,eH,bf] at h;cases a:x==p.1 with
    |true=>exact Å (ka.1 a)<|Đ (eq_of_beq b)<|.head _
    |false=>rw[a] at h;exact ÿ h
  .exact .tail _<|ih h
def e4{x:Str}{names:Ã (Str×NameKind)}:∀{n:Á},(x,pj)∈names->∃c,(cellsFrom n names []).lookup x=À c:=by
 induction names with
 |nil=>exact λh=>ϭ h
 |cons p r ih=>
  intro n h;unfold cellsFrom;split
  .rename_i a;rw[ea,Ō];cases e:(cellsFrom (n+1) r []).lookup x with
   |some c'=>exact⟨c',rfl⟩
   |none=>
    rcases ő.1 h with q|h
    .exact⟨n,by rw[eH,<-q,bf,eE]⟩
    .exact(ih (n:=n+1) h).elim λc b=>gC<|b.symm.trans e
  .rename_i a;rcases ő.1 h with q|h
   .exact ó (q▸rfl) a
   .exact ih h
def ig.Ki{St:Á->gk->Prop}(D:ig X A te I fp wr items zy St){f:Ë->ŕ->Prop}
  (C:∀val g,F (À val) g=wq X A (hJ te (.ref I) val) (λ_ m=>f val m) E g) (t:items[i]?=À v) (c:St i s.heap) (y:ŀ B s.heap.get?) (G:ŀ zy B) (p:∀b∈wr,B b=Ä)
  (q:∀val h tk B',(∀b o,b∉wr->s.heap.get? b=À o->h.get? b=À o)->ŀ B B'->ŀ B' h.get?->(∀a o,B' a=À o->B a=À o\/s.heap.get? a=Ä)->St (i+1) h->VR B' v val->f val {s with heap:=h,toks:=tk}):
  wq X A (o8<|.ref I) F E s:=
 mz (D.item i v s B f E t c y G p q) (λr g j=>by
  induction r with
  |none=>exact j.elim
  |some val=>exact Å (C ..) j) λ_ _ x=>x
def kx(h:ą ġ cf Ż (v::vs) σ=À (r,ø)):
  ∃b ok a,ġ.ö v σ=À b/\(match cf with|none=>À (true,b)|some c=>c b)=À (ok,a)/\
   (ok=false/\ą ġ cf Ż vs a=À (r,ø)\/ok=true/\∃x f xs,Ż a=À (x,f)/\ą ġ cf Ż vs f=À (xs,ø)/\r=x::xs):=by
 have t:∀{ok a},(if ok=true then(Ż a).bind λx=>(ą ġ cf Ż vs x.2).bind λy=>À (x.1::y.1,y.2) else ą ġ cf Ż vs a)=À (r,ø)->
   (ok=false/\ą ġ cf Ż vs a=À (r,ø)\/ok=true/\∃x f xs,Ż a=À (x,f)/\ą ġ cf Ż vs f=À (xs,ø)/\r=x::xs):=by
  intro ok a g
  induction ok with
  |false=>exact .inl ⟨rfl,by simpa using g⟩
  |true=>
   simp at g;apply ì<|Ϧ.1 g;rintro⟨x,f⟩ o g;apply ì<|Ϧ.1 g;rintro⟨xs,m⟩ q g;simp at g;obtain⟨rfl,rfl⟩:=g;exact .inr ⟨rfl,x,f,xs,o,q,rfl⟩
 induction cf with
 |none=>
  exact ð (x:=ġ.ö v σ) h λb j h=>⟨b,true,b,j,rfl,t h⟩
 |some c=>
  exact ð (x:=ġ.ö v σ) h λb j h=>ð (x:=c b) h λ⟨ok,a⟩q h=>⟨b,ok,a,j,q,t h⟩
section
variable{X:Cx}{k:Á}{sc š:Sc}
def yq(K:Ok T P B env δ wr σ α s.heap)(f:Off env δ σ α [C])(m:P C)(hB:B C=Ä)(j:fQ C s.heap h'):
  Ok T P B env δ wr σ α h'/\Ķ env P s {s with heap:=h'} B B:=by
 have p:∀b o,b∉[C]->s.heap.get? b=À o->h'.get? b=À o:=λb o g e=>(j.2 b λt=>g<|Å t<|.head _).trans e;refine⟨K.eS p (λb g=>.inl<|by rw[Ċ] at g;subst g;exact m) f (λb g=>by rw[Ċ] at g;subst g;exact K.low _ m) (.refl _) (λa o e=>p a o (λh=>by rw[Ċ] at h;rw[h,hB] at e;exact ÿ e)<|K.base a o e) λ_ _ e=>.inl e,
  ⟨⟨h',s.toks,rfl⟩,λa o e n=>p a o (λh=>by rw[Ċ] at h;exact n<|h▸m) e,.refl _,λ_ _ e=>.inl e⟩,λy u h=>?_⟩
 exact h.other j.2 (λe=>f.1<|Å e<|.head _) λc q e=>f.2.1 y c q<|Å e<|.head _
end
inductive Acc(B:PB)(h:gk):Á->Ã V->Ã Ë->Ã Ĳ->Prop
 |frozen {vs vals} (hv:ě B vs vals):Acc B h 1 vs vals []
 |own {cz as} (hs:ă h B cz as) (nd:as.Nodup):Acc B h 2 (cz.map .Ñ) (as.map .ref) as
section
variable{B B':PB}{h h':gk}{m:Á}{vs ws:Ã V}{vals Oy:Ã Ë}{ow Tp:Ã Ĳ}
def Acc.nil(a:m=1\/m=2):Acc B h m [] [] []:=by
 rcases a with rfl|rfl
 .exact .frozen .nil
 .exact .own (cz:=[]) (as:=[]) .nil .nil
def Acc.lists(K:Acc B h m vs vals ow):∀a∈ow,∃items,IsL h a items/\B a=Ä:=by
 induction K with
 |frozen _=>exact λa c=>ϭ c
 |own b _=>exact b.lists
def ă.go(c:ŀ B B')(H:ă h B cz as):(∀a∈as,∀o,h.get? a=À o->h'.get? a=À o)->(∀a∈as,B a=Ä->B' a=Ä)->ă h' B' cz as:=by
 induction H with
 |nil=>exact λ_ _=>.nil
 |cons j hB v _ t=>exact λg f=>.cons (IsL.keep j<|g _<|.head _) (f _ (.head _) hB) (v.mono c)<|t (λa b=>g a<|.tail _ b) λa b=>f a<|.tail _ b
def Acc.length(K:Acc B h m vs vals ow):vs.length=vals.length:=by
 induction K with
 |frozen v=>exact v.length
 |own a _=>exact Å (É ..)<|Å (É ..) a.length.symm
def Acc.go(K:Acc B h m vs vals ow)(b:ŀ B B')(g:∀a∈ow,∀o,h.get? a=À o->h'.get? a=À o)(c:∀a∈ow,B a=Ä->B' a=Ä):Acc B' h' m vs vals ow:=by
 induction K with
 |frozen v=>exact .frozen<|v.mono b
 |own f j=>exact .own (f.go b g c) j
def ă.app(H:ă h B cz as)(k:ă h B uC bs):ă h B (cz++uC) (as++bs):=by
 induction H with
 |nil=>exact k
 |cons a hB v _ t=>exact .cons a hB v t
def Acc.app(K:Acc B h m vs vals ow)(L:Acc B h m ws Oy Tp)(d:∀a∈ow,a∉Tp):Acc B h m (vs++ws) (vals++Oy) (ow++Tp):=by
 induction K with
 |frozen v=>
  cases L with
  |frozen f=>exact .frozen<|v.append f
 |own g p=>
  cases L with
  |own t c=>
   exact Đ bG<|Đ bG<|.own (g.app t)<|yN.2 ⟨p,c,λa j b o e=>d a j<|e▸o⟩
def Acc.Wn(K:Acc B h m vs items.toList ow)(b:h.get? D=À {cls:=.type "list",data:=.seq items n})(hB:B D=Ä)(c:D∉ow):ĭ h B (.Ñ vs) m (.ref D) (D::ow):=by
 generalize a:items.toList=j at K;cases K with
 |frozen v=>exact .one ⟨_,b,rfl,⟨n,rfl⟩,rfl,rfl⟩ hB<|a▸v
 |own f g=>
  exact .two ⟨_,b,rfl,⟨n,Å (show items=(ow.map aD).toArray from Đ a rfl) rfl⟩,rfl,rfl⟩ hB f<|dg.2 ⟨c,g⟩
end
def js(h:Ĉ ġ cf em (v::vs) σ=À (r,ø)):
  ∃b ok a,ġ.ö v σ=À b/\(match cf with|none=>À (true,b)|some c=>c b)=À (ok,a)/\
   (ok=false/\Ĉ ġ cf em vs a=À (r,ø)\/ok=true/\∃x f xs,em a=À (x,f)/\Ĉ ġ cf em vs f=À (xs,ø)/\r=x++xs):=by
 have t:∀{ok a},(if ok=true then(em a).bind λx=>(Ĉ ġ cf em vs x.2).bind λy=>À (x.1++y.1,y.2) else Ĉ ġ cf em vs a)=À (r,ø)->
   (ok=false/\Ĉ ġ cf em vs a=À (r,ø)\/ok=true/\∃x f xs,em a=À (x,f)/\Ĉ ġ cf em vs f=À (xs,ø)/\r=x++xs):=by
  intro ok a g
  induction ok with
  |false=>exact .inl ⟨rfl,by simpa using g⟩
  |true=>
   simp at g;apply ì<|Ϧ.1 g;rintro⟨x,f⟩ p g;apply ì<|Ϧ.1 g;rintro⟨xs,o⟩ C g;simp at g;obtain⟨rfl,rfl⟩:=g;exact .inr ⟨rfl,x,f,xs,p,C,rfl⟩
 induction cf with
 |none=>
  simp only[Ĉ] at h;exact ì (bind_some h) λb j h=>⟨b,true,b,j,rfl,t h⟩
 |some c=>
  simp only[Ĉ] at h;refine ì (bind_some h) λb j h=>?_;refine ì (bind_some h) ?_;rintro⟨ok,a⟩ q h;exact⟨b,ok,a,j,q,t h⟩
def um(j t a:Expr)(g:Ã Expr)(b:Ã DI)(scope:pn)(pos:o6)(p:ey->Ë->ŭ Unit):Prop:=
 ∀o f env,compTurn (.ListComp j (⟨t,a,g,0⟩::b) scope pos) 0 o f env=(do
  bc a.pos
  match<-o8 o with
  |none=>pure<|.done .next
  |some v=>
   hJ t o v
   assign t env v
   let mut ok:=true
   for c in g do
    if ok then ok<-isTrue c env (eval c env)
   if ok then
    p env f
   again (.compLoop (.ListComp j (⟨t,a,g,0⟩::b) scope pos) 0 o f env))
section
variable{prog:lX}{w:dk}{A:q6}{E:Ë->ŕ->Prop}{R:Result->ŕ->Prop}{s:ŕ}
def qm{C t g:Expr}(K:um C t g Cz aE scope pos em)(I:Á->ŕ->Prop)
  (D:∀n s,I n s->ϛ (aT prog w) A (o8 it) (λr f=>match r with
   |none=>R (.ok .next) f
   |some v=>ϛ (aT prog w) A (hJ t it v) (λ_ b=>ϛ (aT prog w) A (assign t env v) (λ_ p=>
    ϛ (aT prog w) A (forIn Cz true λc r=>if r=true then do let ok<-isTrue c env (eval c env);pure (aq ok) else pure (aq r)) (λok a=>
     if ok=true then ϛ (aT prog w) A (em env CC) (λ_ j=>∃m,m<n/\I m j) (wG (aT prog w) A env λe s'=>R (.error e) s') a
     else∃m,m<n/\I m a) (wG (aT prog w) A env λe s'=>R (.error e) s') p) (wG (aT prog w) A env λe s'=>R (.error e) s') b) (wG (aT prog w) A env λe s'=>R (.error e) s') f)
   (wG (aT prog w) A env λe s'=>R (.error e) s') s)
  (n:Á) (h:I n s):hZ (aT prog w) A (.compLoop (.ListComp C (⟨t,g,Cz,0⟩::aE) scope pos) 0 it CC env) R s:=by
 apply codeAny_loop rfl I (λn s J=>?_) n h;refine(?_:ϛ _ A ((compTurn (.ListComp C (⟨t,g,Cz,0⟩::aE) scope pos) 0 it CC env).onRaise (λx=>do noteFrame x env;theTreesLotGoes x)) _ _ s);apply wpAny_noted;refine Å (K ..) ?_;refine Ü<|ų<|Ü<|mz (D n s J) (λr f q=>?_) λ_ _ h'=>h'
 induction r with
 |none=>exact õ q
 |some v=>
  apply Ü<|mz q (λ_ b y=>?_) λ_ _ h'=>h';apply Ü<|mz y (λ_ p G=>Ü<|mz G (λok a o=>?_) λ_ _ h'=>h') λ_ _ h'=>h'
  induction ok with
  |false=>exact õ ⟨rfl,o⟩
  |true=>exact Ü<|mz o (λ_ j H=>õ ⟨rfl,H⟩) λ_ _ h'=>h'
end
def qp(X:Cx)(k:Á)(sc:Sc)(m:Á)(q:St->Ï (Ã V×St))(j:ey->Ë->ŭ Unit):Prop:=
 ∀env,env.scope.names=sc.kinds->∀σ xs b,q σ=À (xs,b)->
  ∀(P:Ĳ->Prop)(B:PB)(p:Á->Ã Ĳ)(A:q6)(s:ŕ)(Q:Unit->ŕ->Prop)(E:Ë->ŕ->Prop)(Da:Ĳ)(ϝ:gS Ë)(nn:Á),ϝ.size+xs.length<=1000000->ţ k A->Ok X.T P B env sc.dl sc.wl σ p s.heap->s.heap.get? Da=À {cls:=.type "list",data:=.seq ϝ nn}->B Da=Ä->¬P Da->X.T.get? Da=Ä->
   (∀x c,env.cells.lookup x=À c->c≠Da)->
   (∀s' B' g f n' ow,(∃h tk,s'={s with heap:=h,toks:=tk})->(∀a o,a≠Da->s.heap.get? a=À o->¬P a->s'.heap.get? a=À o)->ŀ B B'->(∀a o,B' a=À o->B a=À o\/P a)->
    Ok X.T (λa=>P a/\a∉ow) B' env sc.dl sc.wl b g s'.heap->s'.heap.get? Da=À {cls:=.type "list",data:=.seq (ϝ++(f:Ã Ë)) n'}->Acc B' s'.heap m xs f ow->(∀a∈ow,P a)->Q () s')->
   wq X A (j env<|.ref Da) Q E s
section
variable{X:Cx}{k:Á}{sc š:Sc}
def oj.tests{ok:Ò}{f:St}(v:oj X k sc Cz cf)(p:env.scope.names=sc.kinds)(D:ţ k A)(K:Ok X.T P B env sc.dl sc.wl σ α s.heap)
  (e:(match cf with|none=>À (true,σ)|some c=>c σ)=À (ok,f)) (q:∀g j a,Ķ env P s g B j->Ok X.T P j env sc.dl sc.wl f a g.heap->Q ok g):
  wq X A (forIn Cz true λc r=>if r=true then do let ok<-isTrue c env (eval c env);pure (aq ok) else pure (aq r)) Q E s:=by
 induction v with
 |no=>
  simp at e;obtain⟨rfl,rfl⟩:=e;exact wpAny_tests_nil<|q s B α (.refl _ _ _ _) K
 |one H=>
  simp only at e;exact Ŧ e λx m t y C=>uD (o:=Ó x) (M:=λd=>d=(ok,f)->_) C (λb g3 I=>by
   cases I;exact wpAny_tests_one<|H env p σ x m _ _ y g3 _ B α A s _ _ D K λg j a S G=>q g j a S G) rfl
inductive N5(X:Cx)(ġ:kJ)(cf:Ï (St->Ï (Ò×St)))(fe:St->Ï (Ã V×St))(items:Ã V)(dM:St)(r:Ã V)(Pin:Ĳ->Prop)(i5:ey)(š:Sc)(Sv:Á->gk->Prop)(Da:Ĳ)(m:Á)(B2:PB)(ws:Ã Ĳ)(s2:ŕ)(n:Á)(s4:ŕ):Prop
 |mk (j:Á) (qW:St) (Bj:PB) (ft:Á->Ã Ĳ) (done:Ã V) (mQ:gS Ë) (nn:Á) (ow:Ã Ĳ) (aE:Ã V) (e:n=items.length-j) (hj:j<=items.length) (dH:Ĉ ġ cf fe (items.drop j) qW=À (aE,dM)) (hr:r=done++aE)
  (hK:Ok X.T (λa=>Pin a/\a∉ow) Bj i5 š.dl š.wl qW ft s4.heap) (CK:Sv j s4.heap) (hD:s4.heap.get? Da=À {cls:=.type "list",data:=.seq mQ nn}) (hA:Acc Bj s4.heap m done mQ.toList ow) (HL:Bj Da=Ä) (IL:∀b∈ws,Bj b=Ä) (nx:ŀ B2 Bj)
  (mT:∀a o,Bj a=À o->B2 a=À o\/Pin a) (hk:∀a o,s2.heap.get? a=À o->¬Pin a->a∉ws->s4.heap.get? a=À o) (hs:∃h tk,s4={s2 with heap:=h,toks:=tk}) (HT:∀a∈ow,Pin a) (EG:mQ.size=done.length)
def la{Ż iter te:Expr}
  (hi:dO X k sc te iter f ϝ) (ht:ip š te ġ) (hc:oj X k š Cz cf) (Z4:qp X k š m fe em) (Vy:m=1\/m=2) (hT:um Ż te iter Cz aE scope pos em) (C:sO sc š scope.names sl)
  (hs:∀env x,foldedSetIterable iter env x=pure x) (Av:scope.kind=.function)
  (he:env.scope.names=sc.kinds) (h1:ď ϝ σ=À (vs,Ø)) (h2:f vs=À items)
  (h3:Ĉ ġ cf fe items (Ø.aaa sl)=À (r,dM))
  (hm:∀x i,sc.δ.lookup x=À i->š.δ.lookup x≠À i->dM.get i=Ø.get i)
  (Vx:items.length<=1000000->r.length<=1000000)
  (hR:ţ k A) (K:Ok X.T P B env sc.dl sc.wl σ α s.heap)
  (q:∀(s':ŕ)(B':PB)(qr:Á->Ã Ĳ)(Da Ca:Ĳ)(ow:Ã Ĳ)mm,Ķ env P s s' B B'->Ok X.T P B' env sc.dl sc.wl dM qr s'.heap->ĭ s'.heap B' (.Ñ r) m (.ref Da) (Da::ow)->(∀a∈Da::ow,P a)->gB sc.dl dM qr (Da::ow)->
   Off env sc.dl dM qr [Ca]->(∀a∈Da::ow,a≠Ca)->s'.heap.Ns Ca mm->P Ca->B' Ca=Ä->oQ (aT X.prog X.w) A E use Q (.ref Da) Ca (.ok .next) s'):
  wq X A (nK (.ListComp Ż (⟨te,iter,Cz,0⟩::aE) scope pos) scope env V3 (nF []) false (eval iter env) use) Q E s:=by
 obtain⟨cl,Kl,oF,Rl⟩:=je (env:=env) (scope:=scope) λx hx=>K.ϓ x (by
  unfold bC;rw[he];exact C.free x hx)
 refine wpAny_comprehension_free (use:=use) (g:=⟨te,iter,Cz,0⟩) (gs:=aE) rfl (hs env) Kl Av (λx hx hl=>by
  obtain⟨y,kd⟩:=x;dsimp only at hl;subst hl;exact C.look _ _ hx) ?_
 refine hi env he σ vs Ø items h1 h2 P B α A s _ _ hR K λI s2 B2 cR fp ws Sv S2 K2 D CK gi LA i4 uy=>?_;refine wpAny_newList ?_ (by simp);apply CV;generalize hD:s2.heap.objs.size=Da;have HN:s2.heap.get? Da=Ä:=by rw[<-hD];exact ĉ _
 generalize XO:s2.heap.push {cls:=.type "list",data:=.seq ([]:Ã Ë).toArray}=M3;have k3:∀a o,s2.heap.get? a=À o->M3.get? a=À o:=λa o e=>by rw[<-XO];exact Ô _ e
 have d3:M3.get? Da=À {cls:=.type "list",data:=.seq #[]}:=by rw[<-XO,<-hD];exact ë _ rfl
 dsimp only;generalize hC:M3.objs.size=Ca;have TL:M3.get? Ca=Ä:=by rw[<-hC];exact ĉ _
 have TM:Ca≠Da:=λe=>by rw[e,d3] at TL;exact gC TL
 have yv:s2.heap.get? Ca=Ä:=by
  cases e:s2.heap.get? Ca with
  |none=>rfl
  |some o=>exact gC<|(k3 _ _ e)▸TL
 generalize Uk:M3.push {cls:=.type "dict",data:=.dict #[]}=NA;have k4:∀a o,M3.get? a=À o->NA.get? a=À o:=λa o e=>by rw[<-Uk];exact Ô _ e
 have n4:NA.Ns Ca (λ_=>Ä):=by rw[<-Uk,<-hC];exact Heap.Ns.new M3<|.type "dict"
 have z4:NA.objs.size=Ca+1:=by rw[<-Uk,e0,hC]
 have co:=cellsFrom_ok scope.names NA (Ca+1) [] ⟨λ_ _ hm=>(nomatch hm),List.Pairwise.nil⟩ (by rw[z4];exact aj _);rw[z4] at co;rw[ea];generalize MU:cellsFrom (Ca+1) scope.names []=own at co;generalize Zk:pushCells NA scope.names=h5 at co;have k5:∀a o,NA.get? a=À o->h5.get? a=À o:=λa o e=>by rw[<-Zk];exact pushCells_keeps _ _ _ _ e
 have FD:∀a o,s2.heap.get? a=À o->h5.get? a=À o:=λa o e=>k5 _ _<|k4 _ _<|k3 _ _ e;have aU:∀x c,own.lookup x=À c->h5.IsCell c Ä/\s2.heap.get? c=Ä/\c≠Da/\c≠Ca:=λx c hx=>by
  refine Ö (λa b=>?_)<|co.empty x c<|mem_of_lookup hx;refine⟨a,?_,λe=>?_,λe=>by rw[e] at b;exact ó b<|Nat.not_succ_le_self _⟩
  .cases e:s2.heap.get? c with
   |none=>rfl
   |some o=>exact ó (Ļ<|k3 _ _ e)<|by rw[hC];exact Ϣ.2<|D6 b
  .subst e;exact ó (Ļ d3)<|by rw[hC];exact Ϣ.2<|D6 b
 let i5:ey:={scope:=relabel scope env,locals:=Ca,globals:=env.globals,cells:=own++cl,qual:=env.qual,func:=Ä,code:=env.code,frame:=env.frame,builtins:=env.builtins}
 have Na:i5.scope.names=š.kinds:=by
  rw[<-C.kinds];show(relabel scope env).names=pz sc.kinds scope.names;unfold relabel pz;refine ae λp _=>?_;obtain⟨y,kd⟩:=p;dsimp only;rw[K.kind];unfold bC;rw[he];simp[eE]
 have ik:∀x,i5.kindOf x=(scope.names.lookup x).map λkd=>if(kd==.free&&sc.kinds.lookup x==À .cell)=true then .cell else kd:=λx=>by
  unfold bC;rw[Na,<-C.kinds,tT]
 have WK:∀x,env.kindOf x=sc.kinds.lookup x:=λx=>by unfold bC;rw[he]
 have La:∀x,scope.names.lookup x=À .free->own.lookup x=Ä:=λx hx=>by
  cases e:own.lookup x with
  |none=>rfl
  |some c=>rw[<-MU] at e;rw[C.look x _ (Ff e)] at hx;cases hx
 generalize Tv:Ø.aaa sl=CD at h3;have g3:∀i,CD.get i=if i∈sl then Ä else Ø.get i:=λi=>by rw[<-Tv];exact aH _ _ _
 let Pin:Ĳ->Prop:=λa=>(s2.heap.get? a=Ä/\a≠Da)\/(∃x i,š.δ.lookup x=À i/\(CD.get i).isSome=true/\a∈cR i)\/a∈bS
 have CG:∀x i,š.δ.lookup x=À i->(CD.get i).isSome=true->scope.names.lookup x=À .free/\sc.δ.lookup x=À i/\(x==("__classdict__":Str))=false/\CD.get i=Ø.get i:=λx i hx hi=>by
  by_cases hm:i∈sl
  .rw[g3,ť hm] at hi;injection hi
  .exact Ϸ (C.CG x i hx hm) λa b c=>⟨a,b,c,by rw[g3,È hm]⟩
 have yg:∀a o,s2.heap.get? a=À o->Pin a->(∃x i,š.δ.lookup x=À i/\(CD.get i).isSome=true/\a∈cR i)\/a∈bS:=λa o e h=>by
  rcases h with⟨h,_⟩|h
  .exact gC<|e.symm.trans h
  .exact h
 have oR:∀a,Pin a->P a:=λa h=>by
  rcases h with⟨h,_⟩|⟨x,i,h1,h2,h3⟩|h
  .exact K2.hi a h
  .refine sm (CG x i h1 h2) λc1 c2 c3 c4=>?_;refine å (İ.1 h2) λw hw=>?_;rw[c4] at hw;exact K2.Æ x i w.1 w.2 c2 hw λu _ _ h5=>h5 a h3
  .exact(K2.ex a h).1
 have Fg:∀b∈fp,¬Pin b:=λb hb h=>by
  refine å (gi b hb) λo ho=>?_;obtain⟨x,i,h1,h2,h3⟩|h:=yg b o ho h
  rotate_left
  .exact i4.2.2.2 b h hb
  exact sm (CG x i h1 h2) λc1 c2 c3 c4=>i4.2.2.1 x i c2 (by rw[<-c4];exact h2) b h3 hb
 have Wv:∀x i v m,š.δ.lookup x=À i->CD.get i=À (v,m)->∃val,At h5 i5 x val/\At s2.heap env x val/\ĭ h5 B2 v m val (cR i)/\∀a∈cR i,Pin a:=λx i v m hx hv=>by
  refine sm (CG x i hx<|by rw[hv];rfl) λc1 c2 c3 c4=>?_;refine K2.Æ x i v m c2 (by rw[<-c4];exact hv) λu a1 a2 a3=>?_;refine⟨u,?_,a1,a2.ext<|⟨FD,.refl _,λa o e=>FD _ _<|K2.base a o e,λ_ _ e=>.inl e⟩,λa ha=>.inr<|.inl ⟨x,i,hx,by rw[hv];rfl,ha⟩⟩;rcases a1 with⟨kd,_⟩|⟨kd,c,hl,Oq⟩
  .rw[WK] at kd;rcases(C.free x<|mem_of_lookup c1) with e|e<;>rw[e] at kd<;>cases kd
  .refine .inr ⟨?_,c,?_,Oq.keeps FD⟩
   .have e:i5.kindOf x=À (if(Ő==.free&&sc.kinds.lookup x==À .cell)=true then .cell else .free):=by rw[ik,c1];rfl
    by_cases hc:(Ő==.free&&sc.kinds.lookup x==À .cell)=true
    .rw[ť hc] at e;exact .inl e
    .rw[È hc] at e;exact .inr ⟨e,c3⟩
   .show(own++cl).lookup x=À c;rw[Ō,La x c1,eH];refine å (Rl x<|mem_of_lookup c1) λc' PG=>?_;rw[PG,<-oF x c' PG];exact hl
 have K5:Ok X.T Pin B2 i5 š.dl š.wl CD cR h5:=by
  refine{top:=λa o e=>FD _ _<|K2.top a o e,low:=λa h=>K2.low a<|oR a h,hi:=λa ha=>?_,base:=λa o e=>FD _ _<|K2.base a o e,kind:=Av,glob:=K2.glob,loc:=⟨⟨_,n4.keeps k5⟩,.inl ⟨yv,TM⟩,K2.HJ yv⟩,cells:=λx y c hx hy=>?_,Ė:=λx c hx=>?_,ϓ:=λx hx=>?_,wrs:=λx hx=>?_,inj:=C.inj,vars:=λx i v m hx hv=>HG (Wv x i v m hx hv) λval a1 a2 a3 a4=>⟨val,a1,a3,a4⟩,apart:=λx y i j hx hy Ap h1 h2=>sm (CG x i hx h1) λ_ b1 _ b3=>sm (CG y j hy h2) λ_ YA _ Yn=>K2.apart x y i j b1 YA Ap (by rw[<-b3];exact h1)<|by rw[<-Yn];exact h2,ex:=λa ha=>((K2.ex a ha).elim λ_ e=>⟨.inr<|.inr ha,e.go (FD a) (.refl _) e.fresh⟩)}
  .left;constructor
   .cases e:s2.heap.get? a with
    |none=>rfl
    |some o=>rw[FD _ _ e] at ha;exact gC ha
   .rintro rfl;rw[k5 _ _ (k4 _ _ d3)] at ha;exact gC ha
  .rw[Ō] at hx hy;cases e1:own.lookup x with
   |some c1=>
    rw[e1] at hx;simp at hx;subst hx;cases e2:own.lookup y with
    |some c2=>
     rw[e2] at hy;simp at hy;subst hy;exact name_of_addr co.apart (mem_of_lookup e1)<|mem_of_lookup e2
    |none=>
     rw[e2,eH] at hy;refine wO (K2.Ė y _<|oF y _ hy) λv o ho _=>?_;rw[(aU x _ e1).2.1] at ho;exact ÿ ho
   |none=>
    rw[e1,eH] at hx;cases e2:own.lookup y with
    |some c2=>
     rw[e2] at hy;simp at hy;subst hy;refine wO (K2.Ė x _<|oF x _ hx) λv o ho _=>?_;rw[(aU y _ e2).2.1] at ho;exact ÿ ho
    |none=>
     rw[e2,eH] at hy;exact K2.cells x y c (oF x c hx)<|oF y c hy
  .have HO:(own++cl).lookup x=À c:=hx;rw[Ō] at HO;cases e1:own.lookup x with
   |some c1=>
    rw[e1] at HO;simp at HO;subst HO;exact⟨_,(aU x _ e1).1⟩
   |none=>
    rw[e1,eH] at HO;exact å (K2.Ė x c<|oF x c HO) λv hv=>⟨v,hv.keeps FD⟩
  .show∃c,(own++cl).lookup x=À c;rw[Ō];have:(x,pj)∈scope.names\/(x,Ő)∈scope.names:=by
    rw[ik] at hx;cases e:scope.names.lookup x with
    |none=>rw[e] at hx;rcases hx with hx|hx<;>injection hx
    |some kd=>
     have hm:=mem_of_lookup e
     induction kd with
     |cell=>exact .inl hm
     |free=>exact .inr hm
     |_=>rw[e] at hx;rcases hx with hx|hx<;>simp at hx
   rcases this with hm|hm
   .refine å (e4 (n:=Ca+1) hm) λc hc=>?_;rw[MU] at hc;exact⟨c,by rw[hc];rfl⟩
   .refine å (Rl x hm) λc hc=>?_;cases e1:own.lookup x with
    |some c1=>exact⟨c1,rfl⟩
    |none=>exact⟨c,by rw[hc];rfl⟩
  .rcases C.wr x hx with e|e
   .left;rw[ik,e];rfl
   .right;refine⟨by rw[ik,e];rfl,?_⟩;refine å (e4 (n:=Ca+1)<|mem_of_lookup e) λc hc=>?_;rw[MU] at hc;exact sm (aU x c hc) λo1 o2 o3 o4=>⟨c,Ä,by show(own++cl).lookup x=À c;rw[Ō,hc];rfl,o1,.inl ⟨o2,o3⟩,K2.HJ o2⟩
 have fU:¬Pin Da:=λh=>by
  rcases h with⟨_,h⟩|⟨x,i,h1,h2,h3⟩|h
  rotate_right
  .exact å ((K2.ex _ h).2.alive) λo ho=>ÿ<|HN.symm.trans ho
  .exact h rfl
  .refine sm (CG x i h1 h2) λc1 c2 c3 c4=>?_;refine å (İ.1 h2) λw hw=>?_;rw[c4] at hw;exact å (dt K2 c2 (v:=w.1) (m:=w.2) hw Da h3) λo ho=>ÿ<|HN.symm.trans ho
 have Xp:∀b∈ws,∃o,s2.heap.get? b=À o:=λb hb=>gi b<|D.sub b hb;have vj:∀b∈ws,¬Pin b:=λb hb=>Fg b<|D.sub b hb;have Mw:Da∉fp:=λh=>å (gi _ h) λo ho=>ÿ<|HN.symm.trans ho;have Mj:∀b∈ws,X.T.get? b=Ä:=λb hb=>K2.low b (LA b hb).1;have YX:X.T.get? Da=Ä:=by
  cases e:X.T.get? Da with
  |none=>rfl
  |some o=>rw[K2.top _ _ e] at HN;exact gC HN
 have Gz:∀x c,(own++cl).lookup x=À c->c∉fp/\c≠Da:=λx c hx=>by
  rw[Ō] at hx;cases e1:own.lookup x with
  |some c1=>
   rw[e1] at hx;simp at hx;subst hx;exact sm (aU x _ e1) λ_ o2 o3 _=>⟨(λh=>å (gi _ h) λo ho=>ÿ<|o2.symm.trans ho),o3⟩
  |none=>
   rw[e1,eH] at hx;refine⟨i4.2.1 x c<|oF x c hx,λe=>?_⟩;refine wO (K2.Ė x c<|oF x c hx) λv o ho _=>?_;rw[e,HN] at ho;exact ÿ ho
 have J8:∀{qW:St}{ft:Á->Ã Ĳ}{Bj:PB}{hj:gk},Ok X.T Pin Bj i5 š.dl š.wl qW ft hj->Off i5 š.dl qW ft ws:=λKj=>
  ⟨λhm=>vj _ hm Kj.loc.2.1,λx c hx hm=>(Gz x c hx).1<|D.sub _ hm,λx i hx hi a ha hm=>by
   exact å (İ.1 hi) λw hw=>Kj.Æ x i w.1 w.2 hx hw λu _ _ h3=>vj a hm<|h3 a ha,λa ha hm=>i4.2.2.2 a ha<|D.sub _ hm⟩
 have W9:∀{qW:St}{ft:Á->Ã Ĳ}{Bj:PB}{hj:gk},Ok X.T Pin Bj i5 š.dl š.wl qW ft hj->Off i5 š.dl qW ft [Da]:=λKj=>
  ⟨λhm=>by rw[Ċ] at hm;exact TM hm,λx c hx hm=>by rw[Ċ] at hm;exact(Gz x c hx).2 hm,λx i hx hi a ha hm=>by
   rw[Ċ] at hm;exact å (İ.1 hi) λw hw=>Kj.Æ x i w.1 w.2 hx hw λu _ _ h3=>fU<|hm▸h3 a ha,λa ha hm=>by rw[Ċ] at hm;exact fU<|hm▸.inr (.inr ha)⟩
 have fin:∀(sf:ŕ)(Bf:PB)(M7:Á->Ã Ĳ)(U9:gS Ë)(nf:Á)(ow:Ã Ĳ),(∀a∈ow,Pin a)->(∀y i,š.δ.lookup y=À i->(dM.get i).isSome=true->∀a∈M7 i,a∉ow)->(∃h tk,sf={s2 with heap:=h,toks:=tk})->Ok X.T (λa=>Pin a\/a∈ws) Bf i5 š.dl š.wl dM M7 sf.heap->sf.heap.get? Da=À {cls:=.type "list",data:=.seq U9 nf}->
   Acc Bf sf.heap m r U9.toList ow->Bf Da=Ä->ŀ B2 Bf->(∀a o,Bf a=À o->B2 a=À o\/Pin a)->(∀a o,s2.heap.get? a=À o->¬Pin a->a∉ws->sf.heap.get? a=À o)->
   oQ (aT X.prog X.w) A E use Q (.ref Da) Ca (.ok .next) sf:=by
  intro sf Bf M7 U9 nf ow HT AS YS Kf MY lH HL nx mT OG;refine å Kf.loc.1 λmm RY=>?_;have OY:∀a,(Pin a\/a∈ws)->P a:=λa h=>h.elim (oR a) λh=>(LA a h).1;have K0:∀a o,s2.heap.get? a=À o->¬Pin a->a∉ws->sf.heap.get? a=À o:=OG;have vM:∀a,B2 a=Ä->¬Pin a->Bf a=Ä:=λa hb hn=>by
   cases e:Bf a with
   |none=>rfl
   |some o=>
         rcases mT a o e with q|q
         .exact ÿ<|hb.symm.trans q
         .exact ó q hn
  have vP:∀a,(∃o,s2.heap.get? a=À o)->Pin a->(∃items,IsL s2.heap a items)\/a∈bS:=λa ⟨o,ho⟩ h=>by
   obtain⟨x,i,h1,h2,h3⟩|h:=yg a o ho h
   rotate_left
   .exact .inr h
   left;refine sm (CG x i h1 h2) λc1 c2 c3 c4=>?_;refine å (İ.1 h2) λw hw=>?_;rw[c4] at hw;exact K2.Æ x i w.1 w.2 c2 hw λu _ h5 _=>ì (h5.lists a h3) λitems q _=>⟨items,q⟩
  have CW:¬Pin env.locals:=λh=>by
   refine Ö ?_ K2.loc;rintro⟨m',hn⟩ _;refine Ma (id hn) λ_ _ _ ho _=>?_;obtain⟨items,q⟩|q:=vP _ ⟨_,ho⟩ h
   .exact ī q hn rfl
   .exact(K2.ex _ q).2.ne_ns hn rfl
  have KA:∀x c,env.cells.lookup x=À c->¬Pin c:=λx c hx h=>by
   refine å (K2.Ė x c hx) λv hc=>?_;obtain⟨items,q⟩|q:=vP _ ⟨_,hc.choose_spec.1⟩ h
   .exact ĥ q hc rfl
   .exact(K2.ex _ q).2.iK hc rfl
  have QF:∀{a},a∉fp->a∉ws:=λh hw=>h<|D.sub _ hw;have HB:∀x c v,env.cells.lookup x=À c->s2.heap.IsCell c v->sf.heap.IsCell c v:=λx c v hx ⟨o,ho,hd⟩=>⟨o,K0 c o ho (KA x c hx)<|QF<|i4.2.1 x c hx,hd⟩
  have Yf:∀y u,At s2.heap env y u->At sf.heap env y u:=λy u h=>by
   rcases h with⟨kd,m',⟨o,es,ep,ho,r'⟩,e⟩|⟨kd,c,hl,hc⟩
   .exact .inl ⟨kd,m',⟨o,es,ep,K0 _ _ ho CW<|QF i4.1,r'⟩,e⟩
   .exact .inr ⟨kd,c,hl,HB y c _ hl hc⟩
  have TF:∀x y i,š.δ.lookup x=À i->sc.δ.lookup y=À i->x=y/\scope.names.lookup x=À .free:=λx y i hx hy=>by
   exact Ϸ (C.CG x i hx<|C.out y i hy) λa b _=>⟨K2.inj x y i b hy,a⟩
  have wD:∀y i,sc.δ.lookup y=À i->(¬∃x,š.δ.lookup x=À i)->dM.get i=Ø.get i:=λy i hy hn=>hm y i hy λe=>hn ⟨y,e⟩;have CQ:∀y i,sc.δ.lookup y=À i->(¬∃x,š.δ.lookup x=À i)->(Ø.get i).isSome=true->∀a∈cR i,¬Pin a:=λy i hy hn uX a ha h=>by
   refine å (İ.1 uX) λw hw=>?_;refine å (dt K2 hy (v:=w.1) (m:=w.2) hw a ha) λo ho=>?_;obtain⟨x,i',h1,h2,h3⟩|h:=yg a o ho h
   rotate_left
   .exact K2.Æ y i w.1 w.2 hy hw λu _ q2 _=>ì (q2.lists a ha) λ_ q3 _=>(K2.ex a h).2.dP q3 rfl
   exact sm (CG x i' h1 h2) λc1 c2 c3 c4=>K2.apart x y i' i c2 hy (λe=>hn ⟨x,e▸h1⟩) (by rw[<-c4];exact h2) uX a h3 ha
  have KO:Ok X.T P Bf env sc.dl sc.wl dM (λi=>open Classical in if∃x,š.δ.lookup x=À i then M7 i else cR i) sf.heap:=by
   refine{top:=λa o e=>K0 a o (K2.top a o e) (λh=>by rw[K2.low a (oR a h)] at e;exact ÿ e) λhw=>by rw[Mj a hw] at e;exact ÿ e,low:=K2.low,hi:=λa ha=>?_,base:=Kf.base,kind:=K2.kind,glob:=K2.glob,loc:=?_,cells:=K2.cells,Ė:=λx c hx=>å (K2.Ė x c hx) λv hc=>⟨v,HB x c v hx hc⟩,ϓ:=K2.ϓ,wrs:=λx hx=>?_,inj:=K2.inj,vars:=λy i v m hy hv=>?_,apart:=λy z i j hy hz Ap M1 SD=>?_,ex:=λa ha=>((Kf.ex a ha).elim λhp e=>⟨OY a hp,e⟩)}
   .cases e:s2.heap.get? a with
    |none=>exact K2.hi a e
    |some o=>
     by_cases hp:Pin a
     .exact oR a hp
     .by_cases hw:a∈ws
      .exact(LA a hw).1
      .rw[K0 a o e hp hw] at ha;exact gC ha
   .refine Ϸ K2.loc ?_;rintro⟨m',o,es,ep,ho,r'⟩ hp hb;exact⟨⟨m',o,es,ep,K0 _ _ ho CW<|QF i4.1,r'⟩,hp,vM _ hb CW⟩
   .rcases K2.wrs x hx with q'|⟨q',c,v,g1,g2,Y2,g4⟩
    .exact .inl q'
    .exact .inr ⟨q',c,v,g1,HB x c v g1 g2,Y2,vM _ g4<|KA x c g1⟩
   .by_cases Ry:∃x,š.δ.lookup x=À i
    .simp only[ť Ry];refine å Ry λx hx=>?_;obtain⟨rfl,Kx⟩:=TF x y i hx hy;refine Kf.Æ x i v m hx hv λval b1 b2 b3=>?_;refine⟨val,?_,b2,λa ha=>OY a<|b3 a ha⟩
     .rcases b1 with⟨kd,_⟩|⟨kd,c,hl,hc⟩
      .rw[ik,Kx] at kd;simp at kd;split at kd<;>cases kd
      .have Sg:(own++cl).lookup x=À c:=hl;rw[Ō,La x Kx,eH] at Sg;refine .inr ⟨?_,c,oF x c Sg,hc⟩;have:=(C.CG x i hx<|C.out x i hy).2.2;rcases C.free x (mem_of_lookup Kx) with e|e
       .exact .inl<|by rw[WK];exact e
       .exact .inr ⟨by rw[WK];exact e,this⟩
    .simp only[È Ry];rw[wD y i hy Ry] at hv;refine K2.Æ y i v m hy hv λval b1 b2 b3=>?_;refine⟨val,Yf y val b1,?_,b3⟩;have Vf:∀{a items},IsL s2.heap a items->¬Pin a->a∉ws->IsL sf.heap a items:=λ{a items}hl n nw=>ì hl λo ho r'=>⟨o,K0 _ _ ho n nw,r'⟩
     have go:∀{cz as},ă s2.heap B2 cz as->(∀a∈as,¬Pin a/\a∉ws)->ă sf.heap Bf cz as:=by
      intro cz as hh
      induction hh with
      |nil=>intro _;exact .nil
      |cons hl hB hv t ih=>intro hn;exact .cons (Vf hl (hn _<|.head _).1 (hn _<|.head _).2) (vM _ hB (hn _<|.head _).1) (hv.mono nx)<|ih λa ha=>hn a<|.tail _ ha
     have Vk:∀{as},ĭ s2.heap B2 v m val as->(∀a∈as,¬Pin a/\a∉ws)->ĭ sf.heap Bf v m val as:=by
      intro as hh hn
      induction hh with
      |z Bp=>exact .z<|Bp.mono nx
      |one hl hB Bp=>exact .one (Vf hl (hn _<|.head _).1 (hn _<|.head _).2) (vM _ hB (hn _<|.head _).1)<|Bp.mono nx
      |two hl hB YC nd=>exact .two (Vf hl (hn _<|.head _).1 (hn _<|.head _).2) (vM _ hB (hn _<|.head _).1) (go YC λa ha=>hn a<|.tail _ ha) nd
     exact Vk b2 λa ha=>⟨(CQ y i hy Ry<|by rw[hv];rfl) a ha,QF<|(i4.2.2.1 y i hy<|by rw[hv];rfl) a ha⟩
   .have Kw:∀y z i j,sc.δ.lookup y=À i->sc.δ.lookup z=À j->(∃x,š.δ.lookup x=À i)->(¬∃x,š.δ.lookup x=À j)->(dM.get i).isSome=true->(dM.get j).isSome=true->∀a∈M7 i,a∉cR j:=λy z i j hy hz ⟨x,hx⟩ hn h1 h2 a ha hb=>by
     refine å (İ.1 h1) λw hw=>?_;refine Kf.Æ x i w.1 w.2 hx hw λu _ _ b3=>?_;rw[wD z j hz hn] at h2;rcases b3 a ha with q'|q'
     .exact CQ z j hz hn h2 a hb q'
     .exact QF (i4.2.2.1 z j hz h2 a hb) q'
    by_cases e1:∃x,š.δ.lookup x=À i<;>by_cases e2:∃x,š.δ.lookup x=À j<;>simp[e1,e2]
    .exact å e1 λx hx=>å e2 λx' HO=>Kf.apart x x' i j hx HO Ap M1 SD
    .exact Kw y z i j hy hz e1 e2 M1 SD
    .exact λa ha hb=>Kw z y j i hz hy e2 e1 SD M1 a hb ha
    .exact K2.apart y z i j hy hz Ap (by rw[<-wD y i hy e1];exact M1)<|by rw[<-wD z j hz e2];exact SD
  have fr:gB sc.dl dM (λi=>open Classical in if∃x,š.δ.lookup x=À i then M7 i else cR i) (Da::ow):=λy i hy uX a ha hb=>by
   rcases(ő.1 ha).symm with XZ|e
   .by_cases e1:∃x,š.δ.lookup x=À i
    .simp only[ť e1] at hb;exact å e1 λx hx=>AS x i hx uX a hb XZ
    .simp only[È e1] at hb;rw[wD y i hy e1] at uX;exact CQ y i hy e1 uX a hb<|HT a XZ
   subst a;by_cases e1:∃x,š.δ.lookup x=À i
   .simp only[ť e1] at hb;refine å e1 λx hx=>?_;refine å (İ.1 uX) λw hw=>?_;refine Kf.Æ x i w.1 w.2 hx hw λu _ _ b3=>?_;rcases b3 _ hb with q'|q'
    .exact fU q'
    .exact Mw<|D.sub _ q'
   .simp only[È e1] at hb;rw[wD y i hy e1] at uX;exact å (İ.1 uX) λw hw=>(å (dt K2 hy (v:=w.1) (m:=w.2) hw _ hb) λo ho=>ÿ<|HN.symm.trans ho)
  have Va:Off env sc.dl dM (λi=>open Classical in if∃x,š.δ.lookup x=À i then M7 i else cR i) [Ca]:=by
   refine⟨λh=>?_,λx c hx h=>?_,λy i hy uX a hb h=>?_,λa ha h=>by
    rw[Ċ] at h;refine å ((K2.ex a ha).2.alive) λo ho=>?_;rw[h,yv] at ho;exact ÿ ho⟩
   .rw[Ċ] at h;refine Ö ?_ K2.loc;rintro⟨m',o,es,ep,ho,r'⟩ _;rw[h,yv] at ho;exact ÿ ho
   .rw[Ċ] at h;refine wO (K2.Ė x c hx) λv o ho _=>?_;rw[h,yv] at ho;exact ÿ ho
   .rw[Ċ] at h;subst a;by_cases e1:∃x,š.δ.lookup x=À i
    .simp only[ť e1] at hb;refine å e1 λx hx=>?_;exact å (İ.1 uX) λw hw=>Kf.Æ x i w.1 w.2 hx hw λu _ b2 b3=>ì (b2.lists _ hb) λitems q' _=>ī q' RY rfl
    .simp only[È e1] at hb;rw[wD y i hy e1] at uX;exact å (İ.1 uX) λw hw=>(å (dt K2 hy (v:=w.1) (m:=w.2) hw _ hb) λo ho=>ÿ<|yv.symm.trans ho)
  exact q sf Bf _ Da Ca ow mm (S2.trans<|⟨⟨YS,λa o e n=>K0 a o e (λh=>n<|oR a h) λhw=>n (LA a hw).1,nx,λa o e=>(mT a o e).imp id<|oR a⟩,Yf⟩) KO (lH.Wn MY HL λh=>fU<|HT _ h) (λa ha=>by
    rcases ő.1 ha with e|ha
    .subst a;exact K2.hi _ HN
    .exact oR _<|HT a ha) fr Va (λa ha=>by
    rcases ő.1 ha with e|ha
    .subst a;exact λe=>TM e.symm
    .exact ì (lH.lists a ha) λXN q' _=>ī q' RY) RY (K2.hi _ yv) Kf.loc.2.2
 have VJ:∀{P':Ĳ->Prop}{a:Ĳ}{s s':ŕ}{B B':PB},Step P' s s' B B'->B a=Ä->¬P' a->B' a=Ä:=λ{P' a s s' B B'}S hb hn=>by
  cases e:B' a with
  |none=>rfl
  |some o=>
        rcases S.new a o e with q'|q'
        .exact ÿ<|hb.symm.trans q'
        .exact ó q' hn
 have N1:Da∉ws:=λh=>Mw<|D.sub _ h;have HA:hZ (aT X.prog X.w) A (.compLoop (.ListComp Ż (⟨te,iter,Cz,0⟩::aE) scope pos) 0 (.ref I) (.ref Da) i5) (oQ (aT X.prog X.w) A E use Q (.ref Da) Ca) {s2 with heap:=h5}:=by
  refine qm hT (N5 X ġ cf fe items dM r Pin i5 š Sv Da m B2 ws s2) ?_ items.length ⟨0,CD,B2,cR,[],#[],0,[],r,by simp,Ϫ _,by simpa using h3,rfl,K5.grow (λa h=>⟨h,by simp⟩) λa h=>K2.low a<|oR a h.1,D.frame _ _ _ CK λb hb o e=>FD _ _ e,k5 _ _<|k4 _ _ d3,.nil Vy,K2.HJ HN,λb hb=>(LA b hb).2,.refl _,λa o e=>.inl e,λa o e _ _=>FD _ _ e,⟨h5,s2.toks,rfl⟩,(λ_ h=>ϭ h),rfl⟩
  .intro n s4 hh;refine gn λG iD=>?_;obtain⟨j,qW,Bj,ft,done,mQ,nn,ow,Dt,en,hj,dH,hr,VO,H8,MY,lH,HL,IL,zd,Kg,pP,Ou,HT,EG⟩:=hh;have K4:Ok X.T Pin Bj i5 š.dl š.wl qW ft s4.heap:=VO.grow (λa h=>h.1) λa h=>K2.low a<|oR a h;have AS:∀y i,š.δ.lookup y=À i->(qW.get i).isSome=true->∀a∈ft i,a∉ow:=λy i hy uX a ha=>by
    exact å (İ.1 uX) λw hw=>VO.Æ y i w.1 w.2 hy hw λu _ _ b3=>(b3 a ha).2
   have Xc:∀a∈ow,a∉ws:=λa ha hw=>vj a hw<|HT a ha;by_cases sy:j<items.length
   .obtain⟨v,Co⟩:∃v,items[j]?=À v:=⟨items[j],by simp[sy]⟩
    rw[fH sy] at dH;have Ru:items[j]=v:=by have:=Ų sy;rw[this] at Co;exact à Co
    rw[Ru] at dH;refine CI (js dH) λFN ok Nw e5 e6 dH=>?_;refine iD ?_;refine D.Ki (λ_ _=>rfl) Co H8 K4.base zd IL λval h' tk B5 J1 yE Mr C5 Fy Bp=>?_
    .skip
     have d5:h'.get? Da=À {cls:=.type "list",data:=.seq mQ nn}:=J1 _ _ N1 MY;have GC:∀a,(∃o,s4.heap.get? a=À o)->Bj a=Ä->B5 a=Ä:=λa ⟨o,ho⟩ hb=>by
      cases e':B5 a with
      |none=>rfl
      |some o'=>
           rcases C5 a o' e' with q'|q'
           .exact ÿ<|hb.symm.trans q'
           .exact gC<|ho.symm.trans q'
     have n5:∀a o,B5 a=À o->B2 a=À o\/Pin a:=λa o e=>by
      rcases C5 a o e with q'|q'
      .exact Kg a o q'
      .exact .inr<|K4.hi a q'
     have go:∀{s':ŕ}{B':PB},Step (λa=>Pin a/\a∉ow) {s4 with heap:=h',toks:=tk} s' B5 B'->Sv (j+1) s'.heap/\s'.heap.get? Da=À {cls:=.type "list",data:=.seq mQ nn}/\B' Da=Ä/\(∀b∈ws,B' b=Ä)/\ŀ B2 B'/\
       (∀a o,B' a=À o->B2 a=À o\/Pin a)/\(∀a o,s2.heap.get? a=À o->¬Pin a->a∉ws->s'.heap.get? a=À o)/\(∃h tk,s'={s2 with heap:=h,toks:=tk})/\Acc B' s'.heap m done mQ.toList ow:=λ{s' B'}S'=>
      ⟨D.frame _ _ _ Fy λb hb o e=>S'.kept b o e λh=>Fg b hb h.1,S'.kept _ _ d5 λh=>fU h.1,VJ S' (GC _ ⟨_,MY⟩ HL) λh=>fU h.1,λb hb=>VJ S' ((λb hb=>GC _ (D.live _ _ H8 b hb)<|IL b hb) b hb) λh=>vj b hb h.1,(zd.trans yE).trans S'.le,λa o e=>by
        rcases S'.new a o e with q'|q'
        .exact n5 a o q'
        .exact .inr q'.1,λa o e n nw=>S'.kept _ _ ((λa o e n nw=>J1 _ _ nw<|pP a o e n nw) a o e n nw) λh=>n h.1,by
        refine zm Ou λh1 t1 e1=>?_;refine zm S'.eq λh2 t2 e2=>?_;exact⟨h2,t2,by rw[e2,e1]⟩,(lH.go yE (λa ha o e=>J1 a o (Xc a ha) e) λa ha hb=>GC a (let⟨_,⟨o,ho,_⟩,_⟩:=lH.lists a ha;⟨o,ho⟩) hb).go S'.le (λa ha o e=>S'.kept a o e λh=>h.2 ha) λa ha hb=>VJ S' hb λh=>h.2 ha⟩
     refine yG (s:={s4 with heap:=h',toks:=tk}) ht hR.hd (VO.outside J1 (D.live _ _ Fy) (J8 K4) Mj yE Mr C5) e5 Bp λs6 SI S6 K6=>?_;refine oj.tests hc Na hR K6 e6 λs7 B7 Xq S7 K7=>gn λG iD=>?_;have XM:=S6.trans S7.toStep;rcases dH with⟨rfl,dH⟩|⟨rfl,x',Sq,xs,e8,e9,rfl⟩
     .refine iD ?_;simp only[aX,jz];obtain⟨g1,g2,g3,g4,g5,g6,g7,g8,g9⟩:=go XM;exact⟨items.length-(j+1),by omega,j+1,Nw,B7,Xq,done,mQ,nn,ow,Dt,rfl,sy,dH,hr,K7,g1,g2,g9,g3,g4,g5,g6,g7,g8,HT,EG⟩
     .refine iD ?_;simp only[sJ];obtain⟨g1,g2,g3,g4,g5,g6,g7,g8,g9⟩:=go XM;have Wd:mQ.size+x'.length<=1000000:=by
       exact(A4 0xf4240572080f42405732818061026) EG<|eU▸eU▸hr▸(Vx uy)
      refine Z4 i5 Na Nw x' Sq e8 _ B7 Xq A s7 _ _ Da mQ nn Wd hR K7 g2 g3 (λh=>fU h.1) YX (λx c hx=>(Gz x c hx).2) λs9 B9 Zd new n9 Z3 Zu KR Po J9 K9 YT Kv Pd=>?_;have b9:∀a,B7 a=Ä->¬(Pin a/\a∉ow)->B9 a=Ä:=λa hb hn=>by
       cases e':B9 a with
       |none=>rfl
       |some o'=>
            rcases J9 a o' e' with q'|q'
            .exact ÿ<|hb.symm.trans q'
            .exact ó q' hn
      refine⟨items.length-(j+1),by omega,j+1,Sq,B9,Zd,done++x',mQ++new,n9,ow++Z3,xs,rfl,sy,e9,by rw[hr];simp,
       ?_,D.frame _ _ _ g1 λb hb o e=>KR b o (λhm=>Mw<|hm▸hb) e λh=>Fg b hb h.1,YT,?_,b9 _ g3 λh=>fU h.1,λb hb=>b9 _ (g4 b hb) λh=>vj b hb h.1,g5.trans Po,λa o e=>?_,λa o e n nw=>KR a o (λhm=>by rw[hm,HN] at e;exact ÿ e) (g7 a o e n nw) λh=>n h.1,?_,λa ha=>?_,?_⟩
      .exact K9.grow (λa h=>⟨h.1.1,λhm=>(æ.mp hm).elim h.1.2 h.2⟩) λa h=>K2.low a<|oR a h.1
      .rw[hY];exact(g9.go Po (λa ha o e=>KR a o ((show∀a∈ow,a≠Da from λa ha e=>(λh=>fU<|HT _ h)<|e▸ha) a ha) e λh=>h.2 ha) λa ha hb=>b9 a hb λh=>h.2 ha).app Kv λa ha hb=>(Pd a hb).2 ha
      .rcases J9 a o e with q'|q'
       .exact g6 a o q'
       .exact .inr q'.1
      .exact zm g8 λh1 t1 e1=>zm Zu λh2 t2 e2=>⟨h2,t2,by rw[e2,e1]⟩
      .rcases æ.mp ha with h|h
       .exact HT a h
       .exact(Pd a h).1
      .rw[<-Ì,hY,eU,Ì,EG,eU,Kv.length]
   .have Kc:j=items.length:=((A2 17733946576902) hj sy)
    rw[Kc,rP] at dH;obtain⟨e1,e2⟩:Dt=[]/\qW=dM:=by cases(show À ([],qW)=À (Dt,dM) from dH);exact⟨rfl,rfl⟩
    rw[e1,pH] at hr;rw[Kc] at H8;rw[e2] at K4 AS;refine iD ?_;exact D.done s4 _ _ H8 λh' tk hk=>(fin {s4 with heap:=h',toks:=tk} Bj ft mQ nn ow HT AS (zm Ou λh1 t1 e1=>⟨h',tk,by rw[e1]⟩) ((K4.grow (λa h=>.inl h) λa h=>h.elim (λh=>K2.low a<|oR a h)<|Mj a).eS hk (λb hb=>.inl<|.inr hb) (J8 K4) Mj (.refl _) (λa o e=>hk a o (λhw=>by rw[IL a hw] at e;exact ÿ e)<|K4.base a o e) λa o e=>.inl e) (hk _ _ N1 MY) (hr▸lH.go (.refl _) (λa ha o e=>hk a o (Xc a ha) e) λ_ _ h=>h) HL zd Kg λa o e n nw=>hk _ _ nw<|pP a o e n nw)
 exact codeAny_compStart_list HA<|D.self 0 _ _ _ (D.frame _ _ _ CK λb hb o e=>FD _ _ e) HA
end
noncomputable def uN(b:Expr):ey->Ë->ŭ Unit:=λenv a=>do let _<-Î (.builtin "list.append") [a,<-eval b env]
def zS{b t a:Expr}:um b t a Cz [] scope pos (uN b):=by
 intro f c env;rfl
def P5(b:ġ.ö v σ=À FN)(h:(match cf with|none=>À (true,FN)|some c=>c FN)=À (false,Nw))(a:Ĉ ġ cf em vs Nw=R):Ĉ ġ cf em (v::vs) σ=R:=by
 induction cf with
 |none=>cases h
 |some c=>exact fb b<|fb (x:=c FN) h a
def Ro(a:ġ.ö v σ=À FN)(h:(match cf with|none=>À (true,FN)|some c=>c FN)=À (true,Nw))(f:em Nw=À (x,ZP))(b:Ĉ ġ cf em vs ZP=À (xs,Sq)):Ĉ ġ cf em (v::vs) σ=À (x++xs,Sq):=by
 induction cf with
 |none=>cases h;exact fb a<|fb (x:=À (true,FN)) rfl<|fb f<|fb b rfl
 |some c=>exact fb a<|fb (x:=c FN) h<|fb f<|fb b rfl
def wd{items:Ã V}:∀{r:Ã V}{σ a:St},ą ġ cf Ż items σ=À (r,a)->
  Ĉ ġ cf (λσ=>(Ż σ).map λx=>([x.1],x.2)) items σ=À (r,a)/\r.length<=items.length:=by
 induction items with
 |nil=>exact λh=>â (M:=λr a=>Ĉ ġ cf _ [] _=À (r,a)/\r.length<=0) h ⟨rfl,aj _⟩
 |cons v vs ih=>
  intro r σ a h;refine CI (kx h) λj ok m f c h=>?_;rcases h with⟨rfl,b⟩|⟨rfl,x,g,xs,o,b,rfl⟩
  .exact⟨P5 f c (ih b).1,Ew (ih b).2⟩
  .exact⟨Ro f c (by exact Å o rfl) (ih b).1,CU (ih b).2⟩
section
variable{X:Cx}{k:Á}{sc š:Sc}
def qp.one(h:SE X k sc Ż pe):qp X k sc 1 (λσ=>((ß pe σ).map λx=>(x.1,x.2.2)).map λx=>([x.1],x.2)) (uN Ż):=by
 intro env he σ xs ø hf P B α A s Q E D ϝ nn G hR K L W g hT J q;apply ì<|aG hf;rintro⟨v,Ø⟩ S e;cases e;apply ì<|aG S;rintro⟨v,m,Ø⟩ h1 H;cases H;apply Ü<|(h env he σ _ _ _ h1).é P B α A s _ _ hR K λva s1 Y M Ab S1 C O1 NN Bo=>?_;have b1:Y D=Ä:=by
  cases e:Y D with
  |none=>rfl
  |some o=>
     rcases S1.new D o e with R|R
     .exact ÿ<|W.symm.trans R
     .exact ó R g
 refine Ü (Hh (S1.kept _ _ L g) (λh9 O y=>õ ?_)<|ú (ú (wV _ _) G)<|by decide);refine zm S1.eq λSP t1 H=>?_;have t:∀b o,b≠D->s1.heap.get? b=À o->h9.get? b=À o:=λb o f e=>(O.2 b f).trans e;have nil:∀{a:Ĳ}{p:Prop},a∈([]:Ã Ĳ)->p:=λh=>ϭ h;refine q _ Y M [va] (nn+1) [] ⟨h9,t1,Å H rfl⟩ (λb o f e n=>t b o f<|S1.kept b o e n) S1.le S1.new ?_ ?_ (.frozen<|.cons O1.vr .nil) λa h=>nil h
 .refine(C.shrink (fp:=[]) ⟨nil,λ_ _ _=>nil,λ_ _ _ _ _ _=>nil,λ_ _=>nil⟩ λb f=>nil f).outside (ws:=[D]) (λb o f e=>t b o (λI=>f<|Å I<|.head _) e) (λb f=>by rw[Ċ] at f;subst f;exact⟨_,y⟩) ⟨λj=>?_,λx c hx j=>?_,λx i hx hi b f j=>?_,λx hx j=>by rw[Ċ] at j;exact g<|j▸(C.ex x hx).1⟩
    (λb f=>by rw[Ċ] at f;subst f;exact hT) (.refl _) (λb o e=>t b o (λI=>by rw[I,b1] at e;exact ÿ e)<|C.base b o e) λb o e=>.inl e
  .rw[Ċ] at j;exact g<|j▸C.loc.2.1
  .rw[Ċ] at j;exact J x c hx j
  .rw[Ċ] at j;subst j;exact å (İ.1 hi) λw hw=>C.Æ x i w.1 w.2 hx hw λu _ _ h3=>g<|h3 b f
 .refine Å y ?_;congr 3
def uH{j a I:Expr}
  (hi:dO X k sc I a f ϝ) (Y:ip š I ġ) (L:oj X k š Cz cf) (p:SE X k š j ϕ) (C:sO sc š scope.names ġ.slots)
  (W:∀env x,foldedSetIterable a env x=pure x) (g:scope.kind=.function)
  (he:env.scope.names=sc.kinds) (h1:ď ϝ σ=À (vs,Ø)) (h2:f vs=À items)
  (h3:ą ġ cf (λσ=>(ß ϕ σ).map λx=>(x.1,x.2.2)) items (Ø.aaa ġ.slots)=À (r,dM))
  (hm:∀x i,sc.δ.lookup x=À i->š.δ.lookup x≠À i->dM.get i=Ø.get i)
  (R:ţ k A) (K:Ok X.T P B env sc.dl sc.wl σ α s.heap)
  (q:∀(s':ŕ)(B':PB)(b:Á->Ã Ĳ)(D c:Ĳ)m,Ķ env P s s' B B'->Ok X.T P B' env sc.dl sc.wl dM b s'.heap->ĭ s'.heap B' (.Ñ r) 1 (.ref D) [D]->P D->gB sc.dl dM b [D]->
   Off env sc.dl dM b [c]->c≠D->s'.heap.Ns c m->P c->B' c=Ä->oQ (aT X.prog X.w) A E use Q (.ref D) c (.ok .next) s'):
  wq X A (nK (.ListComp j [⟨I,a,Cz,0⟩] scope pos) scope env V3 (nF []) false (eval a env) use) Q E s:=by
 apply Ö (λv S=>?_)<|wd h3;refine la hi Y L (qp.one p) (.inl rfl) zS C W g he h1 h2 v hm (λh=>ú S h) R K λs' B' b D c M m S' K' O J fr G y o t H=>?_;obtain rfl:M=[]:=by cases O;rfl
 exact q s' B' b D c m S' K' O (J D<|.head _) fr G (λe=>y D (.head _) e.symm) o t H
end
noncomputable def ba(sc š:Sc)(m:Ã Á):Ò:=sc.δ.all λp=>decide (š.δ.lookup p.1=À p.2)||!m.contains p.2
def Sn(X:Cx)(k:Á)(sc:Sc)(env:ey)(c:Expr)(g:Ã DI)(scope:pn)(pos:o6)(v:V)(m:Á)(σ a:St):Prop:=
 ∀(P:Ĳ->Prop)(B:PB)(f:Á->Ã Ĳ)(A:q6)(s:ŕ)(Q E:Ë->ŕ->Prop)(use:Ï (Ë->ŭ Unit)),ţ k A->Ok X.T P B env sc.dl sc.wl σ f s.heap->
 (∀(s':ŕ)(B':PB)(b:Á->Ã Ĳ)(D C:Ĳ)h,Ķ env P s s' B B'->Ok X.T P B' env sc.dl sc.wl a b s'.heap->ĭ s'.heap B' v m (.ref D) [D]->P D->gB sc.dl a b [D]->
  Off env sc.dl a b [C]->C≠D->s'.heap.Ns C h->P C->B' C=Ä->oQ (aT X.prog X.w) A E use Q (.ref D) C (.ok .next) s')->
 wq X A (nK (.ListComp c g scope pos) scope env (Gv g pos) (nF []) (DV g) (firstIter g env) use) Q E s
def SC(X:Cx)(k:Á)(sc:Sc)(b:Expr)(g:Ã DI)(scope:pn)(pos:o6)(pe:PE):Prop:=
 ∀env,env.scope.names=sc.kinds->∀σ v m a,ß pe σ=À (v,m,a)->Sn X k sc env b g scope pos v m σ a
section
variable{X:Cx}{k:Á}{sc š:Sc}
def z6(m:ba sc š ms=true)(hx:sc.δ.lookup x=À i)(h:¬š.δ.lookup x=À i):i∉ms:=by
 unfold ba at m;rw[ę] at m;have:=m _<|mem_of_lookup hx;rw[zg,ϻ,or_iff_right h,rN,contains_eq_mem,oX] at this;exact this
def SC.comp{b a t:Expr}(š:Sc)
  (hi:dO X k sc t a f ϝ) (I:ip š t ġ) (c:SE X k š b ϕ) (C:f9 sc š scope.names ġ.slots=true) (J:ba sc š (ġ.slots++Ŋ ϕ)=true)
  (D:∀env x,foldedSetIterable a env x=pure x:=by intro _ _;rfl) (h:scope.kind=.function:=by rfl):SC X k sc b [⟨t,a,[],0⟩] scope pos (.comp ϕ ġ f ϝ Ä):=by
 intro env w σ v m o p;refine z3 (M:=λv m=>Sn X k sc env b _ scope pos v m σ) p λvs Ø items r G y H g=>?_;intro P B L A s Q E use R K q;exact uH hi I .no c (.of C) D h w y H g (λx i hx j=>p8 (eP ϕ) g<|z6 J hx j) R K q
def SC.oS{b a t c:Expr}(š:Sc)
  (hi:dO X k sc t a f ϝ) (D:ip š t ġ) (o:cG X k š c pc) (g:SE X k š b ϕ) (C:f9 sc š scope.names ġ.slots=true) (L:ba sc š (ġ.slots++Ŋ ϕ++Ŋ pc)=true)
  (y:∀env x,foldedSetIterable a env x=pure x:=by intro _ _;rfl) (h:scope.kind=.function:=by rfl):SC X k sc b [⟨t,a,[c],0⟩] scope pos (.comp ϕ ġ f ϝ<|À pc):=by
 intro env H σ v m w p;refine qM (M:=λv m=>Sn X k sc env b _ scope pos v m σ) p λvs Ø items r J I O j=>?_;intro P B S A s Q E use R K q;exact uH hi D (.one o) g (.of C) y h H I O j (λx i hx G=>qa (eP pc) (eP ϕ) j<|z6 L hx G) R K q
def SE.of(h:SC X k sc Ż gens scope pos pe):SE X k sc (.ListComp Ż gens scope pos) pe:=by
 intro env H σ v m g C P B G A s Q E R K q;refine Å (eval_ListComp ..) ?_;apply h env H σ v m g C P B G A s Q E Ä R K λs' B' c D L y I K' O x fr p o f j t=>⟨y,f,λM b=>?_⟩
 apply Ö (λJ S=>?_)<|yq K' p j t b;apply q (.ref D) _ B' c [D] (I.trans S) J (O.other b.2 λh=>?_) (λa w=>by obtain rfl:=Ċ.1 w;exact x) fr;have h:=Ċ.1 h;exact o h
variable{F:Á}
noncomputable def uR(K:Ã (Str×NameKind)):ey:={scope:={kind:=.function,names:=K,isGenerator:=false,isCoroutine:=false},locals:=0,globals:=0,cells:=[]}
def Nd{env:ey}{L:Ã (Str×NameKind)}(b:env.scope.names=L)(a:env.scope.kind=.function)(h:swapsWith e t l (uR L)=r):swapsWith e t l env=r:=by
 cases env with|mk sc=>cases sc;cases b;cases a;exact h
def LR{env:ey}{L:Ã (Str×NameKind)}(b:env.scope.names=L)(a:env.scope.kind=.function)(h:swappedStores t e (uR L)=r):swappedStores t e env=r:=by
 cases env with|mk sc=>cases sc;cases b;cases a;exact h
def SX.î(hx:sc.δ.lookup x=À i)(D:sc.wr.contains x=true)(h:SE X k sc e pe)
  (p:swapsWith e (À<|.Name x p') pos.line (uR sc.kinds)=pure false:=by rfl):SX X k sc F (.Assign [.Name x p'] e pos) (.î i pe):=by
 intro env b σ o g c;refine rJ c λv m Ø w=>?_;intro P B j A s Q E R K q;exact wpAny_Assign_Name (h env b σ v m Ø w P B j A s _ _ R K λI J H t as S1 y O a f=>oA y D hx O a f λC S G=>q .next C H _ (S1.toStep.trans S) G .next)<|Nd b K.kind p
def SX.I9(hx:sc.δ.lookup x=À i)(hw:sc.wr.contains x=true)(h:SC X k sc Ż gens scope pc pe)
  (hs:swapsWith (.ListComp Ż gens scope pc) (À<|.Name x p') pos.line (uR sc.kinds)=pure true):SX X k sc F (.Assign [.Name x p'] (.ListComp Ż gens scope pc) pos) (.î i pe):=by
 intro env he σ o ø hv;refine rJ hv λv m Ø h1=>?_;intro P B α A s Q E hR K q;refine Å (F8 _ _ _ _<|Nd he K.kind hs) ?_;refine Ü<|ų<|Ü ?_;refine(?_:ϛ _ A (do let _<-nK (.ListComp Ż gens scope pc) scope env (Gv gens pc) (nF []) (DV gens) (firstIter gens env) (À<|assign (.Name x p') env)) _ _ s);apply Ü<|h env he σ v m Ø h1 P B α A s _ _ _ hR K λs' B' qr Da Ca mm S' K' O hP fr i4 y8 KU Yo Qi=>?_;refine(?_:ϛ _ A (assign (.Name x p') env<|.ref Da) _ _ _);apply wpAny_assign_Name (eQ K' hw hx O (λa ha=>by rw[Ċ] at ha;subst ha;exact hP) fr λs2 ZH S2 K2=>?_);refine⟨mm,(KU.at' λo e=>ZH Ca o (λe=>i4.1<|Đ e<|.head _) (λy c hc e=>i4.2.1 y c hc<|Đ e<|.head _) e),λh' ZL=>?_⟩;have Wk:Off env sc.dl (Ø.ö i v m) (λj=>if j=i then[Da] else qr j) [Ca]:=by
  refine⟨i4.1,i4.2.1,λy j hy hj a ha hm=>?_,i4.2.2.2⟩;rw[Ċ] at hm;subst hm;by_cases JM:j=i
  .subst JM;simp at ha;exact y8 ha
  .simp only[È JM] at ha;rw[ŋ JM] at hj;exact i4.2.2.1 y j hy hj _ ha<|.head _
 apply Ö (λK3 S3=>?_)<|yq K2 Wk Yo Qi ZL;exact õ<|õ<|q .next _ B' _ ((S'.toStep.trans S2).trans S3.toStep) K3 .next
end
section
variable{X:Cx}{A:q6}
def ě.at_{i:Á}{v:V}(h:ě B vs xs)(e:vs[i]?=À v):∃x,xs[i]?=À x/\VR B v x:=h.get e
def Pj(X:Cx)(A:q6)(t:Expr)(I:Ĳ)(St:gk->Prop):Prop:=
 ∀(x:Ë)(s:ŕ)(Q:Unit->ŕ->Prop)(E:Ë->ŕ->Prop),St s.heap->Q () s->wq X A (hJ t (.ref I) x) Q E s
def ig.kG{St:Á->gk->Prop}(W:Walks X.prog X.w A I fp wr items.length P St)
  (j:∀i val v,P i val->items[i]?=À v->VR zy v val) (live:∀i h,St i h->∀b∈wr,∃o,h.get? b=À o)
  (go:∀i,Pj X A te I<|St i):ig X A te I fp wr items zy St where
 sub:=W.sub
 live:=live
 frame:=W.frame
 item:=λi v s B Q E g f hB nx hw q=>W.item i s _ E (by
   rcases se.1 g with⟨h,_⟩;exact h) f λval m tk p c k=>
  go (i+1) val _ _ _ c (q val m tk B k (.refl _) (λa o e=>k a o (λh=>by rw[hw a h] at e;exact ÿ e)<|hB a o e) (λa o e=>.inl e) c<|(j i val v p g).mono nx)
 done:=λs Q E f q=>W.done s Q E f q
 self:=W.self
inductive IsT:Expr->Prop
 |name {x p}:IsT (.Name x p)
 |ñ {es n p}:IsT (.Tuple es n p)
def r6{St:gk->Prop}(n:pF)(T:IsT te)
  (S:∀h,St h->∃o,h.get? I=À o/\o.cls=.type n/\∃vs,o.data=.fields vs)
  (b:(["enumerate","zip","dict_itemiterator","dict_reverseitemiterator","odict_iterator","itertools.zip_longest","itertools.pairwise"]:Ã pF).contains n=false):Pj X A te I St:=by
 intro x s Q E a q
 induction T with
 |name=>exact õ q
 |ñ=>
  cases x<;>try exact õ q
  obtain⟨o,c,f,vs,g⟩:=S _ a;unfold hJ;apply Ü<|wpAny_load c ?_;refine Å f<|Å g ?_;dsimp only;rw[b,Bool.false_and];exact õ q
def gG(X:Cx)(k:Á)(c:Expr)(t:Ã Ë->ŭ Ë)(f:Ã V->Ï (Ã V)):Prop:=
 ∀(A:q6)(B:PB)(s:ŕ)(vs items:Ã V)(vals:Ã Ë)(Q E:Ë->ŕ->Prop),ţ k A->f vs=À items->ŀ B s.heap.get?->ě B vs vals->
  (∀I h tk fp ws St,kQ s.heap h B B->ig X A c I fp ws items B St->St 0 h->(∀b∈fp,∃o,h.get? b=À o)->(∀b∈ws,s.heap.get? b=Ä)->
   (∀b∈fp,s.heap.get? b=Ä\/∃o xs n,B b=À o/\o.data=.seq xs n)->items.length<=1000000->Q (.ref I) {s with heap:=h,toks:=tk})->
  wq X A (t vals) (λx a=>wq X A (pN x) Q E a) E s
def iG(h:qh xs=À ys):ys=xs/\xs.length<=1000000:=Ϲ h λa h=>⟨(à h).symm,a⟩
def gG.use{sc:Sc}(h:gG X k te t f)
  (hR:ţ k A) (K:Ok X.T P B env sc.dl sc.wl σ α s.heap) (hf:f vs=À items) (W:ě B vs vals)
  (q:∀I s' B' H fp ws St,Ķ env P s s' B B'->Ok X.T P B' env sc.dl sc.wl σ H s'.heap->ig X A te I fp ws items B' St->St 0 s'.heap->(∀b∈fp,∃o,s'.heap.get? b=À o)->(∀b∈ws,P b/\B' b=Ä)->
   Off env sc.dl σ H fp->items.length<=1000000->Q (.ref I) s'):
  wq X A (t vals) (λx s1=>wq X A (pN x) Q E s1) E s:=by
 refine h A B s vs items vals Q E hR hf K.base W λI h' tk fp ws St x D S J G L M=>?_;have g:∀a,(∃o,s.heap.get? a=À o)->B a=Ä->a∉fp:=λa ⟨o,j⟩ p R=>by
  rcases L a R with e|⟨o',_,_,e,_⟩
  .exact gC<|j.symm.trans e
  .exact ÿ<|p.symm.trans e
 refine q I {s with heap:=h',toks:=tk} B α fp ws St (x.kB K.hi) (K.ext x) D S J (λb p=>⟨K.hi b<|G b p,K.HJ<|G b p⟩) ⟨?_,?_,?_,λa O=>(let e:=(K.ex a O).2;g a e.alive e.fresh)⟩ M
 .apply Ϸ K.loc;rintro⟨m,o,es,ep,j,r⟩ _ p;exact g _ ⟨o,j⟩ p
 .intro y c Y R;refine wO (K.Ė y c Y) λv o j hd=>?_;rcases L c R with e|⟨o',xs,n,e,C⟩
  .exact gC<|j.symm.trans e
  .have:=K.base _ _ e;rw[j] at this;obtain rfl:=à this;rw[hd] at C;injection C
 .intro y i hy hi a O;refine å (İ.1 hi) λw hw=>?_;refine K.Æ y i w.1 w.2 hy hw λval _ h2 _=>?_;refine ì (h2.lists a O) ?_;rintro items ⟨o,j,_⟩ p;exact g a ⟨o,j⟩ p
def gG.seq{k:Á}{P:Expr}(T:IsT P):gG X k P (λvals=>(match vals with|[v]=>pure v|_=>pure .none:ŭ Ë)) Ń:=by
 intro A B s vs items vals Q E R H hB G q;have L:=R.hd;have key:(∃xs,(vs=[.Ñ xs]\/vs=[.ñ xs])/\qh xs=À items):=Ŀ (M:=λvs=>∃xs,(vs=[.Ñ xs]\/vs=[.ñ xs])/\qh xs=À items) H
  (λa h=>AI h (λxs e h=>⟨xs,.inl<|Å (Ğ e) rfl,h⟩) λh=>ð (x:=Cy a) h λxs e h=>⟨xs,.inr<|Å (fL e) rfl,h⟩) (λ_ _ h=>ÿ h) λ_ _ _ h=>ÿ h
 refine ì key λxs hx H=>?_;obtain⟨rfl,O⟩:=iG H;clear H;rcases hx with rfl|rfl
 .refine BN (M:=λvals=>wq X A ((match vals with|[v]=>pure v|_=>pure .none:ŭ Ë)) (λx J=>wq X A (pN x) Q E J) E s) G λx t=>?_;apply Ł t;intro a o n j f p m hx h;refine õ<|kW (đ hB f p m) ?_;have y:a≠s.heap.objs.size:=λe=>ó (Ļ<|hB _ _ f)<|Å e<|fK _;refine q _ _ s.toks [s.heap.objs.size,a] [s.heap.objs.size] _ (ό hB _) (ig.kG (by
    have:=Walks.list (prog:=X.prog) (w:=X.w) (A:=A) L s.heap.objs.size a y j;rw[show j.size=items.length from Å h.length<|Å Ì rfl] at this;exact this) (λi val v C t=>?_) (λi I g b c=>?_) λi=>r6 "list_iterator" T (λI g=>?_) rfl) ?_ (λb c=>?_) (λb c=>?_) (λb c=>?_) O
  .refine ì (h.at_ t) λx D K=>?_;rw[fh] at D;rw[D] at C;obtain rfl:=à C;exact K
  .rw[Ċ] at c;subst c;exact ì g.1 λo f _=>⟨o,f⟩
  .exact qJ g.1 λo f p m=>⟨o,f,p,_,m⟩
  .exact⟨⟨_,ë _ rfl,rfl,rfl⟩,_,Ô _<|hB _ _ f,p,_,m⟩
  .rcases ő.1 c with rfl|c
   .exact⟨_,ë _ rfl⟩
   .rw[Ċ] at c;subst c;exact⟨_,Ô _<|hB _ _ f⟩
  .rw[Ċ] at c;subst c;exact ĉ _
  .rcases ő.1 c with rfl|c
   .exact .inl<|ĉ _
   .rw[Ċ] at c;subst c;exact .inr ⟨_,_,_,f,m⟩
 .refine BN (M:=λvals=>wq X A ((match vals with|[v]=>pure v|_=>pure .none:ŭ Ë)) (λx J=>wq X A (pN x) Q E J) E s) G λx t=>?_;apply jQ t;intro a o n j f p m h;refine õ<|D5 (cZ hB f p m) ?_;have y:a≠s.heap.objs.size:=λe=>ó (Ļ<|hB _ _ f)<|Å e<|fK _;refine q _ _ s.toks [s.heap.objs.size,a] [s.heap.objs.size] _ (ό hB _) (ig.kG (by
    have:=Walks.tuple (prog:=X.prog) (w:=X.w) (A:=A) L s.heap.objs.size a y j;exact((show j.size=items.length from Å h.length<|Å Ì rfl)▸this)) (λi val v C t=>?_) (λi I g b c=>?_) λi=>r6 "tuple_iterator" T (λI g=>?_) rfl) ?_ (λb c=>?_) (λb c=>?_) (λb c=>?_) O
  .refine ì (h.at_ t) λx D K=>?_;obtain rfl:=à<|((fh)▸D)▸C;exact K
  .rw[Ċ] at c;subst c;exact ì g.1 λo f _=>⟨o,f⟩
  .exact qJ g.1 λo f p m=>⟨o,f,p,_,m⟩
  .exact⟨⟨_,ë _ rfl,rfl,rfl⟩,_,Ô _<|hB _ _ f,p,_,m⟩
  .rcases ő.1 c with rfl|c
   .exact⟨_,ë _ rfl⟩
   .rw[Ċ] at c;subst c;exact⟨_,Ô _<|hB _ _ f⟩
  .rw[Ċ] at c;subst c;exact ĉ _
  .rcases ő.1 c with rfl|c
   .exact .inl<|ĉ _
   .rw[Ċ] at c;subst c;exact .inr ⟨_,_,_,f,m⟩
def xw{n i:Á}(h:(û a n)[i]?=À v):v=.int (a+i*1):=by
 unfold û at h;rw[ô] at h;cases e:(range n)[i]? with
 |none=>rw[e] at h;exact ÿ h
 |some j=>
  rw[e] at h;simp at h;rcases se.1 e with⟨hi,b⟩
  rw[getElem_range] at b;subst b;rw[<-h,Int.mul_one]
def gG.range{k:Á}{P:Expr}(T:IsT P):gG X k P (λvals=>Î (.type "range") vals) ć:=by
 intro A B s vs items vals Q E S W hB g q;have C:∀(a b:Â)(t u v:Tok)(tk:Á),items=û a (b-a).toNat->(b-a).toNat<=1000000->-(2^62)<=a->a<2^62->-(2^62)<=b->b<2^62->
   wq X A (pN<|.ref s.heap.objs.size) Q E {s with heap:=s.heap.push {cls:=.type "range",data:=.fields #[.int a t,.int b u,.int 1 v]},toks:=tk}:=by
  intro a b t u v tk I D ha J c H;subst I;apply wpAny_pyIter_range (UR ..)<|small_one ha J c H;have G:ue a b 1=((b-a).toNat:Â):=by refine Å (wW ..) ?_;split<;>omega
  refine Å G ?_;generalize K:s.heap.push {cls:=.type "range",data:=.fields #[.int a t,.int b u,.int 1 v]}=p;have L:kQ s.heap p B B:=Đ K<|ό hB _;have f:(û a (b-a).toNat).length=(b-a).toNat:=by simp[û]
  have O:s.heap.get? p.objs.size=Ä:=by
   cases e:s.heap.get? p.objs.size with
   |none=>rfl
   |some o=>exact ó (Ļ<|L.keep _ _ e)<|fK _
  refine q _ _ tk [p.objs.size] [p.objs.size] _ (L.trans<|ό L.HP _) (ig.kG (by
    exact(f.symm▸(Walks.range (prog:=X.prog) (w:=X.w) (A:=A) S.hd p.objs.size a 1 (b-a).toNat))) (λi val w hp R=>?_) (λi Y j b c=>?_) λi=>r6 "range_iterator" T (λY j=>?_) rfl) ?_ (λb c=>?_) (λb c=>?_) (λb c=>?_) (Å f D)
  .obtain⟨t,rfl⟩:=hp;exact Å (xw R) .int
  .rw[Ċ] at c;subst c;exact⟨_,j⟩
  .exact⟨_,j,rfl,_,rfl⟩
  .exact Å (show a+((0:Á):Â)*1=a by simp)<|Å f<|Å (show(((b-a).toNat:Â)-((0:Á):Â))=((b-a).toNat:Â) by simp)<|ë _ rfl
  .rw[Ċ] at c;subst c;exact⟨_,ë _ rfl⟩
  .rw[Ċ] at c;subst c;exact O
  .rw[Ċ] at c;subst c;exact .inl O
 exact Ŀ (M:=λvs=>ě B vs vals->wq X A (Î (.type "range") vals) (λx m=>wq X A (pN x) Q E m) E s) W
  (λa h=>ð (x:=ϐ a) h λb e h=>Ú e▸Ϲ h λc h g=>BN (M:=λvals=>wq X A (Î (.type "range") vals) (λx m=>wq X A (pN x) Q E m) E s) g λx hx=>by
   apply ê hx;intro t;exact call_range_1<|C 0 b _ _ _ _ (by rw[<-à h,Int.sub_zero]) ((wo 0xf42405700f02ff0947f090d5f09f3786f424057030f424057c376) c<|iY _) (by omega) (by omega) (by omega)<|by omega)
  (λa b h=>Ć Ú Ú (M:=λa b=>ě B [a,b] vals->wq X A (Î (.type "range") vals) (λx m=>wq X A (pN x) Q E m) E s) h λa b h=>Ϲ h λc h g=>Nv (M:=λvals=>wq X A (Î (.type "range") vals) (λx m=>wq X A (pN x) Q E m) E s) g λx y hx hy=>by
   apply ê hx;intro t;apply ê hy;intro u;exact call_range_2<|C a b _ _ _ _ (à h).symm ((RP 0xf42405700f02f019470190d5019f3786f4240570193f424057131f424057c377f424057030f424057c3776) c<|iY _) (by omega) (by omega) (by omega)<|by omega)
  (λ_ _ _ h=>ÿ h) g
end
section
variable{X:Cx}{A:q6}
def ig.q8{St:Á->gk->Prop}(W:WalksT X.prog X.w A I fp wr items.length Pt St Zy)
  (P:∀i vals v,Pt i vals->items[i]?=À v->∃vs,v=.ñ vs/\ě zy vs vals.toList) (live:∀i h,St i h->∀b∈wr,∃o,h.get? b=À o):ig X A (.Tuple es en p) I fp wr items zy St where
 sub:=W.sub
 live:=live
 frame:=W.frame
 item:=λi v s B Q E G j hB nx hw q=>W.item i s _ E (by
   rcases se.1 G with⟨h,_⟩;exact h) j λT vals K tk R S O hm J=>
  W.go es en p i T {s with heap:=K,toks:=tk} _ _ hm λY t f=>by
   obtain⟨vs,rfl,D⟩:=P i vals v R G;obtain⟨o,L,M,n,hd⟩:=O;have g:s.heap.get? T=Ä:=by
    cases e:s.heap.get? T with
    |none=>rfl
    |some o=>exact ó (Ļ e)<|Ϣ.2 S
   have C:B T=Ä:=by
    cases e:B T with
    |none=>rfl
    |some o=>rw[hB _ _ e] at g;exact gC g
   have y:T∉wr:=W.apart i T K hm;have le:ŀ B (λb=>if b=T then À o else B b):=λa c e=>by
    exact(Å (È λh=>by rw[h,C] at e;exact ÿ e) e:(if a=T then À o else B a)=À c)
   apply q (.ref T) Y tk (λb=>if b=T then À o else B b) (λb c H e=>f b c H<|J b c H e) le (λa c e=>?_) (λa c e=>?_) t<|.ñ (o:=o) (ť rfl) M hd<|D.mono<|nx.trans le
   .replace e:(if a=T then À o else B a)=À c:=e;by_cases m:a=T
    .rw[ť m,dy] at e;subst e;subst m;exact f _ _ y L
    .rw[È m] at e;have x:a∉wr:=λh=>by rw[hw a h] at e;exact ÿ e
     exact f _ _ x<|J _ _ x<|hB _ _ e
   .replace e:(if a=T then À o else B a)=À c:=e;by_cases m:a=T
    .subst m;exact .inr g
    .rw[È m] at e;exact .inl e
 done:=λs Q E j q=>W.done s Q E j q
 self:=W.self
def gG.enum:gG X k (.Tuple es en p) (λvals=>Î (.type "enumerate") vals) gE:=by
 intro A B s vs items vals Q E S Y hB j q;apply bJ Ğ (M:=λvs=>ě B vs vals->wq X A (Î (.type "enumerate") vals) (λx L=>wq X A (pN x) Q E L) E s) Y (λxs h j=>BN (M:=λvals=>wq X A (Î (.type "enumerate") vals) (λx L=>wq X A (pN x) Q E L) E s) j λx f=>?_) j;obtain⟨rfl,W⟩:=iG h;apply Ł f;intro a o n C m O J hx h;refine call_enumerate_list (đ hB m O J) λh' G H R I=>?_;refine wpAny_pyIter_enum G ?_;have D:a<s.heap.objs.size:=Ļ<|hB _ _ m;refine q _ h' s.toks [s.heap.objs.size+1,s.heap.objs.size,a] [s.heap.objs.size+1,s.heap.objs.size] _ ⟨I,.refl _,λa o e=>I _ _<|hB _ _ e,λ_ _ e=>.inl e⟩
  (ig.q8 (by
   have:=WalksT.enumerate (prog:=X.prog) (w:=X.w) (A:=A) S.hd (s.heap.objs.size+1) s.heap.objs.size a (by simp) (xc<|ic D) (xc D) C;rw[(show C.size=(xs.zipIdx.map λx=>V.ñ [.int x.2,x.1]).length by exact Å (É ..)<|Å (length_zipIdx ..)<|Å (h.length ..)<|Å (Ì ..) rfl)] at this;exact this) (λi vals v hp f=>?_) (λi V4 K b c=>?_)) ?_ (λb c=>?_) (λb c=>?_) (λb c=>?_) W
 .obtain⟨t,x,h1,rfl⟩:=hp;rw[ô,getElem?_zipIdx] at f;cases e:xs[i]? with
  |none=>rw[e] at f;exact ÿ f
  |some y=>
   rw[e] at f;simp at f;obtain⟨z,P,h3⟩:=h.at_ e;rw[fh,h1] at P;cases P;exact⟨_,f.symm,.cons .int<|.cons h3 .nil⟩
 .apply Ϸ K;rintro⟨K0,G⟩ ⟨o',g,_⟩ _;rcases ő.1 c with rfl|c
  .exact⟨_,G⟩
  .rw[Ċ] at c;subst c;exact⟨_,g⟩
 .exact⟨⟨_,G⟩,H,_,I _ _<|hB _ _ m,O,_,J⟩
 .rcases ő.1 c with rfl|c
  .exact⟨_,G⟩
  .rcases ő.1 c with rfl|c
   .exact ì H λo' g _=>⟨_,g⟩
   .rw[Ċ] at c;subst c;exact⟨_,I _ _<|hB _ _ m⟩
 .rcases ő.1 c with rfl|c
  .cases e:s.heap.get? (s.heap.objs.size+1) with
   |none=>rfl
   |some o=>exact ó (Ļ e)<|Ϣ.2<|jW _
  .rw[Ċ] at c;subst c;exact ĉ _
 .rcases ő.1 c with rfl|c
  .left;cases e:s.heap.get? (s.heap.objs.size+1) with
   |none=>rfl
   |some o=>exact ó (Ļ e)<|Ϣ.2<|jW _
  .rcases ő.1 c with rfl|c
   .exact .inl<|ĉ _
   .rw[Ċ] at c;subst c;exact .inr ⟨_,_,_,m,J⟩
end
section
variable{X:Cx}{k:Á}{sc:Sc}
def dO.seq(h:SE X k sc e pe)(T:IsT te:=by constructor):dO X k sc te e Ń [pe]:=by
 intro env C σ vs c items G;obtain⟨x,m,w,rfl⟩:=zL G;intro M P B g A s Q E R K q;exact(h env C σ x m c w).é P B g A s _ _ R K λv s1 Y y H S1 J O t W=>(λΓ p h=>((gG.seq (X:=X) (k:=k) T).use (vs:=[x]) (vals:=[v]) (items:=items) (Q:=Q) (E:=E) R J M (.cons O.vr .nil) λI s' B' b fp ws St S K' D f j L o a=>q I s' B' b fp ws St (S1.trans S) K' D f j L o a) Γ p h Γ p h)
def dO.call(c:Callee X sc f (.type T))(H:eV X k sc (e::es) i6)(M:gG X k te (λvals=>Î (.type T) vals) F)
  (O:(f==("__debug__":Str))=false:=by decide):dO X k sc te (.Call (.Name f p) (e::es) [] pos) F i6:=by
 intro env m σ vs C items L h2 P B y A s Q E R K q;apply gQ<|c.load m K ?_ O;have key:wq X A (jt (.type T) true (ş pos<|ϧ (e::es) env) []) (λa b=>wq X A (Î (.type T) ([]++a.pos) a.kw) (λx t=>wq X A (pN x) Q E t) E b) E s:=
  H.args (H.spliced m pos L P B y A s _ _ R K λvals t B1 J S1 W v=>M.use R W h2 v λI s' B' g fp ws St S K' D j G Y o h=>q I s' B' g fp ws St (S1.trans S) K' D j G Y o h)
 exact ϸ (Ĝ H) key
end
section
variable{T:gk}{P:Ĳ->Prop}{B B':PB}{env:ey}{δ:Str->Ï Á}{wr:Str->Ò}{σ ø:St}{α:Á->Ã Ĳ}{h h':gk}
def fO(e:(σ.aaa l).get j=À w):σ.get j=À w/\j∉l:=by
 rw[aH] at e;by_cases a:j∈l
 .rw[ť a] at e;exact ÿ e
 .rw[È a] at e;exact⟨e,a⟩
def Ok.aaa(K:Ok T P B env δ wr σ α h)(l:Ã Á):Ok T P B env δ wr (σ.aaa l) α h:=
 {K with
  vars:=λx i v m hx f=>K.vars x i v m hx (fO f).1
  apart:=λx y i j hx o b g p=>by
   obtain⟨w,c⟩:=İ.1 g;obtain⟨q,a⟩:=İ.1 p;exact K.apart x y i j hx o b (Å ((fO c).1) rfl) (Å ((fO a).1) rfl)}
def Ok.upd(K:Ok T P B env δ wr σ α h)(hx:δ x=À i)(S:σ.get i=À (v,m))(Fo:At h env x val)(O:ĭ h B v m val (α i))
  (W:∀b o,b∉α i->h.get? b=À o->h'.get? b=À o) (O':ĭ h' B v' m' val RN) (G:∀b∈α i,∃o,h'.get? b=À o) (hs:∀a∈RN,a∈α i):
  Ok T P B env δ wr (σ.ö i v' m') (λj=>if j=i then RN else α j) h':=by
 refine K.Æ x i v m hx S λO9 ZD _ hP=>?_;have I:Off env δ (σ.aaa [i]) α (α i):=by
  refine⟨λp=>?_,λy c hc p=>ì (O.lists _ p) λitems q _=>å (K.Ė y c hc) λu hu=>ĥ q hu rfl,λy j s E a f p=>å (İ.1 E) λw hw=>Ö (λC t=>K.apart y x j i s hx (λe=>t<|Å e<|.head _) (by refine Å C ?_;rfl) (by refine Å S ?_;rfl) a f p)<|fO hw,λa f p=>(ì (O.lists _ p) λ_ q _=>(K.ex a f).2.dP q rfl)⟩
  .refine ì (O.lists _ p) λitems q _=>?_;refine Ö ?_ K.loc;rintro⟨mm,hn⟩ _;exact ī q hn rfl
 have K2:=(K.aaa [i]).eS (B':=B) W (λb L=>.inr<|G b L) I (λb L=>K.low b<|hP b L) (.refl _) (λa o e=>W a o (λp=>by rw[(λb L=>ì (O.lists b L) λ_ _ q=>q) a p] at e;exact ÿ e)<|K.base a o e) λ_ _ e=>.inl e;have M:At h' env x val:=by
  rcases Fo with⟨kd,mm,⟨o,es,ep,Y,r⟩,e⟩|⟨kd,c,hl,o,Y,hd⟩
  .exact .inl ⟨kd,mm,⟨o,es,ep,W _ _ I.1 Y,r⟩,e⟩
  .exact .inr ⟨kd,c,hl,o,W _ _ (I.2.1 x c hl) Y,hd⟩
 exact{K2 with
  vars:=λy j w n s E=>by
   rw[St.a9] at E;by_cases H:i=j
   .subst H;obtain rfl:=K.inj x y i hx s;by_cases D:i<σ.length
    .simp[D] at E;obtain⟨rfl,rfl⟩:=E;exact⟨val,M,by simp;exact O',by simp;exact λa f=>hP a<|hs a f⟩
    .exact ó S<|by unfold St.get;refine Å (ķ<|Ϣ.1 D) ?_;simp
   .rw[È (λe=>H e.1)] at E;have g:¬j=i:=λe=>H e.symm;exact K2.Æ y j w n s (Å (aH ..)<|Å (È (by simpa using g) ..) E) λu C t h3=>⟨u,C,by simp only[È g];exact t,by simp only[È g];exact h3⟩
  apart:=λy z j l s hz R C t a f=>by
   replace f:a∈(if j=i then RN else α j):=f;refine(?_:a∉(if l=i then RN else α l));rw[St.a9] at C t;by_cases J:j=i
   .rw[ť J] at f;have A:¬l=i:=λe=>R<|J.trans e.symm;refine Å (È A) ?_;rw[È (λe=>A e.1.symm)] at t;rw[J] at s;exact K.apart y z i l s hz (λe=>A e.symm) (Å S rfl) t a<|hs a f
   .rw[È J] at f;rw[È (λe=>J e.1.symm)] at C;by_cases A:l=i
    .refine Å (ť A) ?_;intro hc;rw[A] at hz;exact K.apart y z j i s hz J C (Å S rfl) a f<|hs a hc
    .refine Å (È A) ?_;rw[È (λe=>A e.1.symm)] at t;exact K.apart y z j l s hz R C t a f}
def Step.one{as:Ã Ĳ}(f:∀b o,b∉as->s.heap.get? b=À o->h'.get? b=À o)(c:∀a∈as,P a):Step P s {s with heap:=h',toks:=tk} B B:=
 ⟨⟨h',tk,rfl⟩,λa o e n=>f a o (λh=>n<|c a h) e,.refl _,λ_ _ e=>.inl e⟩
end
section
variable{X:Cx}{k:Á}{sc:Sc}{F:Á}
def own_one(O:ĭ h B (.Ñ xs) 1 val as):∃l items,val=.ref l/\as=[l]/\IsL h l items/\B l=Ä/\ě B xs items.toList:=by
 have z:∀v m,ĭ h B v m val as->v=.Ñ xs->m=1->∃l items,val=.ref l/\as=[l]/\IsL h l items/\B l=Ä/\ě B xs items.toList:=λv m O=>by
  induction O with
  |z=>intro _ e;injection e
  |one a hB b=>intro e _;obtain rfl:=V.Ñ.inj e;exact⟨_,_,rfl,rfl,a,hB,b⟩
  |two=>intro _ e;injection e with e;injection e
 exact z _ _ O rfl rfl
def Ok.list
  (K:Ok T P B env δ wr σ α h) (hx:δ x=À i) (q:σ.get i=À (.Ñ xs,1)) (c:At h env x (.ref l)) (s:fQ l h h') (p:h'.get? l=À {cls:=.type "list",data:=.seq nN n}) (y:ě B xs' nN.toList):
  Ok T P B env δ wr (σ.ö i (.Ñ xs') 1) (λj=>if j=i then[l] else α j) h'/\P l:=by
 refine K.Æ x i _ _ hx q λval f O t=>?_;obtain rfl:=c.Hk f;refine UL (own_one O) λE v w m D hB _=>?_;injection w with e;subst e
 refine⟨K.upd hx q c O (λb o g e=>(s.2 b λA=>g<|Å m<|Å A<|.head _).trans e) (.one ⟨_,p,rfl,⟨n,rfl⟩,rfl,rfl⟩ hB y) (λb g=>?_) λa C=>Å m C,t l<|Å m<|.head _⟩;obtain rfl:=Ċ.1<|m▸g;exact⟨_,p⟩
def sU(O:ĭ h B (.int a) m val as):∃t,val=.int a t:=by
 cases O with
 |z v=>exact v.inv
def oZ(K:Ok X.T P B env sc.dl sc.wl σ α s.heap)(hx:sc.δ.lookup x=À i)(w:sc.wr.contains x=true)
  (O:VR B v val) (q:∀s' a,Step P s s' B B->Ok X.T P B env sc.dl sc.wl (σ.ö i v 0) a s'.heap->Q () s'):ϛ M A (storeName env x val) Q E s:=
 oA K w hx (.z O) (λ_ h=>ϭ h) (λ_ _ _ _ _ h=>ϭ h) λs' S K'=>q s' _ S K'
def SX.aug(hx:sc.δ.lookup x=À i)(G:sc.wr.contains x=true)(h:SE X k sc e pe):SX X k sc F (.AugAssign (.Name x p') op e pos) (.aug i op pe):=by
 intro env Y σ o ø L;apply Ez L λC H v m Ø r g f h2=>AG (M:=λop C v r=>σ.get i=À (C,H)->ß pe σ=À (v,m,Ø)->Ex X k env sc.dl sc.wl σ (exec (.AugAssign (.Name x p') op e pos) env) .next (Ø.ö i r 0)) h2 (λa b g f P B α A s Q E R K q=>?_) (λa b g f P B α A s Q E R K q=>?_) g f<;>
  refine K.Æ x i _ H hx g λval p O _=>?_<;>obtain⟨t,rfl⟩:=sU O<;>
  apply wpAny_AugAssign_Name (p.load K.kind<|(h env Y σ _ m Ø f).é P B α A s _ _ R K λva j I W as S1 D J _ _=>?_)<;>obtain⟨u,rfl⟩:=J.vr.inv
 .exact AutoIntOps.iadd_0<|oZ (X:=X) (sc:=sc) (s:={j with toks:=j.toks+1}) D hx G .int λw c S y=>q .next w I c ((S1.toStep.trans (Ķ.tok (env:=env) _).toStep).trans S) y .next
 .exact AutoIntOps.isub_0<|oZ (X:=X) (sc:=sc) (s:={j with toks:=j.toks+1}) D hx G .int λw c S y=>q .next w I c ((S1.toStep.trans (Ķ.tok (env:=env) _).toStep).trans S) y .next
def SX.az(ht:cG X k sc t pt)(hb:SS X k sc F body b):SX X k sc F (.While t body [] pos) (.az pt b):=by
 intro env O σ o ø hv P B α A s Q E R K q;apply wpAny_While;refine codeAny_whileLoop (λn G=>∃c D p,aO (λσ=>(ß pt σ).bind λx=>(Ó x.1).map λb=>(b,x.2.2)) (λσ=>ċ F b σ) n c=À (o,ø)/\Ok X.T P D env sc.dl sc.wl c p G.heap/\Step P s G B D) ?_ F
  ⟨σ,B,α,hv,K,.refl _ _ _⟩
 rintro n G ⟨c,D,p,a,K2,L⟩
 induction n with
 |zero=>exact ÿ a
 |succ n=>
  refine Ŵ (x:=(ß pt c).bind λx=>(Ó x.1).map λb=>(b,x.2.2)) a λok CD h3 a=>Ŧ (x:=ß pt c) h3 λx m I g1 g2=>?_;refine ì (aG g2) λb' g3 g4=>?_;cases g4;refine ht env O c x m _ _ g1 g3 P D p A G _ _ R K2 λH W v Y J=>?_
  induction ok with
  |false=>exact jI<|â (M:=λo ø=>(∀fl s' B' f,Step P s s' B B'->Ok X.T P B' env sc.dl sc.wl ø f s'.heap->dR B' o fl->Q fl s')->Q .next H) a (λq=>q .next H W v (L.trans Y.toStep) J .next) q
  |true=>
   refine Ŵ (x:=ċ F b I) a λo5 j h5 a=>?_;refine hb env O _ o5 j h5 P W v A H _ _ R J λfl y C g S4 w hf=>?_;have S:=(L.trans Y.toStep).trans S4
   induction hf with
   |next=>exact⟨n,jZ _,j,C,g,a,w,S⟩
   |cont=>exact⟨n,jZ _,j,C,g,a,w,S⟩
   |brk=>exact â (M:=λo ø=>(∀fl s' B' f,Step P s s' B B'->Ok X.T P B' env sc.dl sc.wl ø f s'.heap->dR B' o fl->Q fl s')->Q .next y) a (λq=>q .next y C g S w .next) q
   |ret hr=>exact â (M:=λo ø=>(∀fl s' B' f,Step P s s' B B'->Ok X.T P B' env sc.dl sc.wl ø f s'.heap->dR B' o fl->Q fl s')->Q (.ret _) y) a (λq=>q (.ret _) y C g S w<|.ret hr) q
end
def j2(f:gS Ë->gS Ë)(items:gS Ë)(n:Á):∃n',tQ f {cls:=.type "list",data:=.seq items n}={cls:=.type "list",data:=.seq (f items) n'}:=⟨_,rfl⟩
def IsL.lit(x:IsL h a items):∃n,h.get? a=À {cls:=.type "list",data:=.seq items n}:=by
 apply QP x;rintro⟨c,d,k,m⟩ o f ⟨n,j⟩ b g;dsimp only at f j b g;subst f j b g;exact⟨n,o⟩
open AutoSeq1 (wpAny_loadPart') in
def Cd(l:Ĳ)(items:gS Ë)(n:Á)(x:Â)(u:Tok)(j:Á)(v:Ë)(o:¬(!jL x)=true)(m:¬items.isEmpty=true)(f:((hX x items.size).bind λk=>items[k]?.map (k,·))=À (j,v))(a:items.size<=ee):
  Meets (yX.«list.pop» ⟨[.ref l,.int x u],[]⟩) (λ_ R s=>s.heap.get? l=À {cls:=.type "list",dict:=Ä,data:=.seq items n,slots:=#[]}/\R (.ok<|.ret v) {s with heap:=s.heap.update l<|tQ (·.eraseIdxIfInBounds j),toks:=s.toks}):=
 .of_wp λprog w A R s h=>by
  obtain⟨q,g,d,tk,y⟩:=s;apply Ö (λc h=>?_) h;have B:=AutoSeq1.idx_int;have p:=AutoSeq1.sub_tuple_tuple;have t:=AutoSeq1.sub_list_list;have C:=AutoSeq1.sub_tuple_list;have D:=AutoSeq1.sub_list_tuple;
  have b:(items.eraseIdxIfInBounds j).size<=ee+1:=by
   unfold Array.eraseIdxIfInBounds;split
   .refine Å (Array.size_eraseIdx ..) ?_;omega
   .exact ϴ ‹_› rfl
  wp_walk using(yM c rfl (hz:=a) (_hz':=b)),wpAny_loadPart' c
  refine Å f ?_
  wp_walk using(yM c rfl (hz:=a) (_hz':=b)),wpAny_loadPart' c
  exact⟨_,rfl,h⟩
section
variable{prog:lX}{w:dk}{A:q6}{E:Ë->ŕ->Prop}{s:ŕ}
def gT{k:Â}(o:s.heap.get? l=À {cls:=.type "list",data:=.seq items n})(b:0<=k)(f:k<2^63)(c:k<items.size)
  (m:∀a n',a.get? l=À {cls:=.type "list",data:=.seq (items.setIfInBounds k.toNat v) n'}->fQ l s.heap a->Q () {s with heap:=a}):ϛ (aT prog w) A (setItem (.ref l) (.int k t) v) Q E s:=by
 have h:s.heap.IsList l items:=⟨_,o,rfl,n,rfl⟩
 unfold setItem;apply ϗ;apply Ü<|wpAny_sequenceKey h.typeIs rfl ?_;refine Ü (CZ (name:=ϰ "__setitem__") h.typeIs sN
  (wC sN h.typeIs F.entry_list_setitem ?_<|F.args_list_setitem_3 _ _ _))
 refine(?_:ϛ _ _ (Builtin.List.listSubscript? (.int k t)>>=_) _ _ s);apply Ü<|wpAny_listSubscript_int (fitsIndex_of b f) ?_;clear f;obtain⟨j,rfl⟩:=et b;have g:j<items.size:=((A2 4313648454) c)
 refine(?_:ϛ _ _ ((seqItemAt l j>>=λr=>pure<|r.map (j,·))>>=_) _ _ s);refine Ü<|Ü<|wpAny_seqItemAt o rfl<|õ ?_;refine Å (ϲ g) ?_;refine(?_:ϛ _ _ (setSeqItemAt l j v>>=_) _ _ s);obtain⟨n',e⟩:=j2 (·.setIfInBounds j v) items n;exact Ü<|wpAny_setSeqItemAt o rfl<|õ ⟨.none,rfl,õ<|m _ n' (Å (nZ _ o<|Å e rfl)<|Å e rfl)<|pV ..⟩
def JP(o:s.heap.get? l=À {cls:=.type "list",data:=.seq items n})(g:0<=k)(f:k<2^63)(hx:items[k.toNat]?=À v)(hz:items.size<=ee)
  (p:∀c n',c.get? l=À {cls:=.type "list",data:=.seq (items.eraseIdxIfInBounds k.toNat) n'}->fQ l s.heap c->Q v {s with heap:=c}):ϛ (aT prog w) A (Î (.builtin "list.pop") [.ref l,.int k t]) Q E s:=by
 generalize a:k.toNat=j at hx p;have m:j<items.size:=by
  rcases Array.getElem?_eq_some_iff.1 hx with⟨h,_⟩;exact h
 refine å (j2 (·.eraseIdxIfInBounds j) items n) λn' e=>?_;have x:hX k items.size=À j:=by
  unfold hX;simp only[È (show¬(k<0) by exact(Ad 4031319862) g),a];rw[ť];simp;exact⟨(Ad 15929142) g,(Sr 0xd04f12f04701d50f378602162126) a m<|iY _⟩
 have y:¬(!jL k)=true:=by refine Å (fitsIndex_of g f) ?_;decide
 have q:¬items.isEmpty=true:=by intro h;obtain rfl:=me.1 h;simp at m
 have B:((hX k items.size).bind λk=>items[k]?.map (k,·))=À (j,v):=by
  exact Å x (Å hx rfl:(items[j]?.map _)=_)
 have b:Q v {s with heap:=s.heap.update l (tQ (·.eraseIdxIfInBounds j))}:=p _ n' (by rw[nZ _ o (by rw[e];rfl),e])<|pV ..;clear f;exact oq F.slot_list_pop ⟨_,o,rfl⟩ F.entry_list_pop (F.args_list_pop_2 (.ref l)<|.int k t) (Cd l items n k t j v y q B hz) ⟨o,b⟩
def uZ(o:s.heap.get? l=À {cls:=.type "list",data:=.seq items n})(hz:items.size<=ee)
  (a:∀h n',h.get? l=À {cls:=.type "list",data:=.seq items.reverse n'}->fQ l s.heap h->Q .none {s with heap:=h}):ϛ (aT prog w) A (Î (.builtin "list.reverse") [.ref l]) Q E s:=by
 exact å (j2 (·.reverse) items n) λn' e=>oq F.slot_list_reverse ⟨_,o,rfl⟩ F.entry_list_reverse (F.args_list_reverse_1 _) (AutoSeq1.list_reverse_list_0 l items n hz) ⟨o,a _ n' (Å (nZ _ o<|by exact Å e rfl)<|Å e rfl)<|pV ..⟩
end
def bM(h:Č n i=À p):n<=1000000/\0<=i/\i<n/\p=i.toNat:=Ϲ h λc h=>⟨c.1,c.2.1,c.2.2,(à h).symm⟩
section
variable{X:Cx}{k:Á}{sc:Sc}{F:Á}
def eJ{G:Prop}(K:Ok T P B env δ wr σ α h)(hx:δ x=À i)(p:σ.get i=À (.Ñ xs,1))(b:At h env x val)
  (k:∀l items n,val=.ref l->α i=[l]->P l->h.get? l=À {cls:=.type "list",data:=.seq items n}->ě B xs items.toList->G):G:=by
 refine K.Æ x i _ _ hx p λv a O f=>?_;obtain rfl:=b.Hk a;exact UL (own_one O) λl items m c j hB o=>j.lit.elim λn g=>k l items n m c (f l<|Å c<|.head _) g o
def iA(h:fQ l s.heap h')(f:P l):Step P s {s with heap:=h',toks:=tk} B B:=
 Step.one (as:=[l]) (λb o j e=>(h.2 b λg=>j<|Å g<|.head _).trans e) λa c=>by obtain rfl:=Ċ.1 c;exact f
def DJ{env:ey}(h:env.scope.kind=.function):oT env=false:=by unfold oT;exact Å h rfl
def SX.app(hx:sc.δ.lookup x=À i)(C:Ý e=false)(h:SE X k sc e pe)(hd:(x==("__debug__":Str))=false:=by decide)
  (f:∀env,attributeBase (.Name x p') "append" env (eval (.Name x p') env)=eval (.Name x p') env:=by intro _;rfl) (g:(zF.endLine==pos.line)=true:=by rfl):SX X k sc F (.Expr (.Call (.Attribute (.Name x p') "append" zF) [e] [] pos) P6) (.app i pe):=by
 intro env he σ o M y;refine M0 y λS v m Ø xs I h1 G t=>?_;intro P B O A s Q E R K q;have H:eV X k sc [e] [pe]:=.cons C h .nil;refine ì (K.vars x i _ _ hx I) λval b _=>?_;refine eJ K hx I b ?_;rintro l w n0 rfl _ _ j _;apply sq (pY (f env) (H.QA<|by decide) g<|j5 (b.load K.kind ⟨"list","list.append",lY,PySem.F.slot_list_append,PySem.F.type_list_append,⟨_,j,rfl⟩,λa e=>by injection e with e;subst e;exact⟨_,j,rfl⟩,?_⟩) hd)<|DJ K.kind;apply gm (Ĝ H)<|H.args<|H.spliced he pos (Ð h1 Ą) P B O A s _ _ R K λvals s1 B1 eI S1 J c=>?_;apply BN c;intro _ y
 ·.apply eJ J hx G<|S1.names x _ b;rintro l' items n e1 _ _ Y c;injection e1 with e;subst e
   refine(?_:ϛ _ A (Î (.builtin "list.append")<|[.ref l]++[_]) _ _ _);exact Hh Y (λh' p L=>(Ö (λK2 D=>q .next _ B1 _ (S1.toStep.trans<|iA p D) K2 .next)<|J.list hx G (S1.names x _ b) p L (xs':=xs++[v])<|Å lE<|c.append<|.cons y .nil))<|Đ Ì<|Đ c.length<|ú t<|by decide
def SX.rev{x:Str}(hx:sc.δ.lookup x=À i)(G:(x==("__debug__":Str))=false:=by decide)
  (f:∀env,attributeBase (.Name x p') "reverse" env (eval (.Name x p') env)=eval (.Name x p') env:=by intro _;rfl) (b:(zF.endLine==pos.line)=true:=by rfl):SX X k sc F (.Expr (.Call (.Attribute (.Name x p') "reverse" zF) [] [] pos) P6) (.rev i):=by
 intro env J σ o y C;refine Mf C λxs p g=>?_;intro P B I A s Q E R K q;have H:eV X k sc [] []:=.nil;refine ì (K.vars x i _ _ hx p) λval c _=>?_;refine eJ K hx p c ?_;rintro l items n rfl _ _ m v;apply sq (pY (f env) (H.QA<|by decide) b<|j5 (c.load K.kind ⟨"list","list.reverse",lY,PySem.F.slot_list_reverse,PySem.F.type_list_reverse,⟨_,m,rfl⟩,λa e=>by injection e with e;subst e;exact⟨_,m,rfl⟩,?_⟩) G)<|DJ K.kind;apply gm (Ĝ H)<|evalArgs_nil3 ?_;refine(?_:ϛ _ A (Î (.builtin "list.reverse")<|[.ref l]++[]) _ _ _);exact uZ m (Đ Ì<|Đ v.length<|ú g<|by decide) λL n' w j=>(Ö (λD t=>q .next _ B _ (iA j t) D .next)<|K.list hx p c j w (xs':=xs.reverse)<|Å Array.toList_reverse v.reverse)
def ě.setAt{items:gS Ë}(h:ě B xs items.toList)(a:VR B v x):ě B (xs.set p v) (items.setIfInBounds p x).toList:=by
 exact Å Array.toList_setIfInBounds<|h.set p a
def SX.ö(hx:sc.δ.lookup x=À i)(M:SE X k sc ke pk)(h:SE X k sc e pe)(hd:(x==("__debug__":Str))=false:=by decide)
  (hs:∀env,swapsWith e (À<|.Subscript (.Name x p') ke Np) pos.line env=pure false:=by intro _;rfl):SX X k sc F (.Assign [.Subscript (.Name x p') ke Np] e pos) (.ö i pk pe):=by
 intro env C σ o ø J;refine FQ J λv m Ø w I m2 j xs p h1 h0 h2 D hp=>?_;intro P B α A s Q E R K q;apply E8 ((h env C σ v m Ø h1).é P B α A s _ _ R K λva s1 B1 g Ab S1 y O _ _=>?_)<|hs env;refine ì (y.vars x i _ _ hx h0) λval a _=>?_;refine j5 (a.load y.kind ?_) hd;refine(M env C Ø _ m2 j h2).é P B1 g A s1 _ _ R y λvk s2 B2 cR Nu S G L _ _=>?_
 .obtain⟨c1,W,c3,rfl⟩:=bM hp;apply eJ G hx D<|S.names x _ a;rintro l items n rfl _ _ hl c;apply ê L.vr;intro u;refine gT hl W (by omega) ((Jw 510448581529670) c3<|show items.size=xs.length by exact Đ Ì<|Đ c.length rfl) λh' n' H b=>?_;obtain⟨Y,t⟩:=G.list hx D (S.names x _ a) b H (xs':=xs.set I.toNat v)<|c.setAt<|O.vr.mono S.le;exact q .next _ B2 _ ((S1.toStep.trans S.toStep).trans<|iA b t) Y .next
def SE.pop(hx:sc.δ.lookup x=À i)(M:Ý e=false)(h:SE X k sc e pe)(hd:(x==("__debug__":Str))=false:=by decide)
  (j:∀env,attributeBase (.Name x p') "pop" env (eval (.Name x p') env)=eval (.Name x p') env:=by intro _;rfl) (t:(zF.endLine==pos.line)=true:=by rfl):
  SE X k sc (.Call (.Attribute (.Name x p') "pop" zF) [e] [] pos) (.pop i pe):=by
 intro env he σ v m ø L;refine FY L λXo J m1 Ø xs p r h0 h1 hg hp hr=>?_;intro P B α A s Q E hR K q;have H:eV X k sc [e] [pe]:=.cons M h .nil;refine ì (K.vars x i _ _ hx h0) λval f _=>?_;refine eJ K hx h0 f ?_;rintro l D n0 rfl _ _ w _
 .obtain⟨c1,c2,c3,rfl⟩:=bM hp;apply pY (j env) (H.QA<|by simp) t (j5 (f.load K.kind ⟨"list","list.pop",lY,PySem.F.slot_list_pop,PySem.F.type_list_pop,⟨_,w,rfl⟩,λa e=>by cases e;exact⟨_,w,rfl⟩,?_⟩) hd);apply gm (Ĝ H)<|H.args<|H.spliced he pos (Ð h1 Ą) P B α A s _ _ hR K λvals s1 B1 eI S1 G b=>?_;apply BN b;intro _ L
  ·.apply ê L;intro u;apply eJ G hx hg<|S1.names x _ f;rintro l' items n e1 e2 _ Y b;cases e1;have I:items.size=xs.length:=Đ Ì<|Đ b.length rfl;refine ì (b.at_ hr) λrv C R=>?_;refine(?_:ϛ _ A (Î (.builtin "list.pop")<|[.ref l]++[_]) _ _ _);refine JP Y c2 (by omega) ((fh)▸C) (Å I<|ú c1<|by decide) λh' n' ho o=>?_;obtain⟨K2,S⟩:=G.list hx hg (S1.names x _ f) o ho (xs':=xs.eraseIdx J.toNat) (by
     have:(items.eraseIdxIfInBounds J.toNat).toList=items.toList.eraseIdx J.toNat:=by simp
     exact Å this<|b.eraseIdx _)
    apply q rv _ B1 _ [] (S1.trans ⟨iA o S,λy u hy=>?_⟩) K2 (.z R) (λ_ h=>ϭ h) λ_ _ _ _ _ h=>ϭ h;have g:IsL s1.heap l items:=⟨_,Y,rfl,⟨n,rfl⟩,rfl,rfl⟩
    apply hy.other o.2 (λO=>?_) λc hc O=>å (G.Ė y c hc) λu' hu=>ĥ g hu O.symm
    .apply Ö ?_ G.loc;rintro⟨mm,hn⟩ _;exact ī g hn O.symm
end
inductive cp(sc:Sc):Ã Expr->Ã Á->Prop
 |nil:cp sc [] []
 |cons {x p ts i is} (hx:sc.δ.lookup x=À i) (hw:sc.wr.contains x=true) (t:cp sc ts is):cp sc (.Name x p::ts) (i::is)
section
variable{X:Cx}{k:Á}{sc:Sc}{F:Á}
def cp.each{a:Ã Expr}{is:Ã Á}(R:cp sc a is)(env:ey):(nE a env).length=is.length/\(nE a env).findIdx? (·.1)=Ä:=by
 induction R with
 |nil=>exact⟨rfl,rfl⟩
 |@cons x p a i is hx w t ih=>
  refine Å (show nE (.Name x p::a) env=(false,assign (.Name x p) env)::nE a env from rfl) ?_;refine⟨by simp[ih.1],?_⟩;refine Å (List.findIdx?_cons) ?_;simp[ih.2]
def jk{is:Ã Á}:∀{vs:Ã V}{σ a:St},putAll is vs σ=À a->vs.length=is.length:=by
 induction is with
 |nil=>intro vs σ a h;induction vs with
  |nil=>rfl
  |cons=>exact ÿ h
 |cons i is ih=>intro vs σ a h;induction vs with
  |nil=>exact ÿ h
  |cons v vs=>exact Ù (·+1)<|ih h
def u9(R:cp sc j is):
  ∀{σ a:St}{c:Á->Ã Ĳ}{s:ŕ}{vs:Ã V}{vals:Ã Ë},Ok X.T P B env sc.dl sc.wl σ c s.heap->putAll is vs σ=À a->ě B vs vals->
  (∀s' f,Step P s s' B B->Ok X.T P B env sc.dl sc.wl a f s'.heap->Q () s')->wq X A (bV ((nE j env).map (·.2)) vals) Q E s:=by
 induction R with
 |nil=>
  intro σ a c s vs vals K b h q;cases vs with
  |nil=>
   apply RO h;obtain rfl:=à b;exact õ<|q s c (.refl _ _ _) K
  |cons=>exact ÿ b
 |@cons x p j i is hx D t ih=>
  intro σ a c s vs vals K b h q;cases vs with
  |nil=>exact ÿ b
  |cons v vs=>
   apply Li h;intro M H C h;exact((Ü<|ϗ<|Ü (m:=bc _)<|ų<|eT K hx D C λL J S G=>ih G b h λy g I o=>q y g (S.trans I) o):ϛ _ A (do bF _ (assign (.Name x p) env _);bV _ _) Q E s)
def rE
  (R:cp sc ts is) (m:A.handled=Ä) (K:Ok X.T P B env sc.dl sc.wl σ α s.heap) (h:putAll is vs σ=À ø) (j:VR B (.ñ vs) val)
  (q:∀s' a,Step P s s' B B->Ok X.T P B env sc.dl sc.wl ø a s'.heap->Q () s'):wq X A (assign (.Tuple ts n p) env val) Q E s:=by
 apply iU j K.base;intro t items C v;obtain⟨y,l2⟩:=R.each env;refine gN m C (Å y<|Đ (jk h)<|Å v.length<|Å Ì rfl) l2 λg f=>?_;have x:kQ s.heap g B B:=⟨λb o e=>f b o (λc=>by rw[c,ĉ] at e;exact ÿ e) e,.refl _,λb o e=>f b o (λc=>by rw[c,K.HJ<|ĉ _] at e;exact ÿ e)<|K.base b o e,λ_ _ e=>.inl e⟩
 exact u9 R (s:={s with heap:=g}) (K.ext x) h v λs' a S K'=>q s' a ((x.step K.hi (tk:=s.toks)).trans S) K'
def SX.mO(R:cp sc ts is)(h:SE X k sc e pe)
  (j:∀env,swapsWithSole [.Tuple ts n p] e pos.line env=pure false:=by intro _;rfl) (H:∀env,swappedStores [.Tuple ts n p] e env=pure Ä:=by intro _;rfl):SX X k sc F (.Assign [.Tuple ts n p] e pos) (.mO is pe):=by
 intro env w σ o f v;refine Nm v λxs m Ø C x M=>?_;intro P B g A s Q E b K q
 .apply lZ ((h env w σ _ m Ø x).é P B g A s _ _ b K λc L J t y S1 D O _ _=>?_) (j env)<|H env;refine(?_:ϛ _ A (assign (.Tuple ts n p) env c) _ _ L);exact rE R b.hd D M O.vr λG a S I=>q .next G J a (S1.toStep.trans S) I .next
def SX.jJ(hx:sc.δ.lookup x=À i)(b:sc.wr.contains x=true)(M:sc.δ.lookup y=À j)(w:sc.wr.contains y=true)(h:SE X k sc e pe)
  (L:∀env,swappedStores [.Name x p,.Name y p'] e env=pure Ä:=by intro _;rfl):SX X k sc F (.Assign [.Name x p,.Name y p'] e pos) (.jJ i j pe):=by
 intro env G σ o t f;refine Al f λv m Ø H=>?_;intro P B C A s Q E R K q;exact wpAny_Assign_two ((h env G σ v m Ø H).é P B C A s _ _ R K λva s1 Y D I S1 J O _ _=>(Ü (m:=bc _)<|ų<|eT J hx b O.vr λs2 cR S W=>(Ü (m:=bc _)<|ų<|eT W M w O.vr λc a S3 g=>q .next c Y a ((S1.toStep.trans S).trans S3) g .next))) rfl<|L env
inductive af(h:gk)(B:PB):Ã (V×Á)->Ã Ë->Ã (Ã Ĳ)->Prop
 |nil:af h B [] [] []
 |cons {v m val as ws vals mD} (O:ĭ h B v m val as) (t:af h B ws vals mD) (ap:∀l∈mD,∀a∈as,a∉l):af h B ((v,m)::ws) (val::vals) (as::mD)
def ă.pW(c:ŀ B B')(H:ă h B cz as):(∀a∈as,∀o,h.get? a=À o->h'.get? a=À o)->(∀a∈as,B' a=Ä)->ă h' B' cz as:=by
 induction H with
 |nil=>exact λ_ _=>.nil
 |cons j hB v _ t=>exact λg f=>.cons (IsL.keep j<|g _<|.head _) (f _<|.head _) (v.mono c)<|t (λa b=>g a<|.tail _ b) λa b=>f a<|.tail _ b
def ĭ.pW(b:ŀ B B')(O:ĭ h B v m val as)(p:∀a∈as,∀o,h.get? a=À o->h'.get? a=À o)(g:∀a∈as,B' a=Ä):ĭ h' B' v m val as:=by
 induction O with
 |z f=>exact .z<|f.mono b
 |one c hB f=>exact .one (ì c λo ho r=>⟨o,p _ (.head _) o ho,r⟩) (g _<|.head _)<|f.mono b
 |two c hB s q=>exact .two (ì c λo ho r=>⟨o,p _ (.head _) o ho,r⟩) (g _<|.head _) (s.pW b (λa j=>p a<|.tail _ j) λa j=>g a<|.tail _ j) q
def af.pW(c:ŀ B B')(H:af h B ws vals mD):(∀l∈mD,∀a∈l,∀o,h.get? a=À o->h'.get? a=À o)->(∀l∈mD,∀a∈l,B' a=Ä)->af h' B' ws vals mD:=by
 induction H with
 |nil=>exact λ_ _=>.nil
 |cons O _ j t=>exact λg f=>.cons (O.pW c (g _<|.head _)<|f _<|.head _) (t (λl b=>g l<|.tail _ b) λl b=>f l<|.tail _ b) j
def af.lists(H:af h B ws vals mD):∀l∈mD,∀a∈l,∃items,IsL h a items/\B a=Ä:=by
 induction H with
 |nil=>exact λl b=>ϭ b
 |cons O _ _ t=>exact λl b=>(ő.1 b).elim (λe=>e▸O.lists)<|t l
def Ip(K:Ok T P B env δ wr σ α h)(b:∀a∈as,∃items,IsL h a items)(fr:gB δ σ α as):Off env δ σ α as:=by
 refine⟨λm=>?_,λx c j m=>?_,λx i hx hi a f m=>fr x i hx hi a m f,λa f m=>((b _ m).elim λ_ q=>(K.ex a f).2.dP q rfl)⟩
 .obtain⟨items,q⟩:=b _ m;obtain⟨⟨p,g⟩,_⟩:=K.loc;exact ī q g rfl
 .obtain⟨items,q⟩:=b _ m;obtain⟨u,o⟩:=K.Ė x c j;exact ĥ q o rfl
def eV.KH{es:Ã Expr}{i6:Ã PE}(H:eV X k sc es i6){env:ey}(he:env.scope.names=sc.kinds)(pos:o6):∀{σ ws ø},du i6 σ=À (ws,ø)->
  ∀(P:Ĳ->Prop)(B:PB)(α:Á->Ã Ĳ)(A:q6)(s:ŕ)(Q:Ã Ë->ŕ->Prop)(E:Ë->ŕ->Prop),ţ k A->Ok X.T P B env sc.dl sc.wl σ α s.heap->
  (∀vals s' B' qr mD,Ķ env P s s' B B'->Ok X.T P B' env sc.dl sc.wl ø qr s'.heap->af s'.heap B' ws vals mD->(∀l∈mD,∀a∈l,P a)->(∀l∈mD,gB sc.dl ø qr l)->Q vals s')->
  wq X A (tZ<|ş pos<|ϧ es env) Q E s:=by
 induction H with
 |nil=>
  intro σ vs ø h;exact A8 (N:=λws ø=>∀(P:Ĳ->Prop)(B:PB)(α:Á->Ã Ĳ)(A:q6)(s:ŕ)(Q:Ã Ë->ŕ->Prop)(E:Ë->ŕ->Prop),ţ k A->Ok X.T P B env sc.dl sc.wl σ α s.heap->
   (∀vals s' B' qr mD,Ķ env P s s' B B'->Ok X.T P B' env sc.dl sc.wl ø qr s'.heap->af s'.heap B' ws vals mD->(∀l∈mD,∀a∈l,P a)->(∀l∈mD,gB sc.dl ø qr l)->Q vals s')->
   wq X A (tZ []) Q E s) h λP B α A s Q E hR K q=>rD<|q [] s B α [] (.refl _ _ _ _) K .nil (λ_ h=>ϭ h) λ_ h=>ϭ h
 |@cons e pe es i6 hs h t ih=>
  intro σ ws ø hv;refine oH (N:=λws ø=>∀(P:Ĳ->Prop)(B:PB)(α:Á->Ã Ĳ)(A:q6)(s:ŕ)(Q:Ã Ë->ŕ->Prop)(E:Ë->ŕ->Prop),ţ k A->Ok X.T P B env sc.dl sc.wl σ α s.heap->
   (∀vals s' B' qr mD,Ķ env P s s' B B'->Ok X.T P B' env sc.dl sc.wl ø qr s'.heap->af s'.heap B' ws vals mD->(∀l∈mD,∀a∈l,P a)->(∀l∈mD,gB sc.dl ø qr l)->Q vals s')->
   wq X A (tZ<|ş pos<|ϧ (e::es) env) Q E s) hv λx m Ø xs dM h1 h2=>?_
  intro P B α A s Q E hR K q;have e1:ş pos (ϧ (e::es) env)=(false,eval e env)::ş pos (ϧ es env):=by
   cases e<;>first|rfl|injection hs
  refine Å e1 ?_;apply ua<|h env he σ x m Ø h1 P B α A s _ _ hR K λva s1 B1 eI Ab S1 K1 O1 NN Bo=>?_;have Sh:∀a∈Ab,∃items,IsL s1.heap a items:=λa ha=>ì (O1.lists a ha) λi q _=>⟨i,q⟩
  refine ih h2 _ B1 eI A s1 _ _ hR (K1.shrink (Ip K1 Sh Bo) λb hb=>wO (Sh b hb) λ_ o ho _=>⟨o,ho⟩) λvals s2 B2 cR mD S2 K2 L2 Ks OJ=>?_;have gr:∀a,(P a/\a∉Ab)->P a:=λa h=>h.1;refine q _ s2 B2 cR (Ab::mD) (S1.trans ⟨S2.toStep.grow gr,S2.names⟩) (K2.grow gr K.low) (.cons (O1.pW S2.le (λa ha o e=>S2.kept a o e λh=>h.2 ha) λa ha=>?_) L2 λl hl a ha hm=>(Ks l hl a hm).2 ha) (λl hl a ha=>?_) λl hl=>?_
  .refine ì (O1.lists a ha) λ_ _ hb=>?_;cases e:B2 a with
   |none=>rfl
   |some o=>
     rcases S2.new a o e with q'|q'
     .exact ÿ<|hb.symm.trans q'
     .exact ó ha q'.2
  .rcases ő.1 hl with rfl|hl
   .exact NN a ha
   .exact(Ks l hl a ha).1
  .rcases ő.1 hl with rfl|hl
   .intro y i hy hi a ha hm;exact å (Option.isSome_iff_exists.1 hi) λw hw=>K2.Æ y i w.1 w.2 hy hw λu _ _ h3=>(h3 a hm).2 ha
   .exact OJ l hl
inductive k9(sc:Sc)(env:ey):Ã (Ë->ŭ Unit)->Ã Á->Prop
 |nil:k9 sc env [] []
 |cons {x i ts is t} (hx:sc.δ.lookup x=À i) (hw:sc.wr.contains x=true) (hb:∀v M A s Q E,ϛ M A (bindName env x v) Q E s->ϛ M A (t v) Q E s) (r:k9 sc env ts is):k9 sc env (t::ts) (i::is)
def qT{A:q6}{P:Ĳ->Prop}{B:PB}{env:ey}{E:Ë->ŕ->Prop}{Q:Unit->ŕ->Prop}{f:Ã (Ë->ŭ Unit)}{is:Ã Á}(R:k9 sc env f is):
  ∀{σ g:St}{H:Á->Ã Ĳ}{s:ŕ}{ws:Ã (V×Á)}{vals:Ã Ë}{b:Ã (Ã Ĳ)},Ok X.T P B env sc.dl sc.wl σ H s.heap->ϋ is ws σ=À g->af s.heap B ws vals b->(∀l∈b,∀a∈l,P a)->(∀l∈b,gB sc.dl σ H l)->
  (∀s' M,Step P s s' B B->Ok X.T P B env sc.dl sc.wl g M s'.heap->Q () s')->wq X A (bV f vals) Q E s:=by
 induction R with
 |nil=>
  intro σ g H s ws vals b K D L J fr q
  induction L with
  |nil=>
   obtain rfl:=à D;exact õ<|q s H (.refl _ _ _) K
  |cons=>exact ÿ D
 |@cons x i ts is t hx hw hb r ih=>
  intro σ g H s ws vals b K D L J fr q
  induction L with
  |nil=>exact ÿ D
  |@cons v m val as ws vals b O L ap=>
   refine(?_:ϛ _ A (do bF _ (t _);bV _ _) Q E s);apply Ü<|ϗ<|hb _ _ _ _ _ _<|wz<|eQ K hw hx O (J _<|.head _) (fr _<|.head _) λs2 Y S2 K2=>?_;have C:∀l∈b,∀a∈l,∀o,s.heap.get? a=À o->s2.heap.get? a=À o:=λl h a p o e=>by
    refine å ((show∀l∈b,∀a∈l,∃items,IsL s.heap a items from λl h a p=>ì (L.lists l h a p) λi q _=>⟨i,q⟩) l h a p) λitems q'=>?_;refine Y a o (λW=>?_) (λy c hc W=>å (K.Ė y c hc) λu hu=>ĥ q' hu W) e
    .apply Ö ?_ K.loc;rintro⟨mm,hn⟩ _;exact ī q' hn W
   apply ih K2 D (L.pW (.refl _) C λl h a p=>(L.lists l h a p).choose_spec.2) (λl h=>J l<|.tail _ h) (λl h y j hy hj a p I=>?_) λs3 S S3 K3=>q s3 S (S2.trans S3) K3;replace I:a∈(if j=i then as else H j):=I;by_cases G:j=i
   .rw[ť G] at I;exact ap l h a I p
   .rw[È G] at I;exact fr l (.tail _ h) y j hy ((ŋ G)▸hj) a p I
def cp.stores{a:Ã Expr}{is:Ã Á}(R:cp sc a is)(env:ey):k9 sc env ((nE a env).map (·.2)) is:=by
 induction R with
 |nil=>exact .nil
 |@cons x p a i is hx w t ih=>exact .cons (x:=x) hx w (λv M A s Q E h=>Ü (m:=bc _)<|ų h) ih
def af.length{h:gk}{B:PB}(H:af h B ws vals mD):ws.length=vals.length:=by
 induction H with
 |nil=>rfl
 |cons _ _ _ t=>exact Ù (·+1) t
def ai{is:Ã Á}:∀{vs:Ã (V×Á)}{σ a:St},ϋ is vs σ=À a->vs.length=is.length:=by
 induction is with
 |nil=>intro vs σ a h;induction vs with
  |nil=>rfl
  |cons=>exact ÿ h
 |cons i is ih=>intro vs σ a h;induction vs with
  |nil=>exact ÿ h
  |cons v vs=>exact Ù (·+1)<|ih h
def qK{A:q6}{P:Ĳ->Prop}{B:PB}{env:ey}{σ:St}{f:Á->Ã Ĳ}{s:ŕ}{ws:Ã (V×Á)}{vals:Ã Ë}{b:Ã (Ã Ĳ)}(K:Ok X.T P B env sc.dl sc.wl σ f s.heap)(L:af s.heap B ws vals b){h:gk}
  (c:∀a o,s.heap.get? a=À o->h.get? a=À o):Ok X.T P B env sc.dl sc.wl σ f h/\af h B ws vals b/\Ķ env P s {s with heap:=h} B B:=by
 have x:kQ s.heap h B B:=⟨c,.refl _,λa o e=>c a o<|K.base a o e,λ_ _ e=>.inl e⟩
 exact⟨K.ext x,L.pW (.refl _) (λl g a j o e=>c a o e) λl g a j=>(L.lists l g a j).choose_spec.2,x.kB K.hi⟩
def SX.par{t es:Ã Expr}{is:Ã Á}{b:Ã PE}{n n':Á}{p p' pos:o6}(R:cp sc t is)(H:eV X k sc es b)
  (hw:swappedStores [.Tuple t n p] (.Tuple es n' p') (uR sc.kinds)=pure Ä) (hn:is.length<=1000:=by decide):SX X k sc F (.Assign [.Tuple t n p] (.Tuple es n' p') pos) (.par is b):=by
 intro env w σ o J C;refine ym C λws Ø dM h1 g=>?_;intro P B L A s Q E m K q;apply lZ (sD<|H.KH w p' h1 P B L A s _ _ m K λvals f B1 Y y S1 K1 L1 h j=>⟨by refine Đ L1.length<|Å (ai g) ?_;unfold ee;exact ϴ ‹_› rfl,?_⟩) rfl<|LR w K.kind hw;refine(?_:ϛ _ A (assign (.Tuple t n p) env<|.ref f.heap.objs.size) _ _ _);apply Ö (λD l2=>?_)<|R.each env;refine gN (items:=vals.toArray) m.hd ⟨_,ë _ rfl,rfl,_,rfl⟩ (Å D<|Å Dj<|Đ L1.length<|Å (ai g) rfl) l2 λv O=>?_;have G:∀a o,f.heap.get? a=À o->v.get? a=À o:=λa o e=>O a o (λM=>by
  rw[M,e0] at e;exact ó (Ļ e)<|Ϣ.2<|jW _) (Ô _ e)
 exact Ϸ (qK (A:=A) K1 L1 G) λK2 S W=>(qT (R.stores env) (s:={f with heap:=v}) K2 g S h j λx c S3 I=>q .next x B1 c ((S1.toStep.trans W.toStep).trans S3) I .next)
inductive kT(sc:Sc):Ã Str->Ã Á->Prop
 |nil:kT sc [] []
 |cons {x xs i is} (hx:sc.δ.lookup x=À i) (hw:sc.wr.contains x=true) (t:kT sc xs is):kT sc (x::xs) (i::is)
def kT.stores{xs:Ã Str}{is:Ã Á}(R:kT sc xs is)(env:ey):k9 sc env (xs.map λn=>bindName env n) is:=by
 induction R with
 |nil=>exact .nil
 |@cons x xs i is hx w t ih=>exact .cons (x:=x) hx w (λv M A s Q E h=>h) ih
noncomputable def KY:Ã Á->Ò
 |[i,j]=>i !=j
 |[i,j,l]=>i !=j&&i !=l&&j !=l
 |_=>false
def kn{σ:St}(h:i≠j):(σ.ö i v m).ö j w n=(σ.ö j w n).ö i v m:=by
 unfold St.ö;exact set_comm _ _ h
def sH{a b:Ã Ĳ}(h:∀x∈a,x∉b):∀x∈b,x∉a:=λx hx y=>h x y hx
def WT{σ:St}{a b c:V×Á}(f:i≠j)(h:i≠l)(g:j≠l):((σ.ö i a.1 a.2).ö j b.1 b.2).ö l c.1 c.2=((σ.ö l c.1 c.2).ö j b.1 b.2).ö i a.1 a.2:=
 (kn g).trans ((Ù (λt:St=>t.ö j b.1 b.2)<|kn h).trans<|kn f)
def FJ{M:Ã Ë->Ã (Ã Ĳ)->Prop}(L:af h B [] vals mD)(k:M [] []):M vals mD:=by cases L;exact k
def j9{M:Ã Ë->Ã (Ã Ĳ)->Prop}{w:V×Á}(L:af h B (w::ws) vals b)(k:∀val vals as b,ĭ h B w.1 w.2 val as->af h B ws vals b->(∀l∈b,∀a∈as,a∉l)->M (val::vals) (as::b)):M vals b:=by
 cases L with|cons O t c=>exact k _ _ _ _ O t c
def II{h:gk}{B:PB}{is:Ã Á}{ws:Ã (V×Á)}{vals:Ã Ë}{b:Ã (Ã Ĳ)}{σ c:St}(f:KY is=true)(L:af h B ws vals b)(p:ϋ is ws σ=À c):
  af h B ws.reverse vals.reverse b.reverse/\ϋ is.reverse ws.reverse σ=À c:=by
 cases is with
 |nil=>injection f
 |cons i is=>cases is with
  |nil=>injection f
  |cons j is=>cases ws with
   |nil=>exact ÿ p
   |cons w ws=>cases ws with
    |nil=>exact ÿ p
    |cons w2 ws=>cases is with
     |nil=>cases ws with
      |cons=>exact ÿ p
      |nil=>
       obtain rfl:=à p;apply j9 L;intro A y J v O L1;apply j9 L1;intro I x H s o t;apply FJ t;intro g m;exact⟨.cons o (.cons O .nil λl a=>ϭ a) λl a=>Ċ.1 a▸sH (m _<|.head _),Ù À (kn<|Wq.1 f).symm⟩
     |cons l is=>cases is with
      |cons=>injection f
      |nil=>cases ws with
       |nil=>exact ÿ p
       |cons w3 ws=>cases ws with
        |cons=>exact ÿ p
        |nil=>
         have q:=jU.1 f;have q1:=jU.1 q.1;obtain rfl:=à p;apply j9 L;intro A y J v O L1;apply j9 L1;intro I x H s o t g;revert g;apply j9 t;intro P D K G C E;apply FJ E;intro M g m;exact⟨.cons C (.cons o (.cons O .nil λl a=>ϭ a) λl a=>Ċ.1 a▸sH (m _<|.head _)) λl a=>(ő.1 a).elim (λe=>e▸sH (g _<|.head _)) λa=>Ċ.1 a▸sH (m _<|.tail _<|.head _),Ù À (WT (Wq.1 q1.1) (Wq.1 q1.2)<|Wq.1 q.2).symm⟩
def SX.AY{v es:Ã Expr}{is:Ã Á}{b:Ã PE}{n n':Á}{p p' pos:o6}{names:Ã Str}(R:kT sc names.reverse is.reverse)(H:eV X k sc es b)(Y:KY is=true)
  (hw:swappedStores [.Tuple v n p] (.Tuple es n' p') (uR sc.kinds)=pure (À names)) (hn:is.length<=1000:=by decide) (h:names.length=is.length:=by rfl):SX X k sc F (.Assign [.Tuple v n p] (.Tuple es n' p') pos) (.par is b):=by
 intro env y σ o M I;refine ym I λws Ø dM h1 m=>?_;intro P B O A s Q E w K q;refine Å (exec_Assign_arm ..) ?_;apply Ü<|ų ?_;refine(?_:ϛ _ A (pure false>>=_) _ _ s);apply Ü<|õ ?_;refine Å (È<|by decide) ?_;apply Ü (sD<|H.KH y p' h1 P B O A s _ _ w K λvals C B1 eI G S1 K1 L1 j t=>⟨by refine Đ L1.length<|Å (ai m) ?_;unfold ee;exact(A1 0x100000077003e837006) hn,?_⟩);refine Å (LR y K.kind hw) ?_;apply Ü<|õ ?_;unfold assignStores;refine Ü<|xy<|Ü ?_;refine Å (show names.length=vals.toArray.size by exact Å Dj<|Đ L1.length<|Å (ai m)<|Å h rfl) ?_;refine wpAny_unpackItems_tuple (items:=vals.toArray) w.hd ⟨_,ë _ rfl,rfl,_,rfl⟩ λx W=>?_;have J:∀a o,C.heap.get? a=À o->x.get? a=À o:=λa o e=>W a o (λS=>by
  rw[S,e0] at e;exact ó (Ļ e)<|Ϣ.2<|jW _) (Ô _ e)
 refine Ϸ (qK (A:=A) K1 L1 J) λK2 L2 S2=>?_;apply Ö (λL3 c=>?_)<|II Y L2 m;refine Ü<|qT (R.stores env) (s:={C with heap:=x}) K2 c L3 (λl g=>j l<|l8.1 g) (λl g=>t l<|l8.1 g) λD f S3 L=>õ<|q .next D B1 f ((S1.toStep.trans S2.toStep).trans S3) L .next
end
section
variable{X:Cx}{k:Á}{sc:Sc}{Fu:Á}
def Op.own(hB:ŀ B s.heap.get?)(v:ě B vs items.toList)
  (h:∀(Q E:Ë->ŕ->Prop),(∀tk,Q (.ref s.heap.objs.size) {s with heap:=s.heap.push {cls:=.type "list",data:=.seq items},toks:=tk})->wq X A t Q E s):Op X A B s t (.Ñ vs) 1:=λQ E q=>
 h Q E λtk=>q _ _ tk B [s.heap.objs.size] (ό hB _) (.one ⟨_,ë _ rfl,rfl,⟨0,rfl⟩,rfl,rfl⟩ (by
   cases e:B s.heap.objs.size with
   |none=>rfl
   |some o=>exact ó (Ļ<|hB _ o e)<|fK _) v) λa b=>by obtain rfl:=Ċ.1 b;exact ĉ _
def Dx:∀(k:Á)(xs a:gS Ë),(foldl (λb x=>b++x) a<|replicate k xs).toList=a.toList++(replicate k xs.toList).flatten:=by
 intro r0
 induction r0 with
 |zero=>intro xs a;simp
 |succ k ih0=>
  intro xs a;refine Å hU<|Å DN<|Å (ih0 xs<|a++xs)<|Å hU<|Å gZ ?_;simp
def ě.flatten(h:ě B vs xs):∀k,ě B (replicate k vs).flatten (replicate k xs).flatten:=by
 intro r0
 induction r0 with
 |zero=>exact .nil
 |succ k ih0=>exact Å hU<|Å gZ<|Å hU<|Å gZ<|h.append<|ih0
def Nl{xs a:Ã V}(h:xs.length+a.length<=1000000)(hx:VR B (.Ñ xs) x)(m:VR B (.Ñ a) y)(hB:ŀ B s.heap.get?):Op X A B s (mv .Add x y) (.Ñ<|xs++a) 1:=by
 apply Ł hx;intro l o n items b f hd _ Nx;apply Ł m;intro l2 j c F9 XY Sa Vh _ Ya;refine Op.own (items:=items++F9) hB (Å Array.toList_append<|Nx.append Ya) λQ E q=>?_;obtain⟨cls,g,data,p⟩:=o;obtain⟨ZF,YD,data2,UH⟩:=j;subst f;subst hd;subst Sa;subst Vh;exact concat_meets ⟨_,hB _ _ b,rfl⟩ ⟨_,hB _ _ XY,rfl⟩ noFill_list_add seq_list_add PySem.F.slot_list_add PySem.F.entry_list_add (PySem.F.args_list_add_2 _ _) (list_addW l l2 items F9 n c g YD p UH<|Đ Ì<|Đ Nx.length<|Đ Ì<|Đ Ya.length<|ú h<|by decide) ⟨hB _ _ b,hB _ _ XY,q s.toks⟩
def Lj{xs:Ã V}{y:Â}(hl:0<=y/\y<=1000/\xs.length<=1000)(hx:VR B (.Ñ xs) x)(hB:ŀ B s.heap.get?):Op X A B s (mv .Mult x<|.int y u) (.Ñ<|(replicate y.toNat xs).flatten) 1:=by
 apply Ł hx;intro l o n items ho hc hd HO Nx;obtain⟨cls,dd,data,sl⟩:=o;refine Ö (λh1 h2=>?_) HO;subst hc;subst hd;subst h1;subst h2;have hs:items.size*y.toNat<=2^24:=by
  exact Å (show items.size=xs.length by rw[Nx.length,Ì])<|ú (aae hl.2.2 (by omega:y.toNat<=1000))<|by decide
 refine Op.own (items:=foldl (λx1 x2=>x1++x2) #[] (replicate (if items.isEmpty=true then 0 else y.toNat) items)) hB ?_ λQ E q=>?_
 .rw[Dx];by_cases he:items.isEmpty=true
  .rw[ť he];rw[me] at he;cases he;cases Nx;simpa using ě.nil
  .rw[È he];simpa using Nx.flatten y.toNat
 .exact wpAny_binaryOp_repeat_ref (T:="list") (U:="int") rfl ⟨_,hB _ _ ho,rfl⟩ (λs'=>rC s' y u) noFill_list_mul PySem.F.fills_int_mul GB repeat_list PySem.F.slot_int_index.lookup
   (oq GB (rC s y u) PySem.F.entry_int_rmul (PySem.F.args_int_rmul_2 _ _) (int___rmul___int_list y u l items n)
    ⟨hB _ _ ho,rfl,⟨_,hB _ _ ho,rfl⟩,oq PySem.F.slot_list_mul ⟨_,hB _ _ ho,rfl⟩ PySem.F.entry_list_mul (PySem.F.args_list_mul_2 _ _)
     (AutoListH.list___mul___list_int_3 l items n y u (by simp[jL];omega) (by omega)<|by simp[Builtin.List.listTooLong,ee];omega)
     ⟨hB _ _ ho,q s.toks⟩⟩)
def oz(hx:VR B (.int i) x)(a:VR B (.int j) y)(hB:ŀ B s.heap.get?)
  (h:∀t u(Q E:Ë->ŕ->Prop),(∀val tk,VR B v val->Q val {s with toks:=tk})->wq X A (mv op (.int i t)<|.int j u) Q E s):Op X A B s (mv op x y) v 0:=
 by apply ê hx;intro t;apply ê a;intro u;exact λQ E q=>@h t u Q E λval tk a=>q val s.heap tk B [] (E4 hB) (.z a) λ_ h=>ϭ h
def Ge(hx:VR B (.á i) x)(a:VR B (.á j) y)(hB:ŀ B s.heap.get?)
  (h:∀t u(Q E:Ë->ŕ->Prop),(∀val tk,VR B v val->Q val {s with toks:=tk})->wq X A (mv op (.float i t)<|.float j u) Q E s):Op X A B s (mv op x y) v 0:=
 by apply ŷ hx;intro t;apply ŷ a;intro u;exact λQ E q=>@h t u Q E λval tk a=>q val s.heap tk B [] (E4 hB) (.z a) λ_ h=>ϭ h
def MC(hx:VR B (.á i) x)(a:VR B (.int j) y)(hB:ŀ B s.heap.get?)
  (h:∀t u(Q E:Ë->ŕ->Prop),(∀val tk,VR B v val->Q val {s with toks:=tk})->wq X A (mv op (.float i t)<|.int j u) Q E s):Op X A B s (mv op x y) v 0:=
 by apply ŷ hx;intro t;apply ê a;intro u;exact λQ E q=>@h t u Q E λval tk a=>q val s.heap tk B [] (E4 hB) (.z a) λ_ h=>ϭ h
def Mm(hx:VR B (.int i) x)(a:VR B (.á j) y)(hB:ŀ B s.heap.get?)
  (h:∀t u(Q E:Ë->ŕ->Prop),(∀val tk,VR B v val->Q val {s with toks:=tk})->wq X A (mv op (.int i t)<|.float j u) Q E s):Op X A B s (mv op x y) v 0:=
 by apply ê hx;intro t;apply ŷ a;intro u;exact λQ E q=>@h t u Q E λval tk a=>q val s.heap tk B [] (E4 hB) (.z a) λ_ h=>ϭ h
def vL(e:ü op a b=À (r,m))(hx:VR B a x)(c:VR B b y)(hB:ŀ B s.heap.get?):Op X A B s (mv op x y) r m:=by
 revert hx c
 induction op with
 |Add=>
  exact zO (M:=λa b r m=>VR B a x->VR B b y->Op X A B s (mv .Add x y) r m) e (λi j hx c=>oz hx c hB λt u Q E q=>add_int<|q _ _ .int)
   ⟨λi j hx c=>Ge hx c hB λt u Q E q=>add_float<|q _ _ .á,λi j h hx c=>MC hx c hB λt u Q E q=>AutoFloatOpsIf.add_fi<|Å (È<|eY h)<|q _ _ .á,λi j h hx c=>Mm hx c hB λt u Q E q=>AutoFloatOpsIf.add_if<|Å (È<|eY h)<|q _ _ .á⟩
   (λi j h hx c=>by apply ύ hx;intro t;apply ύ c;intro u;exact .flat hB λQ E q=>PyProof.Rows.add_str (λg tk=>q _ _ .str)<|ú h<|by decide) λi j h hx c=>Nl h hx c hB
 |Sub=>
  exact z7 (M:=λa b r m=>VR B a x->VR B b y->Op X A B s (mv .Sub x y) r m) e (λi j hx c=>oz hx c hB λt u Q E q=>sub_int<|q _ _ .int)
   ⟨λi j hx c=>Ge hx c hB λt u Q E q=>sub_float<|q _ _ .á,λi j h hx c=>MC hx c hB λt u Q E q=>AutoFloatOpsIf.sub_fi<|Å (È<|eY h)<|q _ _ .á,λi j h hx c=>Mm hx c hB λt u Q E q=>AutoFloatOpsIf.sub_if<|Å (È<|eY h)<|q _ _ .á⟩
 |Mult=>
  exact Ah (M:=λa b r m=>VR B a x->VR B b y->Op X A B s (mv .Mult x y) r m) e (λi j h hx c=>oz hx c hB λt u Q E q=>PySem.P.mul_int (q _ _ .int)<|Pa h)
   ⟨λi j hx c=>Ge hx c hB λt u Q E q=>mul_float<|q _ _ .á,λi j h hx c=>MC hx c hB λt u Q E q=>AutoFloatOpsIf.mul_fi<|Å (È<|eY h)<|q _ _ .á,λi j h hx c=>Mm hx c hB λt u Q E q=>AutoFloatOpsIf.mul_if<|Å (È<|eY h)<|q _ _ .á⟩
   λi j h hx c=>by apply ê c;intro u;exact Lj h hx hB
 |Div=>
  exact Ĩ e (λh=>dT (M:=λa b=>VR B a x->VR B b y->Op X A B s (mv .Div x y) r m) h λi j h hx c=>WO h λf h=>â h<|Ge hx c hB λt u Q E q=>AutoFloatOpsIf.truediv<|Å (È f)<|q _ _ .á)
   λh=>Ŝ (M:=λa b=>VR B a x->VR B b y->Op X A B s (mv .Div x y) r m) h λi j h hx c=>Ϲ h λf h=>â h<|oz hx c hB λt u Q E q=>AutoIntOpsIf.truediv<|Å (È<|by simpa using f.1)<|Å (È f.2)<|q _ _ .á
 |FloorDiv=>
  exact Ŝ (M:=λa b=>VR B a x->VR B b y->Op X A B s (mv .FloorDiv x y) r m) e λi j h hx c=>Ϲ h λf h=>â h<|oz hx c hB λt u Q E q=>floordiv_int f.1 (q _ _ .int)<|.inl<|qi f.2
 |Mod=>
  exact Ĩ e (λh=>Ŝ (M:=λa b=>VR B a x->VR B b y->Op X A B s (mv .Mod x y) r m) h λi j h hx c=>Ϲ h λf h=>â h<|oz hx c hB λt u Q E q=>mod_int' f<|q _ _ .int)
   λh=>dT (M:=λa b=>VR B a x->VR B b y->Op X A B s (mv .Mod x y) r m) h λi j h hx c=>WO h λf h=>â h<|Ge hx c hB λt u Q E q=>AutoFloatOpsIf.mod<|Å (È f)<|q _ _ .á
 |Pow=>
  exact Ŝ (M:=λa b=>VR B a x->VR B b y->Op X A B s (mv .Pow x y) r m) e λi j h hx c=>Ϲ h λf h=>â h<|oz hx c hB λt u Q E q=>Lr f.1 f.2.1 f.2.2<|q _ _ .int
 |LShift=>
  exact Ŝ (M:=λa b=>VR B a x->VR B b y->Op X A B s (mv .LShift x y) r m) e λi j h hx c=>Ϲ h λf h=>â h<|oz hx c hB λt u Q E q=>lshift_int f.1 (P8 f.2.1 f.2.2)<|q _ _ .int
 |RShift=>
  exact Ŝ (M:=λa b=>VR B a x->VR B b y->Op X A B s (mv .RShift x y) r m) e λi j h hx c=>Ϲ h λf h=>â h<|oz hx c hB λt u Q E q=>rshift_int f<|q _ _ .int
 |BitAnd=>
  exact Ŝ (M:=λa b=>VR B a x->VR B b y->Op X A B s (mv .BitAnd x y) r m) e λi j h hx c=>â h<|oz hx c hB λt u Q E q=>and_int<|q _ _ .int
 |BitXor=>
  exact Ŝ (M:=λa b=>VR B a x->VR B b y->Op X A B s (mv .BitXor x y) r m) e λi j h hx c=>â h<|oz hx c hB λt u Q E q=>xor_int<|q _ _ .int
 |_=>
  exact ÿ e
def SE.eR(L:SE X k sc l a)(D:SE X k sc r b):SE X k sc (.BinOp l op r p) (.Õ op a b):=by
 intro env j σ v m I C;refine xH C λx m1 Ø y m2 f r' m3 h1 h2 h3=>?_;intro P B J A s Q E R K q;exact wpAny_BinOp<|(L env j σ x m1 Ø h1).é P B J A s _ _ R K λva s1 B1 c Ab S1 K1 w M Bo=>(D env j Ø y m2 f h2).é P B1 c A s1 _ _ R K1 λvb s2 B2 g W h o G Y H=>(vL h3 (w.vr.mono h.le) G.vr o.base).use o λval s' B' as S K' O t fr=>q val s' B' g as ((S1.trans h).trans S) K' O t fr
def cG.uO(hl:SE X k sc l a)(hr:SE X k sc r b)(H:SE X k sc r2 c)(hm:yy o2 r2=false:=by rfl):cG X k sc (.Compare l [o1,o2] [r,r2] p) (.uO o1 o2 a b c):=by
 intro env L σ v m C b' hv;refine Ay (M:=λv m C=>Ó v=À b'->J3 X k env sc.dl sc.wl σ _ b' C) hv λx m1 Ø y m2 o h1 h2=>?_;have go:∀{c' P B D A s}{Q:Ò->ŕ->Prop}{E},Ĥ o1 x y=À c'->ţ k A->Ok X.T P B env sc.dl sc.wl σ D s.heap->(∀j g h f,Ķ env P s g B h->Ok X.T P h env sc.dl sc.wl o f g.heap->VR h y j->
   wq X A (if c' then testChain p j [o2] [eval r2 env] else pure false) Q E g)->wq X A (isTrue (.Compare l [o1,o2] [r,r2] p) env<|eval (.Compare l [o1,o2] [r,r2] p) env) Q E s:=by
  intro c' P B D A s Q E G R K q;refine Å (PySem.arm_isTrue_Compare ..) ?_;refine Ü<|(hl env L σ x m1 Ø h1).é P B D A s _ _ R K λva s1 B1 J Ab S1 K1 O1 NN Bo=>?_;refine(?_:ϛ _ A (testChain p va [o1,o2] [eval r env,markedBehindIn o2 r2<|eval r2 env]) Q E s1);refine Å (markedBehindIn_of_false hm) ?_;refine Ü<|ϗ<|(hr env L Ø y m2 o h2).é P B1 J A s1 _ _ R K1 λj s2 B2 f Nu S2 K2 O2 Ks OJ=>Ü<|ų<|Ü<|ϗ ?_;refine(tI G (O1.vr.mono S2.le) O2.vr K2.base R.u).use K2 λval g h Zl S t O Zf Z6=>Ü<|wpAny_release ?_;cases O.vr.inv;exact Ü<|ϗ<|gX<|q j g h f ((S1.trans S2).trans S) t<|O2.vr.mono S.le
 refine⟨λz m4 I Wm G h4 h5 hb P B D A s Q E R K q=>?_,λG hb P B D A s Q E R K q=>?_⟩<;>obtain rfl:=à hb
 .refine go G R K λj g h f S t O=>?_;refine(?_:ϛ _ A (testChain p j [o2] [eval r2 env]) Q E g);refine Ü<|ϗ<|(H env L o z m4 I h4).é P h f A g _ _ R t λvc s4 B4 W VS S4 Y O4 VG Z1=>Ü<|ų<|Ü<|wpAny_operateT ?_;refine(tI h5 (O.mono S4.le) O4.vr Y.base R.u).use Y λval s5 B5 Wa S5 K5 O5 Ze Ww=>?_;cases O5.vr.inv;exact ϗ<|gX<|q s5 B5 W (S.trans<|S4.trans S5) K5
 .exact go G R K λj g h f S t _=>õ<|q g h f S t
end
section
variable{prog:lX}{w:dk}{A:q6}{E:Ë->ŕ->Prop}
def Cp{St:Á->gk->Prop}(W:Walks prog w A I fp wr n P St)(m:Á):∀(i:Á)(s:ŕ)(Q:Ã Ë->ŕ->Prop),St i s.heap->i+m<=n->
  (∀C tk vals,St (i+m) C->vals.length=m->(∀j v,vals[j]?=À v->P (i+j) v)->(∀b o,b∉wr->s.heap.get? b=À o->C.get? b=À o)->Q vals {s with heap:=C,toks:=tk})->ϛ (aT prog w) A (draw (.ref I) m) Q E s:=by
 induction m with
 |zero=>
  intro i s Q a _ q;exact(õ (q s.heap s.toks [] a rfl (λj v h=>ÿ h) λ_ _ _ e=>e):ϛ _ _ (pure []) Q E s)
 |succ m ih=>
  intro i s Q a f q;refine(?_:ϛ _ _ (o8 (.ref I)>>=_) Q E s);apply Ü<|W.item i s _ _ ((A3 73251952646) f) a λv L H J g y=>?_;apply Ü<|ϗ<|ih (i+1) _ _ g ((A3 0x2e18800e281806) f) λK t vals p c G B=>õ ?_;apply q K t (v::vals) (Å (show i+(m+1)=i+1+m by exact(A2 2063880781954)) p) (by simp[c]) (λj x hx=>?_) λb o D e=>B b o D<|y b o D e
  induction j with
  |zero=>simp at hx;subst hx;exact J
  |succ j=>
   rw[y7] at hx;exact Å (show i+(j+1)=i+1+j by exact(A2 2063880781954))<|(G j x hx)
def uG(I:A.handled=Ä)(m:s.heap.IsList l items)
  (J:ux.length=items.size) (f:ux.findIdx? (·.1)=Ä)
  (h:∀D tk,(∀b o,s.heap.get? b=À o->D.get? b=À o)->ϛ (aT prog w) A (bV (ux.map (·.2)) items.toList) Q E {s with heap:=D,toks:=tk}):
  ϛ (aT prog w) A (unpack (.ref l) ux) Q E s:=by
 unfold unpack;refine Å J<|Å f ?_;apply Ü<|ϗ ?_;unfold unpackItems;apply Ü;unfold notIterableAtAll;apply Ü<|wpAny_specialOf m.typeIs PySem.F.slot_list_iter.lookup ?_;apply õ;simp;apply Ü<|ϗ<|kW m ?_;have W:=Walks.list (prog:=prog) (w:=w) (A:=A) I s.heap.objs.size l (ì m λo p _=>xc<|Ļ p) items;have x:(s.heap.push {cls:=.type "list_iterator",data:=.fields #[.ref l,.int 0 0]}).IsList l items:=by
  exact ì m λo p r=>⟨o,Ô _ p,r⟩
 apply Ü (ϗ<|Cp W items.size 0 _ _ ⟨⟨_,ë _ rfl,rfl,rfl⟩,x⟩ (by exact(A1 3968)) λL H vals a g P t=>?_);have c:vals=items.toList:=by
  apply fR;intro j;cases e:vals[j]? with
  |none=>rw[List.getElem?_eq_none_iff] at e;exact Å (ķ<|Å Ì<|(A3 2199577297190) g e) rfl
  |some v=>refine Å (fh) ?_;have:=P j v e;rw[ů] at this;exact this.symm
 subst c;refine Å (È<|by simp) ?_;rw[ů] at a;apply Ü<|ϗ<|W.done _ _ _ a λK y q=>?_;simp;refine õ<|h K y λb o e=>?_;have C:b∉[s.heap.objs.size]:=λG=>by
  rw[Ċ] at G;rw[G,ĉ] at e;exact ÿ e
 exact q b o C<|t b o C<|Ô _ e
end
section
variable{X:Cx}{k:Á}{sc:Sc}{Fu:Á}
def SX.qt(R:cp sc ts is)(h:SE X k sc e pe)
  (S:∀env,swapsWithSole [.Tuple ts n p] e pos.line env=pure false:=by intro _;rfl) (hw:∀env,swappedStores [.Tuple ts n p] e env=pure Ä:=by intro _;rfl):SX X k sc Fu (.Assign [.Tuple ts n p] e pos) (.qt is pe):=by
 intro env he σ o L H;refine IG H λxs m Ø dM h1 C=>?_;intro P B M A s Q E j K q;apply lZ ((h env he σ _ m Ø h1).é P B M A s _ _ j K λJ f c Y Ab S1 b O _ _=>?_) (S env)<|hw env;refine(?_:ϛ _ A (assign (.Tuple ts n p) env J) _ _ f);apply Ł O.vr;intro l ob _ items D G hd _ v;apply Ö (λI l2=>?_)<|R.each env;refine Å (PySem.arm_assign_Tuple ..) ?_;refine Ü<|ų<|uG j.hd (đ b.base D G hd) (Å I<|Đ (jk C)<|Å v.length<|Å Ì rfl) l2 λy tk t=>?_;have x:kQ f.heap y c c:=⟨t,.refl _,λa o e=>t a o<|b.base a o e,λ_ _ e=>.inl e⟩
 exact u9 R (s:={f with heap:=y,toks:=tk}) (b.ext x) C v λs2 g W K2=>q .next s2 c g ((S1.toStep.trans<|x.step b.hi).trans W) K2 .next
end
structure Gp(h h':gk)(B B':PB):Prop where
 keep:∀a o,a∉bS->h.get? a=À o->h'.get? a=À o
 le:ŀ B B'
 HP:ŀ B' h'.get?
 new:∀a o,B' a=À o->B a=À o\/h.get? a=Ä
section
variable{T:gk}{P:Ĳ->Prop}{B B':PB}{env:ey}{δ:Str->Ï Á}{wr:Str->Ò}{σ:St}{α:Á->Ã Ĳ}{h h':gk}
def Ok.Io(
     K:Ok T P B env δ wr σ α h) (x:Gp h h' B B') (e:∀a∈bS,cg B' h' a):Ok T P B' env δ wr σ α h':=by
 have hn:∀a o,h.get? a=À o->B a=Ä->B' a=Ä:=λa o e hb=>by
  cases e':B' a with
  |none=>rfl
  |some o'=>
     rcases x.new a o' e' with q|q
     .exact ÿ<|hb.symm.trans q
     .exact gC<|e.symm.trans q
 have nL:env.locals∉bS:=λhm=>(K.ex _ hm).2.ne_ns K.loc.1.choose_spec rfl;have nC:∀y c,env.cells.lookup y=À c->c∉bS:=λy c hc hm=>by
  exact å (K.Ė y c hc) λv hv=>(K.ex _ hm).2.iK hv rfl
 exact{
  top:=λa o e=>x.keep a o (λhm=>by rw[K.low a (K.ex a hm).1] at e;exact ÿ e) (K.top a o e)
  low:=K.low
  hi:=λa ha=>by
   by_cases hm:a∈bS
   .exact(K.ex a hm).1
   .apply K.hi a;cases e:h.get? a with
    |none=>rfl
    |some o=>rw[x.keep a o hm e] at ha;exact gC ha
  base:=x.HP
  kind:=K.kind
  glob:=K.glob
  loc:=by
   apply Ϸ K.loc;rintro⟨m,o,es,ep,ho,r⟩ hp hb;exact⟨⟨m,o,es,ep,x.keep _ _ nL ho,r⟩,hp,hn _ _ ho hb⟩
  cells:=K.cells
  ϓ:=K.ϓ
  Ė:=λy c hy=>let⟨v,o,ho,hd⟩:=K.Ė y c hy;⟨v,o,x.keep _ _ (nC y c hy) ho,hd⟩
  wrs:=λy hy=>by
   rcases K.wrs y hy with q|⟨q,c,v,h1,⟨o,ho,hd⟩,h3,h4⟩
   .exact .inl q
   .exact .inr ⟨q,c,v,h1,⟨o,x.keep _ _ (nC y c h1) ho,hd⟩,h3,hn _ _ ho h4⟩
  inj:=K.inj
  vars:=λy i v m hi hv=>by
   refine K.Æ y i v m hi hv λval h1 h2 h3=>?_;refine⟨val,?_,(h2.R8 x.le hn).uI x.keep λa ha hm=>(let⟨_,q,_⟩:=h2.lists a ha;(K.ex a hm).2.dP q rfl),h3⟩;rcases h1 with⟨kd,m',⟨o,es,ep,ho,r⟩,e⟩|⟨kd,c,hl,o,ho,hd⟩
   .exact .inl ⟨kd,m',⟨o,es,ep,x.keep _ _ nL ho,r⟩,e⟩
   .exact .inr ⟨kd,c,hl,o,x.keep _ _ (nC y c hl) ho,hd⟩
  apart:=K.apart
  ex:=λa ha=>⟨(K.ex a ha).1,e a ha⟩}
end
def Sx(X:Cx)(A:q6)(B:PB)(s:ŕ)(t:ŭ Ë)(v:V)(m:Á):Prop:=
 ∀(Q E:Ë->ŕ->Prop),(∀val h' tk B' as,Gp s.heap h' B B'->(∀a∈bS,cg B' h' a)->ĭ h' B' v m val as->(∀a∈as,s.heap.get? a=Ä)->Q val {s with heap:=h',toks:=tk})->wq X A t Q E s
def Ϩ(X:Cx)(k:Á)(fv:Ë)(F:Ã V->Ï (V×Á)):Prop:=
 ∀(A:q6)(B:PB)(s:ŕ)(vs:Ã V)(v:V)(m:Á)(vals:Ã Ë),F vs=À (v,m)->ţ k A->(∀a o,X.T.get? a=À o->s.heap.get? a=À o)->ŀ B s.heap.get?->(∀a∈bS,cg B s.heap a/\X.T.get? a=Ä)->ě B vs vals->
  Sx X A B s (call fv vals) v m
section
variable{X:Cx}{k:Á}{sc:Sc}
def Sx.use(H:Sx X A B s t v m)(K:Ok X.T P B env δ wr σ α s.heap)
  (q:∀val s' B' as,Ķ env P s s' B B'->Ok X.T P B' env δ wr σ α s'.heap->ĭ s'.heap B' v m val as->(∀a∈as,P a)->gB δ σ α as->Q val s'):
  wq X A t Q E s:=
 H Q E λval h' tk B' as x e O fr=>by
  refine q val _ B' as ⟨⟨⟨h',tk,rfl⟩,λa o ho n=>x.keep a o (λhm=>n (K.ex a hm).1) ho,x.le,λa o e=>(x.new a o e).imp id<|K.hi a⟩,λy u hu=>?_⟩ (K.Io x e) O (λa ha=>K.hi a<|fr a ha) λy i hy hi a ha hb=>?_
  .rcases hu with⟨kd,m',hn,e'⟩|⟨kd,c,hl,hc⟩
   .refine Ö ?_ K.loc;rintro⟨mm,YI⟩ _;exact Ma hn λo es ep ho r=>.inl ⟨kd,m',⟨o,es,ep,x.keep _ _ (λhm=>(K.ex _ hm).2.ne_ns YI rfl) ho,r⟩,e'⟩
   .exact ì hc λo ho hd=>.inr ⟨kd,c,hl,o,x.keep _ _ (λhm=>(K.ex _ hm).2.iK hc rfl) ho,hd⟩
  .refine å (İ.1 hi) λw hw=>?_;refine å (dt K hy (v:=w.1) (m:=w.2) hw a hb) λo ho=>?_;rw[fr a ha] at ho;exact ÿ ho
def Ok.Se(K:Ok T P B env δ wr σ α h):∀a∈bS,cg B h a/\T.get? a=Ä:=λa b=>⟨(K.ex a b).2,K.low a (K.ex a b).1⟩
def SE.QC(c:Callee X sc f fv)(H:eV X k sc (e::es) i6)(M:Ϩ X k fv F)
  (y:(f==("__debug__":Str))=false:=by decide):SE X k sc (.Call (.Name f p) (e::es) [] pos) (.fn F i6):=by
 intro env C σ v m I J;refine kq J λxs Ø r m1 L h2=>?_;intro P B α A s Q E R K q;apply gQ<|c.load C K ?_ y;have key:wq X A (jt fv true (ş pos<|ϧ (e::es) env) []) (λa g=>(∀b o,X.T.get? b=À o->g.heap.get? b=À o)/\wq X A (Î fv ([]++a.pos) a.kw) Q E g) E s:=
  H.args (H.spliced C pos L P B α A s _ _ R K λvals Y W x S1 j t=>⟨j.top,(M A W Y xs r m1 vals h2 R j.top j.base j.Se t).use j λval s' B' as S K' O D fr=>q val s' B' x as (S1.trans S) K' O D fr⟩)
 induction c with
 |builtin _ _ _ _=>exact gm (Ĝ H)<|mz key (λ_ _ h=>h.2) λ_ _ h=>h
 |type _ _ _ _=>exact ϸ (Ĝ H)<|mz key (λ_ _ h=>h.2) λ_ _ h=>h
 |@func a o fd _ _ G y=>exact lJ (o:=o) (fd:=fd)<|mz key (λ_ _ h=>⟨⟨h.1 _ _ G,y⟩,h.2⟩) λ_ _ h=>h
end
def ţ.deeper(h:ţ (k+1) A):ţ k (A.deeper env):=
 ⟨by refine(?_:A.depth+1+k<900);exact(A2 0x384371e088138437e180816) h.depth,by refine(?_:A.units+3+8*k<9000);exact(A2 0x232847181a3170881232847e1881a0816) h.units,h.hd⟩
section
variable{kf:Str->Ï NameKind}
def BE(l:Ã (Str×Ë)):∀(m:Str->Ï Ë)(x:Str),x∉l.map (·.1)->bindL kf l m x=m x:=by
 induction l with
 |nil=>exact λ_ _ _=>rfl
 |cons p r ih=>
  intro m x h;rw[mC,ő,not_or] at h;unfold bindL;refine Å (ih _ x h.2) ?_;split
  .exact È h.1
  .rfl
def BO(l:Ã (Str×Ë)):∀(m:Str->Ï Ë)(x:Str),x∉l.map (·.1)->bindC kf l m x=m x:=by
 induction l with
 |nil=>exact λ_ _ _=>rfl
 |cons p r ih=>
  intro m x h;rw[mC,ő,not_or] at h;unfold bindC;refine Å (ih _ x h.2) ?_;split
  .rfl
  .exact È h.1
def Gw(l:Ã (Str×Ë)):∀(m:Str->Ï Ë)(x:Str)(v:Ë),(l.map (·.1)).Nodup->(x,v)∈l->kf x=À .local->bindL kf l m x=À v:=by
 induction l with
 |nil=>exact λ_ _ _ _ h=>ϭ h
 |cons p r ih=>
  intro m x v b h c;rw[mC,dg] at b;unfold bindL;rcases ő.1 h with e|h
  .subst e;exact Å (ť c)<|Å (BE r _ _ b.1)<|ť rfl
  .exact ih _ x v b.2 h c
def Gi(l:Ã (Str×Ë)):∀(m:Str->Ï Ë)(x:Str)(v:Ë),(l.map (·.1)).Nodup->(x,v)∈l->kf x≠À .local->bindC kf l m x=À v:=by
 induction l with
 |nil=>exact λ_ _ _ _ h=>ϭ h
 |cons p r ih=>
  intro m x v b h c;rw[mC,dg] at b;unfold bindC;rcases ő.1 h with e|h
  .subst e;exact Å (È c)<|Å (BO r _ _ b.1)<|ť rfl
  .exact ih _ x v b.2 h c
end
noncomputable def uW(sc:Sc)(params:Ã Str):Ò:=
 sc.kinds.all (λp=>decide (sc.kinds.lookup p.1=À p.2)&&p.2 !=.free)&&params.all (λx=>decide<|sc.kinds.lookup x=À .local\/sc.kinds.lookup x=À .cell)&&decide params.Nodup&&
  sc.wr.all (λx=>decide<|sc.kinds.lookup x=À .local\/sc.kinds.lookup x=À .cell)&&decide ((sc.δ.map (·.2)).Nodup)&&sc.δ.all (λp=>decide (params.length<=p.2)||decide (params[p.2]?=À p.1))
section
variable{X:Cx}{k:Á}{sc:Sc}{Fu:Á}
def Au{l:Ã α}:∀{c:Ã β}{i:Á}{a:α}{b:β},l[i]?=À a->c[i]?=À b->(a,b)∈l.zip c:=by
 induction l with
 |nil=>exact λh=>ÿ h
 |cons x l ih=>intro c;induction c with
  |nil=>exact λ_ h=>ÿ h
  |cons y c=>intro i;induction i with
   |zero=>exact λh f=>à h▸à f▸.head _
   |succ i=>exact λh f=>.tail _<|ih h f
inductive ru:mj->V->Prop
 |ret {v}:ru (.ret v) v
 |next:ru .next .none
noncomputable abbrev slots(n:Á)(vs:Ã V):St:=vs.map (λv=>À (v,0))++replicate (n-vs.length) Ä
def zz(h:ė F n ar ps vs=À (v,m)):vs.length=ar/\m=0/\∃o b,ru o v/\ċ F ps (slots n vs)=À (o,b):=Ϲ h λc h=>⟨c,by
 cases e:ċ F ps (slots n vs) with
 |none=>rw[e] at h;exact ÿ h
 |some x=>
  obtain⟨o,b⟩:=x;rw[e] at h
  induction o with
  |ret w=>exact â (M:=λv m=>m=0/\∃o τ,ru o v/\À (mj.ret w,b)=À (o,τ)) h ⟨rfl,_,_,.ret,rfl⟩
  |next=>exact â (M:=λv m=>m=0/\∃o τ,ru o v/\À (mj.next,b)=À (o,τ)) h ⟨rfl,_,_,.next,rfl⟩
  |brk=>exact ÿ h
  |cont=>exact ÿ h⟩
section
variable{a:Ĳ}{o:Obj}{fd:j1}{body:Ã DA}{params:Ã Str}
set_option backward.match.sparseCases true in
def lC(ho:X.T.get? a=À o)(hd:o.data=.func fd)(R:X.T.CodeRec fd.code fd.qualname)(M:fd.body=.stmts body)
  (GK:fd.closure=[]) (hg:fd.globals=ż) (L6:fd.builtins=br) (O:∀vals:Ã Ë,vals.length=params.length->lO fd ⟨vals,[]⟩=pure (params.zip vals)) (hk:fd.scope.names=sc.kinds) (H:fd.scope.kind=.function)
  (Qa:fd.scope.isCoroutine=false) (W:fd.scope.isGenerator=false) (Ve:uW sc params=true)
  (J:vs.length=params.length) (hR:A.depth<sL) (top:∀a o,X.T.get? a=À o->s.heap.get? a=À o) (hB:ŀ B s.heap.get?) (S:∀a∈bS,cg B s.heap a/\X.T.get? a=Ä) (lH:ě B vs vals)
  (h:∀env,callEnvC fd s.heap.objs.size a=env->∀j t,(∀b o,s.heap.get? b=À o->j.get? b=À o)->Ok X.T (λb=>s.heap.get? b=Ä\/b∈bS) B env sc.dl sc.wl (vs.map (λv=>À (v,0))++replicate (n-vs.length) Ä) (λ_=>[]) j->
   ϛ (aT X.prog X.w) (A.deeper env) (execs body env) (λf s'=>Q (match f with|.ret v=>v|_=>.none) s')
    (λe s'=>ϛ (aT X.prog X.w) (A.deeper env) (leaving env e) (λ_ P=>E e P) (λe' P=>E e' P) s') {s with heap:=j,toks:=t}):wq X A (call (.ref a) vals) Q E s:=by
 simp only[uW,è,ę,ϻ,Wq,ne_eq,zg] at Ve;apply Ö ?_ Ve;rintro⟨⟨⟨⟨c1,c2⟩,c3⟩,c4⟩,c5⟩ c6;have Y:vals.length=params.length:=by rw[<-lH.length];exact J
 have hz:(params.zip vals).map (·.1)=params:=by rw[map_fst_zip];exact(A2 16777510) Y
 apply wpAny_call;apply codeAny_call_cells hR (top _ _ ho) hd (X.lim.keeps top) (R.keeps top) M (O vals Y) GK (λx hx=>?_) (λHf x=>?_) Qa W H
 .have Z2:x.1∈params:=by rw[<-hz];exact mem_map_of_mem hx
  rcases c2 _ Z2 with e|e
  .exact .inl<|by rw[hk];exact e
  .refine .inr ⟨by rw[hk];exact e,?_⟩;refine å (e4 (n:=s.heap.objs.size+1)<|mem_of_lookup e) λc g=>?_;rw[hk,g];rfl
 generalize p:callEnvC fd s.heap.objs.size a=env at x;have eL:env.locals=s.heap.objs.size:=by rw[<-p];rfl
 have en:env.scope.names=sc.kinds:=by rw[<-p];exact hk
 have L:∀y,env.kindOf y=sc.kinds.lookup y:=λy=>by unfold bC;rw[en]
 have TJ:env.scope.kind=.function:=by rw[<-p];exact H
 have ec:env.cells=cellsFrom (s.heap.objs.size+1) sc.kinds []:=by rw[<-p];show cellsFrom _ fd.scope.names []=_;rw[hk]
 obtain⟨j,t,rfl,keep⟩:=x.done;have q:∀c,(∀o,s.heap.get? c≠À o)->B c=Ä:=λc g=>by
  cases e:B c with
  |none=>rfl
  |some o=>exact ó (hB _ _ e)<|g o
 have G:∀y c,env.cells.lookup y=À c->∀o,s.heap.get? c≠À o:=λy c g o e=>by
  have:=x.above y c<|mem_of_lookup g;rw[eL] at this;exact ó (Ļ e)<|Ϣ.2<|oa this
 have kP:∀{c},(∀o,s.heap.get? c≠À o)->s.heap.get? c=Ä:=λ{c}g=>by
  cases e:s.heap.get? c with
  |none=>rfl
  |some o=>exact ó e<|g o
 have K:Ok X.T (λb=>s.heap.get? b=Ä\/b∈bS) B env sc.dl sc.wl (vs.map (λv=>À (v,0))++replicate (n-vs.length) Ä) (λ_=>[]) j:=by
  refine{top:=λb o e=>keep b o<|top b o e,low:=λb D=>?_,hi:=λb D=>?_,base:=λb o e=>keep b o<|hB b o e,kind:=TJ,glob:=?_,loc:=⟨⟨_,x.toInCall.ns⟩,?_,?_⟩,cells:=λy z c C hz=>name_of_addr x.apart (mem_of_lookup C)<|mem_of_lookup hz,Ė:=λy c g=>⟨_,x.cell y c g⟩,ϓ:=λy C=>?_,wrs:=λy C=>?_,inj:=λy z i C hz=>k8 c5 y z i (mem_of_lookup C)<|mem_of_lookup hz,vars:=λy i w m C hi=>?_,apart:=λ_ _ _ _ _ _ _ _ _ _ h=>(ϭ h),ex:=λb D=>(let e:=(S b D).1;⟨.inr D,e.go (keep b) (.refl _) e.fresh⟩)}
  .rcases D with D|D
   .cases e:X.T.get? b with
    |none=>rfl
    |some o=>rw[top b o e] at D;exact gC D
   .exact(S b D).2
  .left;cases e:s.heap.get? b with
   |none=>rfl
   |some o=>rw[keep b o e] at D;exact gC D
  .rw[<-p];exact⟨hg,L6⟩
  .rw[eL];exact .inl<|ĉ _
  .rw[eL];exact q _ λo e=>by rw[ĉ] at e;exact ÿ e
  .rw[L] at C;rcases C with C|C
   .exact å (e4 (n:=s.heap.objs.size+1)<|mem_of_lookup C) λc g=>⟨c,by rw[ec];exact g⟩
   .exact ó rfl (c1 _<|mem_of_lookup C).2
  .rcases c4 y (by simpa using C) with e|e
   .exact .inl<|by rw[L];exact e
   .refine å (e4 (n:=s.heap.objs.size+1)<|mem_of_lookup e) λc g=>?_;rw[<-ec] at g;exact .inr ⟨by rw[L];exact e,c,_,g,x.cell y c g,(.inl<|kP<|G y c g),q _<|G y c g⟩
  .have MQ:i<vs.length:=by
    rcases Ţ i vs.length with h|h
    .exact h
    .exfalso;unfold St.get at hi;rw[xq (by simpa using h)] at hi;cases e:(replicate (n-vs.length) (Ä:Ï (V×Á)))[i-(vs.map λv=>À (v,0)).length]? with
     |none=>rw[e] at hi;simp at hi
     |some w'=>
      rw[e] at hi;have:=Ŕ e;rw[mem_replicate] at this;rw[this.2] at hi;simp at hi
   have hv:vs[i]?=À w/\m=0:=by
    unfold St.get at hi;rw[EH (by simpa using MQ),ô] at hi;cases e:vs[i]? with
    |none=>rw[e] at hi;simp at hi
    |some w'=>rw[e] at hi;simp at hi;exact⟨by rw[hi.1],hi.2.symm⟩
   obtain⟨hv,rfl⟩:=hv;obtain⟨val,LD,Bp⟩:=lH.at_ hv;have hp:params[i]?=À y:=by
    rcases c6 _ (mem_of_lookup C) with e|e
    .exact ó MQ<|by rw[J];exact Ϣ.2 e
    .exact e
   have I:(y,val)∈params.zip vals:=Au hp LD;have Sj:((params.zip vals).map (·.1)).Nodup:=by rw[hz];exact c3
   refine⟨val,?_,.z Bp,λ_ h=>ϭ h⟩;rcases c2 y (Ŕ hp) with e|e
   .exact .inl ⟨by rw[L];exact e,_,x.toInCall.ns,Gw _ _ _ _ Sj I<|by rw[L];exact e⟩
   .refine å (e4 (n:=s.heap.objs.size+1)<|mem_of_lookup e) λc g=>?_;rw[<-ec] at g;refine .inr ⟨.inl<|by rw[L];exact e,c,g,?_⟩;have:=x.cell y c g;rw[Gi _ _ _ _ Sj I (by rw[L,e];decide)] at this;exact this
 exact h env p j t keep K
end
def PV(X:Cx)(k:Á)(fd:j1)(a:Ĳ)(sc:Sc)(body:Ã DA)(n ar:Á)(vs:Ã V)(v:V)(m:Á):Prop:=
 vs.length=ar/\m=0/\∃o b,ru o v/\∀L,Ex X k (callEnvC fd L a) sc.dl sc.wl (slots n vs) (execs body<|callEnvC fd L a) o b
def Ϩ.zU{F:VF}(Y:X.T.get? a=À o)(hd:o.data=.func fd)(j:X.T.CodeRec fd.code fd.qualname)(c:fd.body=.stmts body)
  (C:fd.closure=[]) (hg:fd.globals=ż) (L:fd.builtins=br) (g:∀vals:Ã Ë,vals.length=params.length->lO fd ⟨vals,[]⟩=pure (params.zip vals)) (hk:fd.scope.names=sc.kinds) (p:fd.scope.kind=.function)
  (J:fd.scope.isCoroutine=false) (x:fd.scope.isGenerator=false) (O:uW sc params=true) (hE:∀vs v m,F vs=À (v,m)->PV X k fd a sc body n params.length vs v m):Ϩ X (k+1) (.ref a) F:=by
 intro A B s vs v m vals hF R top hB I M Q E q;obtain⟨D,rfl,o',ø,hv,hS⟩:=hE vs v m hF;refine lC (n:=n) Y hd j c C hg L g hk p J x O D (by unfold sL;exact(A2 0x3e8370138437e180816) R.depth) top hB I M λenv G y t keep K=>?_;subst G;refine hS s.heap.objs.size _ B _ _ {s with heap:=y,toks:=t} _ _ R.deeper K λf s2 B2 cR S P W=>?_;obtain⟨h2,H,rfl⟩:=S.eq;exact q _ h2 H B2 [] ⟨λb o hx e=>S.kept b o (keep b o e) λw=>w.elim (λw=>by rw[e] at w;cases w) hx,S.le,P.base,λb o e=>by
  rcases S.new b o e with q|q|q
  .exact .inl q
  .exact .inr q
  .rw[(P.ex b q).2.fresh] at e;exact ÿ e⟩ (λb w=>(P.ex b w).2) (.z (by
  induction hv with
  |ret=>apply r5 W;exact λ_ h=>h
  |next=>apply m9 W;exact .none)) λ_ h=>ϭ h
def Ϩ.func{params:Ã Str}(x:X.T.get? a=À o)(A:o.data=.func fd)(c:X.T.CodeRec fd.code fd.qualname)(b:fd.body=.stmts body)
  (p:fd.closure=[]) (y:fd.globals=ż) (s:fd.builtins=br) (f:∀vals:Ã Ë,vals.length=params.length->lO fd ⟨vals,[]⟩=pure (params.zip vals)) (w:fd.scope.names=sc.kinds) (g:fd.scope.kind=.function)
  (t:fd.scope.isCoroutine=false) (j:fd.scope.isGenerator=false) (q:uW sc params=true) (S:SS X k sc Fu body ps):Ϩ X (k+1) (.ref a) (ė Fu n params.length ps):=
 Ϩ.zU x A c b p y s f w g t j q λvs v m h=>Ϸ (zz h) λh1 h2 r=>wO r λo ø h3 h4=>⟨h1,h2,o,ø,h3,λL=>S _ w _ o ø h4⟩
end
section
variable{X:Cx}{k:Á}
def ç.len:ç X k (.builtin "len") Uw:=λA B s vs v m vals c R top hB b=>
 Ŀ (M:=λvs=>ě B vs vals->Op X A B s (call (.builtin "len") vals) v m) c (λa h b=>BN (M:=λvals=>Op X A B s (call (.builtin "len") vals) v m) b λx hx=>uD (M:=λd=>Op X A B s _ d.1 d.2) h λn f=>len_own f (.z hx) hB) (λ_ _ h=>ÿ h) (λ_ _ _ h=>ÿ h) b
def J6{B:PB}{h:gk}(hB:ŀ B h.get?)(b:h.get? a=Ä):B a=Ä:=by
 cases e:B a with
 |none=>rfl
 |some o=>exact gC<|(hB _ _ e)▸b
def u0(hB:ŀ B s.heap.get?)(h:∀(Q E:Ë->ŕ->Prop),(∀val c tk,VR B v val->(∀b o,s.heap.get? b=À o->c.get? b=À o)->Q val {s with heap:=c,toks:=tk})->wq X A t Q E s):Op X A B s t v 0:=λQ E q=>
 h Q E λval c tk g f=>q val c tk B [] ⟨f,.refl _,λa o e=>f a o<|hB a o e,λ_ _ e=>.inl e⟩ (.z g) λ_ h=>ϭ h
def ç.min:ç X k (.builtin "min") (HK ϐ ϐ λa b=>À (.int<|if b<a then b else a,0)):=.of2 Ú Ú λh R hB hx y=>â h (by
 apply ê hx;intro t;apply ê y;intro u;exact u0 hB λQ E q=>min_two_ints R.hd λc tk f=>q _ c tk (by split<;>exact .int) f)
def ç.max:ç X k (.builtin "max") (HK ϐ ϐ λa b=>À (.int<|if a<b then b else a,0)):=.of2 Ú Ú λh R hB hx y=>â h (by
 apply ê hx;intro t;apply ê y;intro u;exact u0 hB λQ E q=>max_two_ints R.hd λc tk f=>q _ c tk (by split<;>exact .int) f)
def ç.int:ç X k (.type "int") t4:=λA B s vs v m vals g R top hB c=>
 Ŀ (M:=λvs=>ě B vs vals->Op X A B s (call (.type "int") vals) v m) g (λa h c=>BN (M:=λvals=>Op X A B s (call (.type "int") vals) v m) c λx hx=>AI h
  (λb e h=>â h<|by cases kK e;cases hx.inv;exact Op.flat hB λQ E q=>call_int_bool<|q _ _ .int) λh=>ð (x:=mV a) h λy e h=>by
   cases Ũ e;apply ŷ hx;intro t;replace h:(match wZ y with|.fin sg m e=>À (V.int<|EI sg m e,0)|_=>Ä)=À (v,m):=h;cases f:wZ y with
   |fin sg o j=>have h:=f▸h;exact â h<|Op.flat hB λQ E q=>call_int_float f<|q _ _ .int
   |_=>have h:=f▸h;exact ÿ h) (λ_ _ h=>ÿ h) (λ_ _ _ h=>ÿ h) c
def ç.abs:ç X k (.builtin "abs") IY:=.HI Ú λ{_ _ _ a _ _ _}h R hB hx=>â h (by
 apply ê hx;intro t;have e:(if a<0 then -a else a)=(a.natAbs:Â):=by split<;>omega
 exact Op.flat hB λQ E q=>call_abs_int λu tk=>Å e<|q _ _ .int)
def ç.ord:ç X k (.builtin "ord") vV:=.HI į λ{_ _ _ x _ _ _}h R hB hx=>Ϲ h λa h=>â h (by
 apply ύ hx;intro t;obtain⟨⟨l⟩⟩:=x;apply Yv (l:=l) a;intro c;exact Op.flat hB λQ E q=>PySem.P.ord_of_char<|q _ _ .int)
def ç.chr:ç X k (.builtin "chr") qD:=.HI Ú λh R hB hx=>Ϲ h λa h=>â h (by
 apply ê hx;intro t;exact Op.flat hB λQ E q=>PySem.P.chr_of_int (by simp;exact⟨(Ad 0xf3e00047040d80047379110000670470f376) a,(Ad 0x10ffff6703e00047040d80047379110000670470f376) a⟩)<|q _ _ .str)
def ç.type:ç X k (.type "type") eX:=.HI Ú λ{_ _ s i _ _ _}h R hB hx=>â h (by
 apply ê hx;intro t;exact Op.flat hB λQ E q=>call_type_of (rC s i _) rfl<|q _ s.toks .ty)
def ç.list:ç X k (.type "list") AF:=.HI Ğ λ{_ _ s _ _ _ _}h R hB hx=>Ϲ h λb h=>â h (by
 apply Ł hx;intro l o n items j m p hx v;intro Q E q;apply call_list_seq l (.inl rfl) (hB _ _ j) m p (λt c' f g=>?_) (Đ Ì<|Đ v.length<|ú b<|by decide);exact q _ t s.toks _ [s.heap.objs.size] ⟨f,.refl _,λa o e=>f a o<|hB a o e,λ_ _ e=>.inl e⟩ (.one ⟨_,g,rfl,⟨c',rfl⟩,rfl,rfl⟩ (J6 hB<|ĉ _) v) λa c=>by obtain rfl:=Ċ.1 c;exact ĉ _)
def ç.jG:ç X k (.builtin "int.bit_length") Ź:=.HI Ú λ{_ _ _ a _ _ _}h R hB hx=>â h (by
 apply ê hx;intro t;have e:(aA a:Â)=ϖ a.natAbs:=by
  unfold aA ϖ;by_cases h:a=0
  .subst h;rfl
  .exact Å (È<|by simpa using h)<|Å (È<|by exact(wo 0xf0290c0d5f04700d50f3786f0596) h<|Rc _) rfl
 exact Op.flat hB λQ E q=>call_int_bit_length<|Å e<|q _ _ .int)
end
section
variable{X:Cx}{k:Á}
def pO:∀{xs:Ã V}{vals:Ã Ë}{b:Ã Â},ě B xs vals->ϫ xs=À b->IntsAre vals b:=by
 intro xs
 induction xs with
 |nil=>intro _ b h e;apply RO h;obtain rfl:=à e;exact .nil
 |cons x xs ih=>
  intro _ b h e;apply Li h;intro j xs' v t;unfold ϫ at e ih;rw[gU] at e;refine ð e λy c e=>ð e λg f e=>?_;obtain rfl:=à e;cases Ú (a:=x) (x:=y) c;apply ê v;intro u;exact .cons _ _<|ih t f
def FC:∀{xs:Ã V}{vals:Ã Ë}{b:Ã Str},ě B xs vals->j7 xs=À b->StrsAre vals b:=by
 intro xs
 induction xs with
 |nil=>intro _ b h e;apply RO h;obtain rfl:=à e;exact .nil
 |cons x xs ih=>
  intro _ b h e;apply Li h;intro j xs' v t;unfold j7 at e ih;rw[gU] at e;refine ð e λy c e=>ð e λg f e=>?_;obtain rfl:=à e;cases į (a:=x) (x:=y) c;apply ύ v;intro u;exact .cons _ _<|ih t f
def ç.sum:ç X k (.builtin "sum") xY:=.HI Ğ λh R hB hx=>Ϲ h λ_ h=>uD (M:=λd=>Op X _ _ _ _ d.1 d.2) h λp f=>by
 apply Ł hx;intro l o n items b c j _ v;have hi:=pO v f;obtain⟨ps,rfl⟩:=(show AllInts items by simpa using hi.allInts).items;apply u0 hB λQ E q=>sum_intListG R.hd (đ hB b c j) λm tk t g=>q _ m tk ?_ g;refine Å (preSum_eq ..) (Å (take_of_length_le (by simp) ..) ?_);have a:=hi.numsOf;rw[nums_intItems] at a;exact Å a .int
def ç.join:ç X k (.builtin "str.join") rF:=.of2 į Ğ λ{_ _ _ x xs _ _ _ _}h R hB hx y=>ð (x:=j7 xs) h λm f h=>Ϲ h λb h=>â h (by
 apply ύ hx;intro t;apply Ł y;intro l o n items a c g hx v;exact Op.flat hB λQ E q=>join_list (đ hB a c g) (FC v f) (ú b<|by decide) λj k=>q _ _ .str)
def u6(h:n<=1000000):GD n=false:=by
 unfold GD;simp[oX];exact ú h<|by decide
def ç.lower:ç X k (.builtin "str.lower") m_lower:=.HI į λh R hB hx=>Ϲ h λa h=>â h (by
 apply ύ hx;intro t;exact Op.flat hB λQ E q=>PySem.SC.lower (u6 a)<|q _ _ .str)
def ç.upper:ç X k (.builtin "str.upper") m_upper:=.HI į λh R hB hx=>Ϲ h λa h=>â h (by
 apply ύ hx;intro t;exact Op.flat hB λQ E q=>PySem.SC.upper (u6 a)<|q _ _ .str)
end
section
variable{X:Cx}{k:Á}{sc:Sc}{Fu:Á}
def SE.glob(w:sc.kinds.lookup x=À .globalImplicit)(C:X.mg x=À val)(j:VR (λ_=>Ä) v val)(y:(x==("__debug__":Str))=false:=by decide):SE X k sc (.Name x p) (.c v):=by
 intro env o σ D m b g;apply BM g;intro P B f A s Q E R K q;have a:env.kindOf x=À .globalImplicit:=by unfold bC;exact Å o w
 exact yc K.kind a (xu (Å K.glob.1<|X.ng.keeps K.top) C<|q val s B f [] (.refl _ _ _ _) K (.z<|j.mono λ_ _ e=>ÿ e) (λ_ h=>ϭ h) λ_ _ _ _ _ h=>ϭ h) y
def nA:∀{a b:Ã Â},a.Perm b->a.Pairwise (·<=·)->b.Pairwise (·<=·)->a=b:=λh c f=>Gx (λ_ _ _ _ j g=>Int.le_antisymm j g) c f h
def rm(x y:Â)(a:Ã Â):iR x (y::a)=if x<=y then x::y::a else y::iR x a:=rfl
def gb(x:Â):∀l:Ã Â,(iR x l).Perm (x::l):=by
 intro r0
 induction r0 with
 |nil=>exact .refl _
 |cons y a ih0=>
  rw[rm];split
  .exact .refl _
  .exact((ih0).cons y).trans<|.swap x y a
def gW(x:Â):∀l:Ã Â,l.Pairwise (·<=·)->(iR x l).Pairwise (·<=·):=by
 intro r0
 induction r0 with
 |nil=>exact λ_=>List.pairwise_singleton _ _
 |cons y b ih0=>
  intro h;rw[GN] at h;rw[rm];split
  .rename_i a;rw[GN];refine⟨λz hz=>?_,GN.2 h⟩;rcases ő.1 hz with rfl|hz
   .exact a
   .exact Int.le_trans a<|h.1 z hz
  .rename_i a;rw[GN];refine⟨λz hz=>?_,ih0 h.2⟩;rcases ő.1 ((gb x b).mem_iff.1 hz) with rfl|hz
   .exact(qU 19989398) a
   .exact h.1 z hz
def sortI_perm:∀l:Ã Â,(sortI l).Perm l:=by
 intro r0
 induction r0 with
 |nil=>exact .refl _
 |cons x l ih0=>exact(gb x _).trans<|(ih0).cons x
def rB:∀l:Ã Â,(sortI l).Pairwise (·<=·):=by
 intro r0
 induction r0 with
 |nil=>exact .nil
 |cons x l ih0=>exact gW x _<|ih0
def Fx{vals:Ã Ë}{a:Ã Â}(h:IntsAre vals a):ě B (a.map .int) vals:=by
 induction h with
 |nil=>exact .nil
 |cons n t _ ih=>exact .cons .int ih
def ç.sorted:ç X k (.builtin "sorted") tJ:=.HI Ğ λ{_ B s _ _ _ _}h R hB hx=>Ϲ h λb h=>uD (M:=λd=>Op X _ B s _ d.1 d.2) h λj x=>by
 apply Ł hx;intro l o n items p t D hx v;intro Q E q;refine sorted_ints (vs:=items.toList) (by simpa using đ hB p t D) (pO v x) (Đ v.length b) λc C A y m=>?_;obtain⟨e,w⟩:=sortedAll_at s.heap items.toList c;obtain rfl:=nA (y.trans (sortI_perm j).symm) m<|rB j;have f:s.heap.get? (s.heap.objs.size+1)=Ä:=by
  cases e:s.heap.get? (s.heap.objs.size+1) with
  |none=>rfl
  |some o=>exact ó (Ļ e)<|Ϣ.2<|jW _
 exact q _ _ s.toks B [s.heap.objs.size+1] ⟨λ_ _=>sortedAll_old,.refl _,λa o e=>sortedAll_old<|hB a o e,λ_ _ e=>.inl e⟩ (.one ⟨_,w,rfl,⟨e,rfl⟩,rfl,rfl⟩ (J6 hB f)<|Fx A) λa g=>by
  rw[Ċ] at g;subst g;exact f
def I8{n:Â}{vals:Ã Ë}{a:Ã Â}(h:IntsAre vals a):∀{j:Á},a[j]?=À n->∃t,vals[j]?=À (.int n t):=by
 induction h with
 |nil=>exact λh=>ÿ h
 |cons m t _ ih=>intro j;induction j with
  |zero=>exact λh=>à h▸⟨t,rfl⟩
  |succ j=>exact λh=>ih h
def ç.index:ç X k (.builtin "list.index") m6:=.of2 Ğ Ú λ{_ B s xs a _ _ _ _}h Y hB hx p=>Ϲ h λH h=>ð (x:=ϫ xs) h λg L h=>by
 refine ì (aG h) λj' f S=>?_;cases S;refine ì (Ϧ.1 f) λj W M=>?_;obtain rfl:=à M;apply ê p;intro I;apply Ł hx;intro l o n items A C G hx D;obtain⟨cls,K,data,P⟩:=o;dsimp only at C G;subst C G;have hi:=pO D L;have O:items.size=xs.length:=Đ Ì<|Đ D.length rfl;refine Op.flat hB λQ E q=>?_;refine ì (Vm.1 W) λhj p1 R=>?_;have J:g.length=items.size:=Đ hi.length<|Å Ì rfl;have at_:∀m(c:m<items.size),∃t,items[m]=.int (g[m]'(by omega)) t:=λm c=>by
  refine å (I8 hi<|Ų (l:=g) (i:=m)<|by omega) λt b=>?_;rw[fh,ϲ c,dy] at b;exact⟨t,b⟩
 refine oq lS ⟨_,hB _ _ A,rfl⟩ PySem.F.entry_list_index (PySem.F.args_list_index_2 _ _)
  (list_indexAt l items n K P (.int a I) (λv=>match v with|.int i _=>i==a|_=>false) j (by omega) (by omega) ?_ ?_) ⟨hB _ _ A,λy p=>?_,q _ _ .int⟩
 .exact å (at_ j<|by omega) λt b=>Å b p1
 .intro m c w;refine å (at_ m c) λt b=>?_;refine Å b ?_;simpa using(R m w)
 .obtain⟨m,c,rfl⟩:=Array.getElem_of_mem p;exact å (at_ m c) λt b=>Å b<|EqAt.int_int _ _ _ _
end
section
variable{X:Cx}{k:Á}{sc:Sc}{Fu:Á}
def JR(h:Q (.bool<|mM a b) s):wq X A (GX .Lt (.float a t)<|.float b u) Q E s:=
 richCompare_gives (op:=.Lt) (t8 s a t) (t8 s b u) PySem.F.slot_float_lt PySem.F.entry_float_lt (PySem.F.args_float_lt_2 _ _) (AutoFloatG5.float___lt___float_float_0 a t b u) (λx=>nomatch x) h
def Jm(h:Q (.bool<|mG a b) s):wq X A (GX .Gt (.float a t)<|.float b u) Q E s:=
 richCompare_gives (op:=.Gt) (t8 s a t) (t8 s b u) PySem.F.slot_float_gt PySem.F.entry_float_gt (PySem.F.args_float_gt_2 _ _) (AutoFloatG4.float___gt___float_float_0 a t b u) (λx=>nomatch x) h
noncomputable def FF(a b c:ā)(i:Á):ā:=if i=0 then a else if i=1 then b else c
def ov{v:Ë}(h:(#[.float a t,.float b u,.float c x]:gS Ë)[i]?=À v):∃w,v=.float (FF a b c i) w:=by
 cases i with
 |zero=>exact⟨t,(à h).symm⟩
 |succ i=>cases i with
  |zero=>exact⟨u,(à h).symm⟩
  |succ i=>cases i with
   |zero=>exact⟨x,(à h).symm⟩
   |succ i=>simp at h
def vN(p:Á->Á->Ò)(M:A.handled=Ä)
  (m:ϛ (aT X.prog X.w) A.in1 (pN<|.ref s.heap.objs.size) (λR f=>∃I fp wr n P St p,R=.ref I/\Walks X.prog X.w A.in1 I fp wr n P St/\St 0 f.heap/\(∀b∈fp,b<f.heap.objs.size)/\0<n/\CmpOf X.prog X.w A.in1 op P p/\
   ∀v g tk,P (argBest p<|n-1) v->(∀b o,b∉wr->f.heap.get? b=À o->g.get? b=À o)->Q v {f with heap:=g,toks:=tk}) E
   {s with heap:=s.heap.push {cls:=.type "tuple",data:=.seq #[.float a t,.float b u,.float c x]}}->wq X A (Î (.builtin nm) [.float a t,.float b u,.float c x]) Q E s)
  (C:∀i j H J(s:ŕ)(Q:Ë->ŕ->Prop)(E:Ë->ŕ->Prop),(#[.float a t,.float b u,.float c x]:gS Ë)[i]?=À H->(#[.float a t,.float b u,.float c x]:gS Ë)[j]?=À J->Q (.bool<|p i j) s->ϛ (aT X.prog X.w) A.in1 (GX op H J) Q E s)
  (q:∀g tk w,(∀d o,s.heap.get? d=À o->g.get? d=À o)->Q (.float (FF a b c<|argBest p 2) w) {s with heap:=g,toks:=tk}):wq X A (Î (.builtin nm) [.float a t,.float b u,.float c x]) Q E s:=by
 have G:(s.heap.push {cls:=.type "tuple",data:=.seq #[.float a t,.float b u,.float c x]}).IsTuple s.heap.objs.size #[.float a t,.float b u,.float c x]:=⟨_,ë _ rfl,rfl,0,rfl⟩
 apply m<|D5 G ?_;have h:(s.heap.push {cls:=.type "tuple",data:=.seq #[.float a t,.float b u,.float c x]}).objs.size=s.heap.objs.size+1:=e0 ..;refine⟨_,[_,s.heap.objs.size],[_],_,_,_,p,rfl,Walks.tuple (A:=A.in1) M _ s.heap.objs.size (by exact Å h<|xc<|jZ _) #[.float a t,.float b u,.float c x],
  ⟨⟨_,ë _ rfl,rfl,rfl⟩,G.push _⟩,λd B=>?_,by simp,C,λv g tk K O=>?_⟩
 .refine(?_:d<((s.heap.push _).push _).objs.size);refine Å (e0 ..)<|Å (h ..) ?_;rcases ő.1 B with rfl|B
  .exact Å h<|jZ _
  .rcases ő.1 B with rfl|B
   .exact ic<|jZ _
   .exact ϭ B
 .have y:∀d o,s.heap.get? d=À o->g.get? d=À o:=λd o e=>by
   apply O d o (λD=>?_)<|Ô _<|Ô _ e;rcases ő.1 D with L|D
   .have:=Ļ e;rw[L,h] at this;exact fK _<|Nat.lt_of_succ_lt this
   .exact ϭ D
  obtain⟨w,rfl⟩:=ov K;exact q g tk w y
def J4(f:ā->ā->Ò)(a b c:ā):FF a b c (argBest (λi j=>f (FF a b c i)<|FF a b c j) 2)=(if f c (if f b a then b else a) then c else(if f b a then b else a)):=by
 simp only[argBest];by_cases g:f b a=true
 .by_cases h:f c b=true<;>simp[FF,g,h]
 .by_cases h:f c a=true<;>simp[FF,g,h]
def ç.Uj:ç X k (.builtin "min") bz:=λA B s vs v m vals o R top hB f=>
 Ŀ (M:=λvs=>ě B vs vals->Op X A B s (call (.builtin "min") vals) v m) o (λ_ h=>ÿ h) (λa b h=>ç.min A B s [a,b] v m vals h R top hB)
  (λa b c h=>iP Ũ Ũ Ũ (M:=λa b c=>ě B [a,b,c] vals->Op X A B s (call (.builtin "min") vals) v m) h λa b c h f=>â h (Le (M:=λvals=>Op X A B s (call (.builtin "min") vals) _ 0) f λx y z hx g hz=>by
   apply ŷ hx;intro t;apply ŷ g;intro u;apply ŷ hz;intro w;apply u0 hB λQ E q=>vN (op:=.Lt) (λi j=>mM (FF a b c i)<|FF a b c j) R.hd call_min_three (λi j H G s Q E hi C h=>?_) λp tk w D=>q _ p tk ?_ D
   .obtain⟨_,rfl⟩:=ov hi;obtain⟨_,rfl⟩:=ov C;exact JR h
   .exact Å (J4 _ a b c) .á)) f
def ç.UB:ç X k (.builtin "max") GU:=λA B s vs v m vals o R top hB f=>
 Ŀ (M:=λvs=>ě B vs vals->Op X A B s (call (.builtin "max") vals) v m) o (λ_ h=>ÿ h) (λa b h=>ç.max A B s [a,b] v m vals h R top hB)
  (λa b c h=>iP Ũ Ũ Ũ (M:=λa b c=>ě B [a,b,c] vals->Op X A B s (call (.builtin "max") vals) v m) h λa b c h f=>â h (Le (M:=λvals=>Op X A B s (call (.builtin "max") vals) _ 0) f λx y z hx g hz=>by
   apply ŷ hx;intro t;apply ŷ g;intro u;apply ŷ hz;intro w;apply u0 hB λQ E q=>vN (op:=.Gt) (λi j=>mG (FF a b c i)<|FF a b c j) R.hd call_max_three (λi j H G s Q E hi C h=>?_) λp tk w D=>q _ p tk ?_ D
   .obtain⟨_,rfl⟩:=ov hi;obtain⟨_,rfl⟩:=ov C;exact Jm h
   .exact Å (J4 _ a b c) .á)) f
def BY(h:ItemsOf (λi v=>∃t,v=.int (a+i*c) t) CC n):ě B ((range n).map λ(i:Á)=>V.int<|a+i*c) CC.toList:=by
 apply Ö (λm g=>?_) h;obtain⟨l⟩:=CC;have key:∀(l:Ã Ë)(k:Á),(∀j v,l[j]?=À v->∃t,v=jT (a+((k+j:Á):Â)*c) t)->ě B ((range' k l.length).map λ(i:Á)=>V.int<|a+i*c) l:=by
  intro l
  induction l with
  |nil=>intro k _;exact .nil
  |cons x r ih=>
   intro k f;refine Å kc<|Å range'_succ<|Å mC ?_;obtain⟨t,rfl⟩:=f 0 x rfl;refine .cons .int<|ih (k+1) λj v b=>?_;obtain⟨t,rfl⟩:=f (j+1) v<|Å (y7) b;exact⟨t,Å (show k+(j+1)=k+1+j by exact(A2 2063880781954)) rfl⟩
 have:=key l 0 λj v b=>by
  obtain⟨t,rfl⟩:=g j v (by simpa using b);exact⟨t,Å (ů ..) rfl⟩
 rw[<-range_eq_range'] at this;rw[show l.length=n from by simpa using m] at this;exact this
def Bz{x:Â}(h:x.natAbs<=1000000):x.natAbs.log2<8000:=by
 by_cases a:x.natAbs=0
 .refine Å a ?_;decide
 .exact(Wy a).2<|dU h<|ϱ (by decide:1000000<2^20)<|a8 (by decide)<|by decide
def QD(a b:Â):ue a b 2=(((b-a+1)/2).toNat:Â):=by
 unfold ue;refine Å (ť<|by decide) ?_;by_cases h:a<b
 .refine Å (ť h) ?_;rw[Es (Int.ediv_nonneg (by omega)<|by decide),<-Int.add_mul_ediv_right _ 1 (by decide)];congr 1;omega
 .exact Å (È h)<|Å (FW<|Int.lt_add_one_iff.1<|Int.ediv_lt_of_lt_mul (by decide)<|by omega) rfl
def SE.BJ(cl:Callee X sc "list" (.type "list"))(cr:Callee X sc "range" (.type "range"))(H:eV X k sc (e::es) i6):
  SE X k sc (.Call (.Name "list" p) [.Call (.Name "range" p') (e::es) [] Np] [] pos) (.fn ź i6):=by
 intro env he σ v m ø hv;refine kq hv λxs Ø r m1 h1 f=>?_;intro P B α A s Q E hR K q;apply gQ<|cl.load he K ?_ rfl;apply ϸ rfl<|FV<|ua ?_;apply gQ<|cr.load he K ?_ rfl;apply ϸ (Ĝ H)<|H.args<|H.spliced he Np h1 P B α A s _ _ hR K λvals j B1 eI S1 J g=>?_;refine(?_:ϛ _ A (Î (.type "range")<|[]++vals) _ _ _);have G:∀(a b c:Â)(t u w:Tok)(tk:Á)(n:Á),tq a b c=true->ue a b c=n->n<=1000->r=.Ñ ((range n).map λ(i:Á)=>V.int<|a+i*c)->m1=1->
   wq X A (tZ []) (λL s2=>wq X A (Î (.type "list")<|[]++([aD j.heap.objs.size]++L)) Q E s2) E {j with heap:=j.heap.push {cls:=.type "range",data:=.fields #[.int a t,.int b u,.int c w]},toks:=tk}:=by
  intro a b c t u w tk n I hn nx hr hm;subst hr hm;refine rD ?_;refine(?_:ϛ _ A (Î (.type "list") [.ref j.heap.objs.size]) _ _ _);refine call_list_range hR.hd (UR ..) I hn (by exact ϴ ‹_› rfl) λh' ZC CC c' hk S hi=>?_;have EG:(j.heap.push {cls:=.type "range",data:=.fields #[.int a t,.int b u,.int c w]}).objs.size=j.heap.objs.size+1:=e0 ..;rw[EG] at S⊢;have keep:∀Y o,j.heap.get? Y=À o->h'.get? Y=À o:=λY o e=>hk Y o<|Ô _ e;have D:j.heap.get? (j.heap.objs.size+1)=Ä:=by
   cases e:j.heap.get? (j.heap.objs.size+1) with
   |none=>rfl
   |some o=>exact ó (Ļ e)<|Ϣ.2<|jW _
  have x:kQ j.heap h' B1 B1:=⟨keep,.refl _,λa o e=>keep a o<|J.base a o e,λ_ _ e=>.inl e⟩
  refine q _ {j with heap:=h',toks:=ZC} B1 eI [j.heap.objs.size+1] (S1.trans<|x.kB J.hi) (J.ext x) (.one ⟨_,S,rfl,⟨c',rfl⟩,rfl,rfl⟩ (J.HJ D)<|BY hi) (λa R=>by rw[Ċ] at R;subst R;exact J.hi _ D) λy i W uX a R h=>?_
  .rw[Ċ] at R;subst R;exact å (İ.1 uX) λw' hw=>(å (dt J W (v:=w'.1) (m:=w'.2) hw _ h) λo ho=>ÿ<|D.symm.trans ho)
 refine Ŀ (M:=λxs=>ě B1 xs vals->wq X A (Î (.type "range") vals) _ _ _) f (λa f=>ð (x:=ϐ a) f λb e f=>Ϲ f λh C g=>?_) (λa b f=>ð (x:=ϐ a) f λa e f=>ð (x:=ϐ b) f λb e' f=>Ϲ f λh C g=>?_)
  (λa b c f=>ð (x:=ϐ a) f λa e f=>ð (x:=ϐ b) f λb e' f=>ð (x:=ϐ c) f λc Vc f=>Ϲ f λh C g=>?_) g
 .cases Ú e;refine BN (M:=λvals=>wq X A (Î (.type "range") vals) _ _ _) g λx hx=>?_;apply ê hx;intro t;refine call_range_1 (G 0 b 1 _ _ _ _ b.toNat (small_one (by omega) (by omega) (by omega)<|by omega) (by refine Å (wW ..) ?_;split<;>omega) ((wo 0x3e83700f02f04700d50f37863e8370303e837c376) h<|iY _) ?_<|â (M:=λ_ m=>m=1) C rfl);refine Đ ((lV<|à C).1) ?_;simp[û]
 .cases Ú e;cases Ú e';refine Nv (M:=λvals=>wq X A (Î (.type "range") vals) _ _ _) g λx y hx W=>?_;apply ê hx;intro t;apply ê W;intro u;refine call_range_2 (G a b 1 _ _ _ _ (b-a).toNat (small_one (by omega) (by omega) (by omega)<|by omega) (by refine Å (wW ..) ?_;split<;>omega) ((RP 0x3e83700f02f019470190d5019f37863e8370193f424057131f424057c377f424057030f424057c3776) h<|iY _) ?_<|â (M:=λ_ m=>m=1) C rfl);refine Đ ((lV<|à C).1) ?_;simp[û]
 .cases Ú e;cases Ú e';cases Ú Vc;refine Le (M:=λvals=>wq X A (Î (.type "range") vals) _ _ _) g λx y z hx W hz=>?_;apply ê hx;intro t;apply ê W;intro u;apply ê hz;intro w;obtain⟨rfl,h⟩:=h;have O:=QD a b;have I:tq a b 2=true:=by
   unfold tq;refine Å O ?_;simp[Builtin.Range.rangeFitsLong,show(2:Â)>0 by decide];have b1:=h.1;have b2:=h.2.1;exact⟨⟨⟨⟨(qU 0x80000000000000001007c33e83701933e8371313e837c3773e8370303e837c3776) h,(qU 0x80000000000000001007043e83701933e8371313e837c3773e8370303e837c3776) h⟩,(qU 0x80000000000000001007c33e83710933e8370303e837c3773e8371313e837c3776) h,(qU 0x80000000000000001007043e83710933e8370303e837c3773e8371313e837c3776) h⟩,Int.le_trans (by decide)<|Int.le_max_right _ _,Int.lt_of_le_of_lt (Int.max_le.2 ⟨(show(b-a+1)/2<=501 by exact(Yd 0x1f53703f2172217141f378e32981021a85763e83732933e8372323e837c3773e8373333e837c3776) h<|dz _ 2),by decide⟩)<|by decide⟩,.inr ⟨by exact(qU 0xe0880000000000000001007c33e83710933e8370303e837c3773e8371313e837c3776) h,by exact(qU 0x80000000000000001007e0843e83710933e8370303e837c3773e8371313e837c3776) h⟩⟩
  refine call_range_3 (by decide) (G a b 2 _ _ _ _ ((b-a+1)/2).toNat I O ((WM 0x3e83700f2172217141f378e32981021a8576f02f04700d50f37863e83732933e8372323e837c3773e8373333e837c3776) h (iY _)<|dz _ 2) ?_<|â (M:=λ_ m=>m=1) C rfl) (.inl<|qi<|by unfold Ĕ;simp;exact Bz<|(RP 0xf42405700019c0d5f019470190d5019f37863e83701933e8371313e837c3773e8370303e837c3776) h<|Rc _);refine Đ ((lV<|à C).1) ?_;unfold iM;congr 1;exact ae λi _=>Å (tL ..) rfl
end
section
variable{X:Cx}{k:Á}{sc:Sc}{Fu:Á}
def ă.at_{y:Ã V}(H:ă h B cz as):∀{p:Á},cz[p]?=À y->∃a items,as[p]?=À a/\IsL h a items/\B a=Ä/\ě B y items.toList:=by
 induction H with
 |nil=>exact λe=>ÿ e
 |cons b hB v _ ih=>intro p;induction p with
  |zero=>exact λe=>⟨_,_,rfl,b,hB,à e▸v⟩
  |succ p=>exact λe=>ih e
def AP{h:gk}{B:PB}{xs:Ã V}{G:Prop}(O:ĭ h B (.Ñ xs) 2 val as)(k:∀cz a b,val=.ref a->as=a::b->xs=cz.map .Ñ->IsL h a (b.map aD).toArray->B a=Ä->ă h B cz b->(a::b).Nodup->G):G:=by
 cases O with
 |two c hB s f=>exact k _ _ _ rfl rfl rfl c hB s f
def uP{xs:Ã V}{cz:Ã (Ã V)}{p:Á}(e:xs=cz.map .Ñ)(h:xs[p]?=À (.Ñ ys)):cz[p]?=À ys:=by
 rw[e,ô] at h;cases a:cz[p]? with
 |none=>rw[a] at h;exact ÿ h
 |some z=>rw[a] at h;simp at h;exact Å h rfl
def cq(h:Č n i=À p):place n i=À p:=by
 obtain⟨c,a,b,rfl⟩:=bM h;unfold place;exact Å (ť c)<|Å (ť a)<|Å (ť b) rfl
def SE.gJ{M:Expr}{p p' q1 pos:o6}(hx:sc.δ.lookup x=À i)(hk:SE X k sc M pk)(hy:sc.δ.lookup y=À j)
  (hs:∀o i,subscripted M false o i=jV [o,i] (wy o i):=by intro _ _;rfl) (hd:(x==("__debug__":Str))=false:=by decide) (I:(y==("__debug__":Str))=false:=by decide):
  SE X k sc (.Subscript (.Subscript (.Name x p) M q1) (.Name y p') pos) (.gJ i pk j):=by
 intro env he σ v m ø hv;refine wa hv λw0 kk m2 R xs ll pp ys rr vv h0 h2 hg hj hp S hr J=>?_
 .intro P B α A s Q E hR K q
  .refine K.Æ x i w0.1 w0.2 hx h0 λval g _ _=>?_;refine Ş<|Ş<|j5 (g.load K.kind<|(hk env he σ _ m2 R h2).é P B α A s _ _ hR K λvb s2 B2 Y Nu S2 H O2 Ks OJ=>?_) hd;refine H.Æ x i _ _ hx hg λO9 D O' XR=>?_;obtain rfl:=(S2.names x val g).Hk D;apply AP O';rintro cz a f rfl e2 e3 hl hB b nd;apply ê O2.vr;intro tz;refine H4 (b.at_<|uP e3 S) λia items h1 w T8 t=>?_;have C:xs.length=(f.map aD).toArray.size:=by
    refine Å e3 ?_;simp[b.length]
   refine lx hl.isList.typeIs zj.lookup (i0 hl.isList (Đ C<|cq hp) (Å (xB)<|Å (ô)<|Å h1 rfl) ?_)<|hs _ _;refine H.Æ y j _ _ hy hj λjv c O _=>?_;refine j5 (c.load H.kind ?_) I;apply ê O.vr;intro tj;exact ì (t.at_ J) λrv G W=>lx w.isList.typeIs zj.lookup (i0 w.isList (Å (show items.size=ys.length by exact Đ Ì<|Đ t.length rfl)<|cq hr) ((fh)▸G)<|q rv s2 B2 Y [] S2 H (.z W) (λ_ h=>ϭ h) λ_ _ _ _ _ h=>ϭ h) rfl
def ă.write(s:fQ l h h')(b:IsL h' l nN)(v:ě B ZQ nN.toList)(H:ă h B cz as):∀{p:Á},as.Nodup->as[p]?=À l->ă h' B (cz.set p ZQ) as:=by
 induction H with
 |nil=>exact λ_ e=>ÿ e
 |cons c hB f t ih=>intro p a;rw[dg] at a;induction p with
  |zero=>intro e;obtain rfl:=à e;exact .cons b hB v<|t.other s.2 a.1
  |succ p=>exact λe=>.cons (IsL.keep c λ_=>(s.2 _ λh=>a.1<|Eq.subst (motive:=(·∈_)) h.symm<|Ŕ e).trans) hB f<|ih a.2 e
def SX.put2{i j:Á}(hx:sc.δ.lookup x=À i)(hk:SE X k sc ke pk)(hy:sc.δ.lookup y=À j)(h:SE X k sc e pe)
  (hs:∀o i,subscripted ke false o i=jV [o,i] (wy o i):=by intro _ _;rfl) (hd:(x==("__debug__":Str))=false:=by decide) (Lm:(y==("__debug__":Str))=false:=by decide)
  (Zj:∀env,swapsWith e (À<|.Subscript (.Subscript (.Name x p) ke q1) (.Name y p') q2) pos.line env=pure false:=by intro _;rfl):
  SX X k sc Fu (.Assign [.Subscript (.Subscript (.Name x p) ke q1) (.Name y p') q2] e pos) (.put2 i pk j pe):=by
 intro env he σ o ø hv;refine IB hv λv m Ø w0 kk m2 dM xs ll pp S rr h1 h0 h2 hg hj hp YB hr=>?_
 .intro P B α A s Q E hR K q
  .apply E8 ((h env he σ v m Ø h1).é P B α A s _ _ hR K λva s1 B1 eI Ab S1 K1 O1 _ _=>?_)<|Zj env;refine ì (K1.vars x i _ _ hx h0) λval H _=>?_;refine Ş<|j5 (H.load K1.kind<|(hk env he Ø _ m2 dM h2).é P B1 eI A s1 _ _ hR K1 λvb s2 B2 cR Nu S2 K2 O2 Ks OJ=>?_) hd;refine K2.Æ x i _ _ hx hg λO9 w O' XR=>?_;obtain rfl:=(S2.names x val H).Hk w;apply AP O';rintro cz a g rfl e2 e3 hl hB c I;apply ê O2.vr;intro tz;refine H4 (c.at_<|uP e3 YB) λW items C ZE T8 G=>?_;have J:xs.length=(g.map aD).toArray.size:=by
    refine Å e3 ?_;simp[c.length]
   refine lx hl.isList.typeIs zj.lookup (i0 hl.isList (by exact Đ J<|cq hp) (by exact Å (xB)<|Å (ô)<|Å C rfl) ?_)<|hs _ _;refine K2.Æ y j _ _ hy hj λjv M UA _=>?_;refine j5 (M.load K2.kind ?_) Lm;apply ê UA.vr;intro tj;obtain⟨c1,c2,c3,rfl⟩:=bM hr;obtain⟨n,O⟩:=ZE.lit;refine gT O c2 (by omega) ((Jw 510448581529670) c3<|show items.size=S.length by exact Đ Ì<|Đ G.length rfl) λh' n' Y f=>?_;have t:W∈g:=Ŕ C;have y8:a≠W:=λe=>by rw[dg] at I;exact I.1<|e▸t
   rw[dg] at I;have R:ĭ h' B2 (.Ñ<|(cz.set pp<|S.set ll.toNat v).map .Ñ) 2 (.ref a) (a::g):=
    .two (ì hl λo Y r=>⟨o,(f.2 a y8).trans Y,r⟩) hB (c.write f ⟨_,Y,rfl,⟨n',rfl⟩,rfl,rfl⟩ (G.setAt<|O1.vr.mono S2.le) I.2 C) (dg.2 I)
   rw[(show xs.set pp (.Ñ<|S.set ll.toNat v)=(cz.set pp<|S.set ll.toNat v).map .Ñ by exact Å e3<|Å map_set rfl)] at q;have L:∀b o,b∉cR i->s2.heap.get? b=À o->h'.get? b=À o:=λb o D e=>(f.2 b λe'=>D<|by exact Å e2<|Å e'<|.tail _ t).trans e;have K3:=K2.upd hx hg w O' L R (λb D=>by
    by_cases e:b=W
    .subst e;exact⟨_,Y⟩
    .rw[e2] at D;apply ì (O'.lists b<|by exact Å e2 D);rintro ϝ ⟨o,JH,_⟩ _;exact⟨o,(f.2 b e).trans JH⟩) (λb D=>by exact Å e2 D)
   exact q .next _ B2 _ ((S1.toStep.trans S2.toStep).trans<|Step.one L XR) K3 .next
end
section
variable{X:Cx}{k:Á}{sc:Sc}{Fu:Á}
def uL(hx:sc.δ.lookup x=À i)(H:SE X k sc ke pk)(hd:(x==("__debug__":Str))=false)(he:env.scope.names=sc.kinds)
  (R:ţ k A) (K:Ok X.T P B env sc.dl sc.wl σ α s.heap) (Y:putAt i pk v σ=À b) (G:VR B v val) (q:∀s' B' a,Step P s s' B B'->Ok X.T P B' env sc.dl sc.wl b a s'.heap->Q () s'):
  wq X A (assign (.Subscript (.Name x p) ke p') env val) Q E s:=by
 revert q;refine BS (M:=λb=>(∀s' B' a,Step P s s' B B'->Ok X.T P B' env sc.dl sc.wl b a s'.heap->Q () s')->_) Y λw0 D m2 j xs pp h0 h2 t o q=>?_;refine ì (K.vars x i _ _ hx h0) λvl h _=>?_;apply kas_sub<|j5 (h.load K.kind<|(H env he σ _ m2 j h2).é P B α A s _ _ R K λvk s2 B2 cR W S y O _ _=>?_) hd
 .obtain⟨c1,I,c3,rfl⟩:=bM o;apply eJ y hx t<|S.names x _ h;rintro l items n rfl _ _ L f;apply ê O.vr;intro tz;refine gT L I (by omega) ((Jw 510448581529670) c3<|show items.size=xs.length by exact Đ Ì<|Đ f.length rfl) λh' n' C c=>?_;obtain⟨J,m⟩:=y.list hx t (S.names x _ h) c C (xs':=xs.set D.toNat v)<|f.setAt<|G.mono S.le;exact q _ B2 _ (S.toStep.trans<|iA c m) J
def SX.swap(hx:sc.δ.lookup x=À i)(hy:sc.δ.lookup y=À j)(J:sc.wr.contains y=true)(hk:SE X k sc ke pk)(hl:SE X k sc le pl)
  (H:eV X k sc es [.ä i pl,.ä i pk,pe]) (hd:(x==("__debug__":Str))=false:=by decide)
  (hw:swappedStores [.Tuple [.Subscript (.Name x p1) ke q1,.Subscript (.Name x p2) le q2,.Name y p3] n pt] (.Tuple es n' pv) (uR sc.kinds)=pure Ä):
  SX X k sc Fu (.Assign [.Tuple [.Subscript (.Name x p1) ke q1,.Subscript (.Name x p2) le q2,.Name y p3] n pt] (.Tuple es n' pv) pos) (.swap i pk pl j pe):=by
 intro env I σ o p f;refine Ŵ (x:=ď [.ä i pl,.ä i pk,pe] σ) f λvs Ø W f=>Ŧ (x:=l3 vs) f λb a w h0 f=>ð (x:=putAt i pk b Ø) f λY h2 f=>ð (x:=putAt i pl a Y) f λCD h3 f=>â (M:=λo p=>Ex X k env sc.dl sc.wl σ _ o p) f ?_;replace W:=Fb (M:=λvs x=>ď [.ä i pl,.ä i pk,pe] σ=À (vs,Ø)->ď [.ä i pl,.ä i pk,pe] σ=À ([x.1,x.2.1,x.2.2],Ø)) h0 (λ_ _ _ h=>h) W
 .intro P B α A s Q E R K q;apply lZ (sD<|H.spliced I pv W P B α A s _ _ R K λvals c B1 eI S1 K1 D=>⟨by refine Đ D.length ?_;refine(?_:3<=ee);decide,?_⟩) rfl<|LR I K.kind hw;refine ì (ou (A:=A) K1.base D) λC x2 Zm=>?_;have G:=K1.ext x2;have S2:Step P c {c with heap:=c.heap.push {cls:=.type "tuple",data:=.seq vals.toArray}} B1 C:=x2.step K1.hi (tk:=c.toks);refine iU (M:=λv=>ϛ _ A (assign (.Tuple _ n pt) env v) _ _ _) (s:={c with heap:=c.heap.push {cls:=.type "tuple",data:=.seq vals.toArray}}) Zm G.base λt items S g=>?_;obtain⟨ls⟩:=items;revert S;apply Le (vals:=ls) g;intro _ _ _ vb va vw S
  ·.·.refine gN R.hd S rfl rfl λO hs=>?_;have x3:kQ (c.heap.push {cls:=.type "tuple",data:=.seq vals.toArray}) O C C:=⟨λb o e=>hs b o (λL=>by rw[L,ĉ] at e;exact ÿ e) e,.refl _,λb o e=>hs b o (λL=>by rw[L,G.HJ<|ĉ _] at e;exact ÿ e)<|G.base b o e,λ_ _ e=>.inl e⟩
      have S3:Step P {c with heap:=c.heap.push {cls:=.type "tuple",data:=.seq vals.toArray}} {c with heap:=O} C C:=x3.step (s:={c with heap:=c.heap.push {cls:=.type "tuple",data:=.seq vals.toArray}}) G.hi (tk:=c.toks);refine(?_:ϛ _ A (do bF _ (assign (.Subscript (.Name x p1) ke q1) env _);bV _ _) _ E _);apply Ü<|ϗ<|uL (s:={c with heap:=O}) hx hk hd I R (G.ext x3) h2 vb λs4 B4 RX S4 K4=>?_;refine(?_:ϛ _ A (do bF _ (assign (.Subscript (.Name x p2) le q2) env _);bV _ _) _ E _);apply Ü<|ϗ<|uL hx hl hd I R K4 h3 (va.mono S4.le) λs5 B5 Sk S5 K5=>?_;refine(?_:ϛ _ A (do bF [] (assign (.Name y p3) env _);bV _ _) _ E _);exact Ü<|ϗ<|Ü (m:=bc _)<|ų<|eT K5 hy J ((vw.mono S4.le).mono S5.le) λs6 SI S6 K6=>õ<|q .next s6 B5 SI (((((S1.toStep.trans S2).trans S3).trans S4).trans S5).trans S6) K6 .next
end
noncomputable def Ê(n:Á):DA:=c9.main.body.getD n<|.Pass ⟨0,0,0,0⟩
noncomputable def Þ:DA->Ã DA
 |.FunctionDef _ _ b _ _ _ _ _ _ _=>b
 |_=>[]
noncomputable def ŵ:DA->Ã (Str×NameKind)
 |.FunctionDef _ _ _ _ _ _ s _ _ _=>s.names
 |_=>[]
section
variable{X:Cx}{k:Á}{sc:Sc}{Fu:Á}
abbrev Vi(sc:Sc)(scope:pn)(δ:Ã (Str×Á))(wr:Ã Str):Sc:={kinds:=pz sc.kinds scope.names,δ:=δ,wr:=wr}
noncomputable def OQ:Ã Expr->Ã Str
 |[]=>[]
 |.Name x _::r=>x::OQ r
 |.Tuple es _ _::r=>es.filterMap (λe=>match e with|.Name x _=>À x|_=>Ä)++OQ r
 |_::r=>OQ r
abbrev sr(sc:Sc)(ns:pn)(es:Ã Expr)(sl:Ã Á):Sc:=Vi sc ns ((OQ es).zip sl++ns.names.filterMap (λp=>if p.2==.free then(sc.δ.lookup p.1).map λi=>(p.1,i) else Ä))<|OQ es
def SC.PY{b a t:Expr}
 (hi:dO X k sc t a f ϝ) (g:ip (sr sc scope [t] ġ.slots) t ġ) (c:SE X k (sr sc scope [t] ġ.slots) b ϕ) (C:f9 sc (sr sc scope [t] ġ.slots) scope.names ġ.slots=true) (m:ba sc (sr sc scope [t] ġ.slots) (ġ.slots++Ŋ ϕ)=true)
 (s:∀env x,foldedSetIterable a env x=pure x:=by intro _ _;rfl) (h:scope.kind=.function:=by rfl):SC X k sc b [⟨t,a,[],0⟩] scope pos (.comp ϕ ġ f ϝ Ä):=.comp _ hi g c C m s h
def SC.HY{b a t c:Expr}
 (hi:dO X k sc t a f ϝ) (m:ip (sr sc scope [t] ġ.slots) t ġ) (j:cG X k (sr sc scope [t] ġ.slots) c pc) (g:SE X k (sr sc scope [t] ġ.slots) b ϕ) (C:f9 sc (sr sc scope [t] ġ.slots) scope.names ġ.slots=true) (o:ba sc (sr sc scope [t] ġ.slots) (ġ.slots++Ŋ ϕ++Ŋ pc)=true)
 (s:∀env x,foldedSetIterable a env x=pure x:=by intro _ _;rfl) (h:scope.kind=.function:=by rfl):SC X k sc b [⟨t,a,[c],0⟩] scope pos (.comp ϕ ġ f ϝ<|À pc):=.oS _ hi m j g C o s h
def SE.Bd(a:sc.kinds.lookup x=À .globalImplicit)(h:∃t,X.mg x=À (.int i t))(b:(x==("__debug__":Str))=false:=by decide):SE X k sc (.Name x p) (.c<|.int i):=by
 exact å h λt h=>.glob a h .int b
def SE.IE(a:sc.kinds.lookup x=À .globalImplicit)(h:∃t,X.mg x=À (.float b t))(f:(x==("__debug__":Str))=false:=by decide):SE X k sc (.Name x p) (.c<|.á b):=by
 exact å h λt h=>.glob a h .á f
def SE.tyName(c:Callee X sc x (.type T))(j:(x==("__debug__":Str))=false:=by decide):SE X k sc (.Name x p) (.c<|.ty T):=by
 intro env g σ v m a f;apply BM f;intro P B b A s Q E R K q;exact c.load g K (q (.type T) s B b [] (.refl _ _ _ _) K (.z .ty) (λ_ h=>ϭ h) λ_ _ _ _ _ h=>ϭ h) j
def Ā(X:Cx)(k:Á)(f:Str)(F:Ã V->Ï (V×Á)):Prop:=∃a o fd,X.mg f=À (.ref a)/\X.T.get? a=À o/\o.data=.func fd/\Ϩ X k (.ref a) F
def SE.N8(h:Ā X k f F)(g:sc.kinds.lookup f=À .globalImplicit)(H:eV X k sc (e::es) i6)(m:(f==("__debug__":Str))=false:=by decide):
  SE X k sc (.Call (.Name f p) (e::es) [] pos) (.fn F i6):=by
 exact JW h λa o fd c q b j=>.QC (.func g c q b) H j m
structure Gl(X:Cx):Prop where
 no:∀x∈(["int","len","min","max","abs","sum","sorted","ord","chr","type","list","range","enumerate","zip","reversed","divmod"]:Ã Str),X.mg x=Option.none
 cI:∀p∈([("_MAX_STRING_SIZE",40),("_MOVE_COST",2),("_CASE_COST",1),("_DIV_LIMIT",4000)]:Ã (Str×Â)),∃t,X.mg p.1=À (.int p.2 t)
 cF:∀p∈([("ONE_THIRD",4599676419421066581),("ONE_SIXTH",4595172819793696085),("TWO_THIRD",4604180019048437077)]:Ã (Str×ā)),∃t,X.mg p.1=À (.float p.2 t)
def Gl.bi{id:pF}(G:Gl X)(m:f∈(["int","len","min","max","abs","sum","sorted","ord","chr","type","list","range","enumerate","zip","reversed","divmod"]:Ã Str))(a:sc.kinds.lookup f=À .globalImplicit)(b:lK f=À (.builtin id))(h:f≠"__name__"):Callee X sc f (.builtin id):=
 .builtin a (G.no f m) b h
def Gl.ty(G:Gl X)(m:f∈(["int","len","min","max","abs","sum","sorted","ord","chr","type","list","range","enumerate","zip","reversed","divmod"]:Ã Str))(a:sc.kinds.lookup f=À .globalImplicit)(b:lK f=À (.type T))(h:f≠"__name__"):Callee X sc f (.type T):=
 .type a (G.no f m) b h
def pU:CB "str" "lower" "str.lower":=⟨xb,PySem.F.slot_str_lower,PySem.F.type_str_lower⟩
def yk:CB "str" "upper" "str.upper":=⟨xb,PySem.F.slot_str_upper,PySem.F.type_str_upper⟩
def Bi:CB "str" "join" "str.join":=⟨xb,PySem.F.slot_str_join,PySem.F.type_str_join⟩
def yP:CB "list" "index" "list.index":=⟨lY,lS,PySem.F.type_list_index⟩
def bY:CB "int" "bit_length" "int.bit_length":=⟨PySem.F.plainAttrs_int,PySem.F.slot_int_bit_length,PySem.F.type_int_bit_length⟩
def pg:∀v vs r,m_lower (v::vs)=À r->jc "str" v:=λv vs r h=>
 bJ į (M:=λl=>∀v vs,l=v::vs->jc "str" v) h (λ_ _ v vs e=>by injection e with e;subst e;exact .str) v vs rfl
def wQ:∀v vs r,m_upper (v::vs)=À r->jc "str" v:=λv vs r h=>
 bJ į (M:=λl=>∀v vs,l=v::vs->jc "str" v) h (λ_ _ v vs e=>by injection e with e;subst e;exact .str) v vs rfl
def BZ:∀v vs r,rF (v::vs)=À r->jc "str" v:=λv vs r h=>
 iT į Ğ (M:=λl=>∀v vs,l=v::vs->jc "str" v) h (λ_ _ _ v vs e=>by injection e with e;subst e;exact .str) v vs rfl
def yC:∀v vs r,m6 (v::vs)=À r->jc "list" v:=λv vs r h=>
 iT Ğ Ú (M:=λl=>∀v vs,l=v::vs->jc "list" v) h (λ_ _ _ v vs e=>by injection e with e;subst e;exact .Ñ) v vs rfl
def bT:∀v vs r,Ź (v::vs)=À r->jc "int" v:=λv vs r h=>
 bJ Ú (M:=λl=>∀v vs,l=v::vs->jc "int" v) h (λ_ _ v vs e=>by injection e with e;subst e;exact .int) v vs rfl
end
section
variable{X:Cx}{A:q6}
def gG.rev(T:IsT te):gG X k te (λvals=>Î (.type "reversed") vals) Hs:=by
 intro A B s vs items vals Q E R K hB m q;apply bJ Ğ (M:=λvs=>ě B vs vals->wq X A (Î (.type "reversed") vals) (λx G=>wq X A (pN x) Q E G) E s) K (λxs h m=>BN (M:=λvals=>wq X A (Î (.type "reversed") vals) (λx G=>wq X A (pN x) Q E G) E s) m λx t=>?_) m;obtain⟨rfl,I⟩:=iG h;apply Ł t;intro a o n f g C y hx h;apply call_reversed_list<|đ hB g C y;have p:(s.heap.push<|revObj a<|(f.size:Â)-1).IsRevIter s.heap.objs.size a ((f.size:Â)-1):=⟨_,ë _ rfl,rfl,rfl⟩
 refine wpAny_pyIter_revIter (s:={s with heap:=s.heap.push (revObj a<|(f.size:Â)-1)}) p ?_;refine q _ _ s.toks [s.heap.objs.size,a] [s.heap.objs.size] _ (ό hB _) (ig.kG (by
   exact((show f.size=xs.reverse.length from Å eA<|Å h.length<|Å Ì rfl)▸(Walks.listRev (prog:=X.prog) (w:=X.w) (A:=A) R.hd s.heap.objs.size a (λe=>ó (Ļ<|hB _ _ g)<|Å e<|fK _) f))) (λi val v D t=>?_) (λi J j b c=>?_) λi=>r6 "list_reverseiterator" T (λJ j=>?_) rfl) ?_ (λb c=>?_) (λb c=>?_) (λb c=>?_) I
 .have hi:i<xs.reverse.length:=by
   rcases se.1 t with⟨h,_⟩;exact h
  rw[eA] at hi D;refine ì (h.at_<|(getElem?_reverse hi)▸t) λx H L=>?_;obtain rfl:=à<|((fh)▸H)▸D;exact L
 .rw[Ċ] at c;subst c;exact ì j.2.1 λo g _=>⟨o,g⟩
 .exact qJ j.2.1 λo g C y=>⟨o,g,C,_,y⟩
 .refine⟨Ϫ _,?_,_,Ô _<|hB _ _ g,C,_,y⟩;have e:((xs.reverse.length:Á):Â)-1-((0:Á):Â)=(f.size:Â)-1:=by refine Å eA<|Å h.length<|Å Ì ?_;exact(A1 0xe0d9fde0d995)
  exact Å e p
 .rcases ő.1 c with rfl|c
  .exact⟨_,ë _ rfl⟩
  .rw[Ċ] at c;subst c;exact⟨_,Ô _<|hB _ _ g⟩
 .rw[Ċ] at c;subst c;exact ĉ _
 .rcases ő.1 c with rfl|c
  .exact .inl<|ĉ _
  .rw[Ċ] at c;subst c;exact .inr ⟨_,_,_,g,y⟩
end
abbrev aI(h:gk)(T:Ĳ)(a b c:Ë):Prop:=h.get? T=À {cls:=.type "tuple",data:=.seq #[a,b,c]}
def oE(a b c:Ë):checkTypeCall "zip" ⟨[a,b,c],[]⟩=pure ():=by decide
def qB(a b c:Ë):checkBuiltinCall "zip.__new__" ⟨[.type "zip",a,b,c],[]⟩=pure ():=by decide
def jB(a b c d:Ë):argsOk "object.__init__" ⟨[a,b,c,d],[]⟩:=by
 unfold argsOk;refine Å (signature?_of (id:="object.__init__") (n:=['_','_','t','i','n','i','_','_']) (o:=['t','c','e','j','b','o']) rfl PySem.F.owner_object) ?_;decide
section
variable{prog:lX}{w:dk}{A:q6}{E:Ë->ŕ->Prop}{s:ŕ}
def ed(g:aI s.heap T a b c)
  (h:∀f,f.get? T=À {cls:=.type "tuple",data:=.seq ((#[a,b,c]:gS Ë).setIfInBounds k x)}->fQ T s.heap f->Q () {s with heap:=f}):
  ϛ (aT prog w) A (updateSeq T (·.setIfInBounds k x)) Q E s:=by
 refine yM g rfl (h _ ?_<|pV ..) (by decide) (by rw[Array.size_setIfInBounds];decide);refine Å (nZ _ g rfl) ?_;simp[tQ]
structure ZA(z TI TO:Ĳ)(is ls:Ã Ĳ):Prop where
 TIz:TI≠z
 TOz:TO≠z
 TITO:TI≠TO
 iz:∀i∈is,i≠z
 ZU:∀i∈is,i≠TI
 S0:∀i∈is,i≠TO
 nd:is.Nodup
 lz:∀l∈ls,l≠z
 Tq:∀l∈ls,l≠TO
 li:∀l∈ls,∀i∈is,l≠i
def oP{Q:Ë->ŕ->Prop}(D:ZA z TI TO [i1,i2,i3] [b1,b2,b3])
  (hz:IsZip s.heap z TI TO .none) (Sd:aI s.heap TI (.ref i1) (.ref i2) (.ref i3)) (Sm:aI s.heap TO a b c)
  (h1:s.heap.IsListIter i1 b1 k) (h2:s.heap.IsListIter i2 b2 k) (h3:s.heap.IsListIter i3 b3 k) (Sh:s.heap.IsList b1 xs) (YF:s.heap.IsList b2 ys) (Zs:s.heap.IsList b3 zs) (hx:xs[k]?=À x) (hy:ys[k]?=À y) (hw:zs[k]?=À w')
  (hQ:∀h',IsZip h' z TI TO (rawInt s.heap.objs.size)->aI h' TO x y w'->h'.IsListIter i1 b1 (k+1)->h'.IsListIter i2 b2 (k+1)->h'.IsListIter i3 b3 (k+1)->aI h' s.heap.objs.size x y w'->h'.objs.size=s.heap.objs.size+1->
   (∀c o,c∉[z,TO,i1,i2,i3]->s.heap.get? c=À o->h'.get? c=À o)->Q (.ref s.heap.objs.size) {s with heap:=h'}):
  ϛ (aT prog w) A (yX.«zip.__next__» ⟨[.ref z],[]⟩) (λfin s'=>∃v,fin=.done (.ret v)/\Q v s') E s:=by
 have WY:=D.iz i1 (by simp);have WX:=D.iz i2 (by simp);have Vw:=D.iz i3 (by simp);have Y:=D.S0 i1 (by simp);have Sf:=D.S0 i2 (by simp);have RM:=D.S0 i3 (by simp);have Yg:i1≠i2:=by have:=D.nd;simp at this;exact this.1.1
 have X0:i1≠i3:=by have:=D.nd;simp at this;exact this.1.2
 have X4:i2≠i3:=by have:=D.nd;simp at this;exact this.2
 have X3:=D.Tq b3 (by simp);refine(?_:ϛ _ _ (field (.ref z) 2>>=_) _ _ _);refine Ü<|eK hz rfl (x:=.bool false) rfl ?_;refine(?_:ϛ _ _ (field (.ref z) 3>>=_) _ _ _);refine Ü<|eK hz rfl (x:=.ref TI) rfl ?_;refine Ü<|nG Sd rfl ?_;refine(?_:ϛ _ _ (ib (.ref z)>>=_) _ _ _);refine Ü ?_;unfold ib;refine Ü<|eK hz rfl (x:=.none) rfl<|õ ?_;simp only[sJ];refine Ü<|xy ?_;refine Ü<|eK hz rfl (x:=.ref TO) rfl ?_;refine Ü (eF hz (by simp) λTj L g=>?_);replace L:IsZip Tj z TI TO .ellipsis:=L;refine Ü ?_;simp only[FG,Ek,tp,zu];refine Ü<|Ü<|rW ?_;refine(?_:ϛ _ _ (f5 (.ref i1)>>=_) _ _ _);refine Ü (yb (h1.extBut g.extBut WY) (Sh.extBut g.extBut<|D.lz b1<|by simp) hx λTc Rf m=>õ ?_);have P:aI Tc TO a b c:=m.extBut _ _ Y.symm<|g.extBut _ _ D.TOz Sm;refine Ü<|nG P rfl ?_;refine Ü<|ed P λVp G j=>?_;replace G:aI Vp TO x b c:=G;refine Ü<|FO<|õ ?_;refine Ü<|Ü<|rW ?_;refine(?_:ϛ _ _ (f5 (.ref i2)>>=_) _ _ _);refine Ü (yb (((h2.extBut g.extBut WX).extBut m.extBut Yg.symm).extBut j.extBut Sf)
  (((YF.extBut g.extBut<|D.lz b2<|by simp).extBut m.extBut<|D.li b2 (by simp) i1<|by simp).extBut j.extBut<|D.Tq b2<|by simp) hy λTN QX q=>õ ?_)
 have R:aI TN TO x b c:=q.extBut _ _ Sf.symm G;refine Ü<|nG R rfl ?_;refine Ü<|ed R λWH I p=>?_;replace I:aI WH TO x y c:=I;refine Ü<|FO<|õ ?_;refine Ü<|Ü<|rW ?_;refine(?_:ϛ _ _ (f5 (.ref i3)>>=_) _ _ _);refine Ü (yb (((((h3.extBut g.extBut Vw).extBut m.extBut X0.symm).extBut j.extBut RM).extBut q.extBut X4.symm).extBut p.extBut RM)
  (((((Zs.extBut g.extBut<|D.lz b3<|by simp).extBut m.extBut<|D.li b3 (by simp) i1<|by simp).extBut j.extBut X3).extBut q.extBut<|D.li b3 (by simp) i2<|by simp).extBut p.extBut X3) hw λUy Qo B=>õ ?_)
 have S:aI Uy TO x y c:=B.extBut _ _ RM.symm I;refine Ü<|nG S rfl ?_;refine Ü<|ed S λf C t=>?_;replace C:aI f TO x y w':=C;refine Ü<|FO<|õ<|õ ?_;refine Ü<|nG C rfl ?_;refine Ü<|wpAny_newTuple ?_;have EG:f.objs.size=s.heap.objs.size:=by rw[t.1,B.1,p.1,q.1,j.1,m.1,g.1]
 have W:IsZip f z TI TO .ellipsis:=t.extBut _ _ D.TOz.symm<|B.extBut _ _ Vw.symm<|p.extBut _ _ D.TOz.symm<|q.extBut _ _ WX.symm<|j.extBut _ _ D.TOz.symm<|m.extBut _ _ WY.symm L;have Pu:∀c o,c∉[z,TO,i1,i2,i3]->s.heap.get? c=À o->f.get? c=À o:=λc o hc e=>by
  simp[not_or] at hc;exact NL hc λc1 c2 c3 c4 c5=>t.extBut _ _ c2<|B.extBut _ _ c5<|p.extBut _ _ c2<|q.extBut _ _ c4<|j.extBut _ _ c2<|m.extBut _ _ c3<|g.extBut _ _ c1 e
 have PR:z<f.objs.size:=Ļ W;refine(?_:ϛ _ _ (yW (.ref z) (.ref f.objs.size)>>=_) _ _ _);refine Ü ?_;unfold yW;have RB:IsZip (f.push {cls:=.type "tuple",data:=.seq #[x,y,w']}) z TI TO .ellipsis:=Ô _ W;refine Ü (eF RB (by simp) λTf K O=>?_);replace K:IsZip Tf z TI TO (rawInt f.objs.size):=K;refine eF K (by simp) λJ H M=>?_;replace H:IsZip J z TI TO (rawInt f.objs.size):=H;have up:∀c o,c≠z->f.get? c=À o->J.get? c=À o:=λc o c1 e=>M.extBut _ _ c1<|O.extBut _ _ c1<|Ô _ e;have X:aI J f.objs.size x y w':=M.extBut _ _ (nW PR)<|O.extBut _ _ (nW PR)<|ë _ rfl;have Xr:J.objs.size=f.objs.size+1:=by rw[M.1,O.1,e0]
 rw[EG] at H X Xr;refine õ ⟨_,rfl,?_⟩;refine(?_:Q (.ref f.objs.size) _);rw[EG];exact hQ J H (up _ _ D.TOz C) ((((((Rf.extBut j.extBut Y).extBut q.extBut Yg).extBut p.extBut Y).extBut B.extBut X0).extBut t.extBut Y).at λo e=>up _ o WY e) ((((QX.extBut p.extBut Sf).extBut B.extBut X4).extBut t.extBut Sf).at λo e=>up _ o WX e) ((Qo.extBut t.extBut RM).at λo e=>up _ o Vw e) X Xr λc o hc e=>up c o (λh=>hc<|by simp[h])<|Pu c o hc e
def qF(L:A.handled=Ä)(D:ZA z TI TO [i1,i2,i3] [b1,b2,b3])
  (hz:IsZip s.heap z TI TO .none) (I:aI s.heap TI (.ref i1) (.ref i2) (.ref i3)) (M:aI s.heap TO a b c)
  (R:s.heap.IsListIter i1 b1 k) (H:s.heap.IsList b1 xs) (hx:xs[k]?=Ä)
  (W:∀C e,(∀c o,c∉[z,TO,i1,i2,i3]->s.heap.get? c=À o->C.get? c=À o)->(∃o,C.get? e=À o/\o.cls=.type "StopIteration")->E (.ref e) {s with heap:=C}):
  ϛ (aT prog w) A (yX.«zip.__next__» ⟨[.ref z],[]⟩) Q E s:=by
 have p:=D.iz i1 (by simp);refine(?_:ϛ _ _ (field (.ref z) 2>>=_) _ _ _);refine Ü<|eK hz rfl (x:=.bool false) rfl ?_;refine(?_:ϛ _ _ (field (.ref z) 3>>=_) _ _ _);refine Ü<|eK hz rfl (x:=.ref TI) rfl ?_;refine Ü<|nG I rfl ?_;refine(?_:ϛ _ _ (ib (.ref z)>>=_) _ _ _);refine Ü ?_;unfold ib;refine Ü<|eK hz rfl (x:=.none) rfl<|õ ?_;simp only[sJ];refine Ü<|xy ?_;refine Ü<|eK hz rfl (x:=.ref TO) rfl ?_;refine Ü (eF hz (by simp) λv f h=>?_);replace f:IsZip v z TI TO .ellipsis:=f;refine Ü ?_;simp only[FG,Ek,tp,zu];refine Ü<|Ü<|rW ?_;refine(?_:ϛ _ _ (f5 (.ref i1)>>=_) _ _ _);refine Ü (wpAny_nextOf_list_end L (R.extBut h.extBut p) (H.extBut h.extBut<|D.lz b1<|by simp) hx λB e m P=>?_);refine ì P λO q y=>?_;have j:IsZip B z TI TO .ellipsis:=m _ _ p.symm f;have G:e≠z:=λx=>by subst x;obtain rfl:=à<|j.symm.trans q;simp at y
 refine eF j (by simp) λt _ g=>W t e (λc o J x=>?_) ⟨O,g.extBut _ _ G q,y⟩;simp[not_or] at J;exact NL J λK Y S X c5=>g.extBut _ _ K<|m _ _ S<|h.extBut _ _ K x
noncomputable abbrev Sl(h:gk)(b1:Ĳ):gk:=h.push {cls:=.type "list_iterator",data:=.fields #[.ref b1,.int 0 0]}
abbrev RT(h:gk)(b1 b2:Ĳ):gk:=(Sl h b1).push {cls:=.type "list_iterator",data:=.fields #[.ref b2,.int 0 0]}
abbrev Si(h:gk)(b1 b2 b3:Ĳ):gk:=(RT h b1 b2).push {cls:=.type "list_iterator",data:=.fields #[.ref b3,.int 0 0]}
abbrev R6(h:gk)(b1 b2 b3:Ĳ):gk:=(Si h b1 b2 b3).push {cls:=.type "tuple",data:=.seq #[.ref h.objs.size,.ref (Sl h b1).objs.size,.ref (RT h b1 b2).objs.size]}
abbrev R2(h:gk)(b1 b2 b3:Ĳ):gk:=(R6 h b1 b2 b3).push {cls:=.type "tuple",data:=.seq #[.none,.none,.none]}
abbrev NK(h:gk)(b1 b2 b3:Ĳ):gk:=(R2 h b1 b2 b3).push {cls:=.type "zip",data:=.fields #[.none,.bool false,.bool false,.ref (Si h b1 b2 b3).objs.size,.ref (R6 h b1 b2 b3).objs.size]}
def pK(a b b3:Ĳ)(xs y zs:gS Ë):
  Meets (yX.«zip.__new__» ⟨[.type "zip",.ref a,.ref b,.ref b3],[]⟩) (λ_ R s=>s.heap.IsList a xs/\s.heap.IsList b y/\s.heap.IsList b3 zs/\
   R (.ok<|.ret<|.ref (R2 s.heap a b b3).objs.size) {s with heap:=NK s.heap a b b3}):=
 .of_wp λprog w A R s h=>by
  obtain⟨p,g,d,tk,o⟩:=s;refine sm h λc j f h=>?_;have m:=sub_zip;have k:Heap.IsList (Ei ⟨p.push {cls:=.type "list_iterator",data:=.fields #[.ref a,.int 0 0]},g,d,tk,o⟩) b y:=zf j _;have L:Heap.IsList (Ei ⟨(p.push {cls:=.type "list_iterator",data:=.fields #[.ref a,.int 0 0]}).push {cls:=.type "list_iterator",data:=.fields #[.ref b,.int 0 0]},g,d,tk,o⟩) b3 zs:=zf (zf f _) _
  repeat first
   |with_reducible first|refine Ü ?_|refine õ ?_|refine ϗ ?_|refine wpAny_alloc' ?_|refine kW c ?_|refine kW k ?_|refine kW L ?_|refine wpAny_of_eq m ?_
   |wp_delta
   |((with_reducible apply wpAny_ite_false);focus (rfl;done))
  exact⟨_,rfl,h⟩
def xT(m:s.heap.IsList b1 xs)(f:s.heap.IsList b2 ys)(b:s.heap.IsList b3 zs)
  (h:∀a,IsZip a (s.heap.objs.size+5) (s.heap.objs.size+3) (s.heap.objs.size+4) .none->aI a (s.heap.objs.size+3) (.ref s.heap.objs.size) (.ref<|s.heap.objs.size+1) (.ref<|s.heap.objs.size+2)->
   aI a (s.heap.objs.size+4) .none .none .none->a.IsListIter s.heap.objs.size b1 0->a.IsListIter (s.heap.objs.size+1) b2 0->a.IsListIter (s.heap.objs.size+2) b3 0->
   (∀c o,s.heap.get? c=À o->a.get? c=À o)->Q (.ref<|s.heap.objs.size+5) {s with heap:=a}):
  ϛ (aT prog w) A (Î (.type "zip") [.ref b1,.ref b2,.ref b3]) Q E s:=by
 refine callType_new PySem.F.called_zip rfl (oE _ _ _) (qB _ _ _) (λp=>jB p _ _ _) PySem.F.entry_zip_new
  (pK b1 b2 b3 xs ys zs) ⟨m,f,b,?_⟩
 have k:(Sl s.heap b1).objs.size=s.heap.objs.size+1:=e0 ..;have q:(RT s.heap b1 b2).objs.size=s.heap.objs.size+2:=Å (e0 ..)<|Å (k ..) rfl;have j:(Si s.heap b1 b2 b3).objs.size=s.heap.objs.size+3:=Å (e0 ..)<|Å (q ..) rfl;have t:(R6 s.heap b1 b2 b3).objs.size=s.heap.objs.size+4:=Å (e0 ..)<|Å (j ..) rfl;have v:(R2 s.heap b1 b2 b3).objs.size=s.heap.objs.size+5:=Å (e0 ..)<|Å (t ..) rfl;have g:(NK s.heap b1 b2 b3).get? (R2 s.heap b1 b2 b3).objs.size=À _:=ë _ rfl;have B:(NK s.heap b1 b2 b3).get? (R6 s.heap b1 b2 b3).objs.size=À _:=Ô _<|ë _ rfl;have C:(NK s.heap b1 b2 b3).get? (Si s.heap b1 b2 b3).objs.size=À _:=Ô _<|Ô _<|ë _ rfl;have g3:(NK s.heap b1 b2 b3).get? (RT s.heap b1 b2).objs.size=À _:=Ô _<|Ô _<|Ô _<|ë _ rfl;have y:(NK s.heap b1 b2 b3).get? (Sl s.heap b1).objs.size=À _:=Ô _<|Ô _<|Ô _<|Ô _<|ë _ rfl;refine(?_:_/\_);rw[j,t,v] at g;rw[k,q,j] at C;rw[t] at B;rw[k] at y;rw[q] at g3;refine Å v ?_;exact⟨⟨_,g,rfl⟩,h _ g C B ⟨_,(Ô _<|Ô _<|Ô _<|Ô _<|Ô _<|ë _ rfl),rfl,rfl⟩ ⟨_,y,rfl,rfl⟩ ⟨_,g3,rfl,rfl⟩ λc o x=>
  Ô _ (Ô _<|Ô _<|Ô _<|Ô _<|Ô _ x)⟩
def yH(hh:A.handled=Ä)(z L B C H G K M b3:Ĳ)(D:ZA z L B [C,H,G] [K,M,b3])(xs W zs:gS Ë)(e1:W.size=xs.size)(e2:zs.size=xs.size):
  WalksT prog w A z [z,L,B,C,H,G,K,M,b3] [z,B,C,H,G] xs.size
   (λi vals=>∃x y u,xs[i]?=À x/\W[i]?=À y/\zs[i]?=À u/\vals=#[x,y,u])
   (λi h=>IsZip h z L B .none/\aI h L (.ref C) (.ref H) (.ref G)/\(∃a b c,aI h B a b c)/\(h.IsListIter C K i/\h.IsListIter H M i/\h.IsListIter G b3 i)/\h.IsList K xs/\h.IsList M W/\h.IsList b3 zs)
   (λi T h=>(IsZip h z L B (rawInt T)/\aI h L (.ref C) (.ref H) (.ref G)/\(∃a b c,aI h B a b c)/\(h.IsListIter C K (i+1)/\h.IsListIter H M (i+1)/\h.IsListIter G b3 (i+1))/\h.IsList K xs/\h.IsList M W/\h.IsList b3 zs)/\
    T∉[z,B,C,H,G]) where
 sub:=λc J=>by simp at J⊢;rcases J with rfl|rfl|rfl|rfl|rfl<;>simp
 frame:=λi h h' v g=>by
  refine Tx v ?_;rintro hz p ⟨a,b,c,j⟩ ⟨O,S,R⟩ m q t;exact⟨g z (by simp) _ hz,g L (by simp) _ p,⟨a,b,c,g B (by simp) _ j⟩,⟨O.at λo e=>g C (by simp) o e,S.at λo e=>g H (by simp) o e,R.at λo e=>g G (by simp) o e⟩,
   m.at λo e=>g K (by simp) o e,q.at λo e=>g M (by simp) o e,t.at λo e=>g b3 (by simp) o e⟩
 item:=λi s Q E hi v P=>by
  refine Tx v ?_;rintro hz p ⟨a,b,c,j⟩ ⟨O,S,R⟩ m q t;have XG:i<W.size:=((A3 1241280545062) e1 hi)
  have Y:i<zs.size:=((A3 1241280545062) e2 hi)
  have hT:s.TypeIs (.ref z) "zip":=⟨_,hz,rfl⟩
  unfold o8;refine Ü (wpAny_attempt (CZ (name:=ϰ "__next__") hT jx
   (wC jx hT ER
    (oP D hz p j O S R m q t (ϲ hi) (ϲ XG) (ϲ Y) λh' a1 a2 a3 a4 a5 a6 a7 g=>õ ?_) (GI _))))
  have X:∀{c o},s.heap.get? c=À o->s.heap.objs.size≠c:=λe=>nW<|Ļ e;have YQ:L∉[z,B,C,H,G]:=by
   have:=D.ZU;simp only[ő,Ē,Ŷ,forall_eq_or_imp,forall_eq] at this;simp only[ő,Ē,Ŷ,not_or];exact⟨D.TIz,D.TITO,this.1.symm,this.2.1.symm,this.2.2.symm⟩
  have nl:∀l∈[K,M,b3],l∉[z,B,C,H,G]:=λl hl I=>by
   rcases ő.mp I with e|I
   .exact D.lz l hl e
   .rcases ő.mp I with e|I
    .exact D.Tq l hl e
    .exact D.li l hl _ I rfl
  refine P s.heap.objs.size #[xs[i],W[i],zs[i]] h' s.toks ⟨_,_,_,ϲ hi,ϲ XG,ϲ Y,rfl⟩ (aj _) ⟨_,a6,rfl,_,rfl⟩
   ⟨⟨a1,g _ _ YQ p,⟨_,_,_,a2⟩,⟨a3,a4,a5⟩,m.at λo e=>g _ o (nl _<|by simp) e,q.at λo e=>g _ o (nl _<|by simp) e,t.at λo e=>g _ o (nl _<|by simp) e⟩,?_⟩
   λc o J e=>g c o J e
  simp only[ő,Ē,Ŷ,not_or];exact⟨X hz,X j,(ì O λ_ e _=>X e),(ì S λ_ e _=>X e),(ì R λ_ e _=>X e)⟩
 go:=λaay k pos i T s Q E I P=>by
  refine Ö ?_ I;rintro⟨hz,p,⟨a,b,c,j⟩,⟨O,S,R⟩,m,q,t⟩ _;refine wpAny_letOwnedTupleGo_zip hz λh' NH f=>P h' ⟨NH,f.extBut _ _ D.TIz p,⟨a,b,c,f.extBut _ _ D.TOz j⟩,⟨O.extBut f.extBut<|D.iz _<|by simp,S.extBut f.extBut<|D.iz _<|by simp,R.extBut f.extBut<|D.iz _<|by simp⟩,
   m.extBut f.extBut (D.lz _<|by simp),q.extBut f.extBut<|D.lz _<|by simp,t.extBut f.extBut<|D.lz _<|by simp⟩ λc o J e=>f.extBut _ _ (λx=>J<|by simp[x]) e
 apart:=λi T h I=>I.2
 done:=λs Q E v P=>by
  refine Tx v ?_;rintro hz p ⟨a,b,c,j⟩ ⟨O,S,R⟩ m q t;have hT:s.TypeIs (.ref z) "zip":=⟨_,hz,rfl⟩
  unfold o8;refine Ü (wpAny_attempt (CZ (name:=ϰ "__next__") hT jx
   (wC jx hT ER (qF hh D hz p j O m (Array.getElem?_eq_none<|aj _) λh' e g he=>?_)<|GI _)))
  exact ì he λo ho J=>(Ü<|wpAny_isInstance (T:="StopIteration") (b:=true) ⟨o,ho,J⟩ isSubtype_stop<|õ<|P _ s.toks g)
 self:=λi s Q E v P=>wpAny_pyIter_zip v.1 P
end
section
variable{X:Cx}{A:q6}
def d6{h:gk}(e:h.objs.size<=a):h.get? a=Ä:=by
 cases b:h.get? a with
 |none=>rfl
 |some o=>exact ó (Ļ b)<|Ϣ.2 e
def RD(n j g c:Á)(a:j<n)(b:g<n)(h:c<n):ZA (n+5) (n+3) (n+4) [n,n+1,n+2] [j,g,c]:=by
 constructor
 .exact λ(e:@Eq Á _ _)=>by exact(A1 89543677511721) e
 .exact λ(e:@Eq Á _ _)=>by exact(A1 89543694288937) e
 .exact λ(e:@Eq Á _ _)=>by exact(A1 71951491467305) e
 .intro i hi (e:@Eq Á _ _);simp at hi;rcases hi with rfl|rfl|rfl;exact(A1 1366327337) e;exact(A1 349780707369) e;exact(A1 89543660734505) e
 .intro i hi (e:@Eq Á _ _);simp at hi;rcases hi with rfl|rfl|rfl;exact(A1 829456425) e;exact(A1 212341753897) e;exact(A1 54359288645673) e
 .intro i hi (e:@Eq Á _ _);simp at hi;rcases hi with rfl|rfl|rfl;exact(A1 1097891881) e;exact(A1 281061230633) e;exact(A1 71951474690089) e
 .simp
 .intro i hi (e:@Eq Á _ _);simp at hi;rcases hi with rfl|rfl|rfl;exact(A2 1208252137766) e a;exact(A2 1208252137766) e b;exact(A2 1208252137766) e h
 .intro i hi (e:@Eq Á _ _);simp at hi;rcases hi with rfl|rfl|rfl;exact(A2 1207983702310) e a;exact(A2 1207983702310) e b;exact(A2 1207983702310) e h
 .intro l f i hi (e:@Eq Á _ _);simp at hi f;rcases hi with rfl|rfl|rfl<;>rcases f with rfl|rfl|rfl;exact(A2 18415910) e a;exact(A2 18415910) e b;exact(A2 18415910) e h;exact(A2 4729110822) e a;exact(A2 4729110822) e b;exact(A2 4729110822) e h;exact(A2 1207446831398) e a;exact(A2 1207446831398) e b;exact(A2 1207446831398) e h
def gG.zip:gG X k (.Tuple es en p) (λvals=>Î (.type "zip") vals) DF:=by
 intro A B s vs items vals Q E hR hf hB H q;refine Ŀ (M:=λvs=>ě B vs vals->wq X A (Î (.type "zip") vals) (λx R=>wq X A (pN x) Q E R) E s) hf (λ_ h=>ÿ h) (λ_ _ h=>ÿ h) (λa b c h=>iP Ğ Ğ Ğ (M:=λa b c=>ě B [a,b,c] vals->wq X A (Î (.type "zip") vals) (λx R=>wq X A (pN x) Q E R) E s) h
  λxs ys zs h=>Ϲ h λf h H=>Le (M:=λvals=>wq X A (Î (.type "zip") vals) (λx R=>wq X A (pN x) Q E R) E s) H λx y z hx hy hz=>?_) H
 clear hf H;obtain⟨rfl,hl⟩:=iG h;apply Ł hx;intro a1 o1 n1 G j Y O _ g1;apply Ł hy;intro a2 o2 n2 J C Sa P _ g2;apply Ł hz;intro a3 o3 n3 K m W L _ g3;clear hx hy hz h;have z1:G.size=xs.length:=Å g1.length<|Å Ì rfl;refine xT (đ hB j Y O) (đ hB C Sa P) (đ hB m W L) λh' hz Sd Sm M1 Xa XA I=>?_;refine wpAny_pyIter_zip (s:={s with heap:=h'}) hz ?_;have SQ:((xs.zip<|ys.zip zs).map λx=>V.ñ [x.1,x.2.1,x.2.2]).length=G.size:=by
  refine Å (É ..)<|Å (length_zip ..)<|Å (length_zip ..)<|Å (f.1 ..)<|Å (f.2 ..)<|Å (z1 ..) ?_;simp
 refine q _ h' s.toks [s.heap.objs.size+5,s.heap.objs.size+3,s.heap.objs.size+4,s.heap.objs.size,s.heap.objs.size+1,s.heap.objs.size+2,a1,a2,a3] [s.heap.objs.size+5,s.heap.objs.size+4,s.heap.objs.size,s.heap.objs.size+1,s.heap.objs.size+2] _
  ⟨I,.refl _,λa o e=>I _ _<|hB _ _ e,λ_ _ e=>.inl e⟩
  (ig.q8 (by
   exact(SQ.symm▸(yH (prog:=X.prog) (w:=X.w) (A:=A) hR.hd _ _ _ _ _ _ _ _ _ (RD _ _ _ _ (Ļ<|hB _ _ j) (Ļ<|hB _ _ C)<|Ļ<|hB _ _ m) G J K (Å (show J.size=xs.length by exact Đ f.1<|Å g2.length<|Å Ì rfl)<|Å z1 rfl)<|Å (show K.size=xs.length by rw[<-f.2,g3.length,Ì])<|Å z1 rfl))) (λi vals v hp S=>?_) (λi V4 CK b g=>?_)) ?_ (λb g=>?_) (λb g=>?_) (λb g=>?_) hl
 .obtain⟨x,y,u,e1,e2,e3,rfl⟩:=hp;have S:=(ô ..)▸S;cases e:(xs.zip<|ys.zip zs)[i]? with
  |none=>have S:=e▸S;exact ÿ S
  |some t=>
   have S:=e▸S;simp at S;rw[GR] at e;obtain⟨q1,q2⟩:=e;rw[GR] at q2;obtain⟨q2,q3⟩:=q2;obtain⟨x',r1,R⟩:=g1.at_ q1;obtain⟨y',r2,s2⟩:=g2.at_ q2;obtain⟨u',r3,s3⟩:=g3.at_ q3;have r1:=e1▸(fh ..)▸r1;have r2:=e2▸(fh ..)▸r2;cases r1;cases r2;cases(e3▸(fh)▸r3);exact⟨_,S.symm,.cons R<|.cons s2<|.cons s3 .nil⟩
 .apply NL CK;rintro NH _ ⟨_,_,_,We⟩ ⟨⟨_,h1,_⟩,⟨_,h2,_⟩,⟨_,h3,_⟩⟩ _;simp at g;rcases g with rfl|rfl|rfl|rfl|rfl
  .exact⟨_,NH⟩
  .exact⟨_,We⟩
  .exact⟨_,h1⟩
  .exact⟨_,h2⟩
  .exact⟨_,h3⟩
 .exact⟨hz,Sd,⟨_,_,_,Sm⟩,⟨M1,Xa,XA⟩,⟨_,I _ _<|hB _ _ j,Y,_,O⟩,⟨_,I _ _<|hB _ _ C,Sa,_,P⟩,⟨_,I _ _<|hB _ _ m,W,_,L⟩⟩
 .simp at g;rcases g with rfl|rfl|rfl|rfl|rfl|rfl|rfl|rfl|rfl
  .exact⟨_,hz⟩
  .exact⟨_,Sd⟩
  .exact⟨_,Sm⟩
  .exact ì M1 λ_ h _=>⟨_,h⟩
  .exact ì Xa λ_ h _=>⟨_,h⟩
  .exact ì XA λ_ h _=>⟨_,h⟩
  .exact⟨_,I _ _<|hB _ _ j⟩
  .exact⟨_,I _ _<|hB _ _ C⟩
  .exact⟨_,I _ _<|hB _ _ m⟩
 .simp at g;rcases g with rfl|rfl|rfl|rfl|rfl<;>exact d6<|by omega
 .simp at g;rcases g with rfl|rfl|rfl|rfl|rfl|rfl|rfl|rfl|rfl
  .exact .inl<|d6<|by omega
  .exact .inl<|d6<|by omega
  .exact .inl<|d6<|by omega
  .exact .inl<|d6<|by omega
  .exact .inl<|d6<|by omega
  .exact .inl<|d6<|by omega
  .exact .inr ⟨_,_,_,j,O⟩
  .exact .inr ⟨_,_,_,C,P⟩
  .exact .inr ⟨_,_,_,m,L⟩
end
def ox(X:Cx)(k:Á)(sc:Sc)(t e:Expr)(f:Ã V->Ï (Ã V))(p:Ã PE):Prop:=
 ∀env,env.scope.names=sc.kinds->∀σ vs a items,ď p σ=À (vs,a)->f vs=À items->
  ∀(P:Ĳ->Prop)(B:PB)(g:Á->Ã Ĳ)(A:q6)(s:ŕ)(Q E:Ë->ŕ->Prop),ţ k A->Ok X.T P B env sc.dl sc.wl σ g s.heap->
  (∀I s' B' c fp ws St,Ķ env P s s' B B'->Ok X.T P B' env sc.dl sc.wl a c s'.heap->ig X A t I fp ws items B' St->St 0 s'.heap->(∀b∈fp,∃o,s'.heap.get? b=À o)->(∀b∈ws,P b/\B' b=Ä)->
   Off env sc.dl a c fp->(∀b∈fp,P b\/∃o,B' b=À o)->items.length<=1000000->Q (.ref I) s')->
  wq X A (eval e env) (λx h=>wq X A (pN x) Q E h) E s
section
variable{X:Cx}{A:q6}
def gG.Vs{sc:Sc}(h:gG X k te t f)
  (hR:ţ k A) (K:Ok X.T P B env sc.dl sc.wl σ α s.heap) (hf:f vs=À items) (Y:ě B vs vals)
  (q:∀I s' B' J fp ws St,Ķ env P s s' B B'->Ok X.T P B' env sc.dl sc.wl σ J s'.heap->ig X A te I fp ws items B' St->St 0 s'.heap->(∀b∈fp,∃o,s'.heap.get? b=À o)->(∀b∈ws,P b/\B' b=Ä)->
   Off env sc.dl σ J fp->(∀b∈fp,P b\/∃o,B' b=À o)->items.length<=1000000->Q (.ref I) s'):
  wq X A (t vals) (λx s1=>wq X A (pN x) Q E s1) E s:=by
 refine h A B s vs items vals Q E hR hf K.base Y λI h' tk fp ws St x D W L H C M=>?_;have g:∀a,(∃o,s.heap.get? a=À o)->B a=Ä->a∉fp:=λa ⟨o,p⟩ j S=>by
  rcases C a S with e|⟨o',_,_,e,_⟩
  .exact gC<|p.symm.trans e
  .exact ÿ<|j.symm.trans e
 refine q I {s with heap:=h',toks:=tk} B α fp ws St (x.kB K.hi) (K.ext x) D W L (λb j=>⟨K.hi b<|H b j,K.HJ<|H b j⟩) ⟨?_,?_,?_,λa O=>(let e:=(K.ex a O).2;g a e.alive e.fresh)⟩ (λb j=>by
   rcases C b j with e|⟨o',_,_,e,_⟩
   .exact .inl<|K.hi b e
   .exact .inr ⟨_,e⟩) M
 .apply Ϸ K.loc;rintro⟨m,o,es,ep,p,r⟩ _ j;exact g _ ⟨o,p⟩ j
 .intro y c hc S;refine wO (K.Ė y c hc) λv o p hd=>?_;rcases C c S with e|⟨o',xs,n,e,G⟩
  .exact gC<|p.symm.trans e
  .have:=K.base _ _ e;rw[p] at this;obtain rfl:=à this;rw[hd] at G;injection G
 .intro y i hy hi a O;refine å (İ.1 hi) λw hw=>?_;refine K.Æ y i w.1 w.2 hy hw λval _ h2 _=>?_;refine ì (h2.lists a O) ?_;rintro items ⟨o,p,_⟩ j;exact g a ⟨o,p⟩ j
end
section
variable{X:Cx}{k:Á}{sc š:Sc}
def ox.seq(h:SE X k sc e pe)(T:IsT te:=by constructor):ox X k sc te e Ń [pe]:=by
 intro env J σ vs c items L;obtain⟨x,m,G,rfl⟩:=zL L;intro h2 P B t A s Q E j K q;exact(h env J σ x m c G).é P B t A s _ _ j K λv s1 B1 H M S1 W O C Bo=>(λΓ p h=>((gG.seq (X:=X) (k:=k) T).Vs (vs:=[x]) (vals:=[v]) (items:=items) (Q:=Q) (E:=E) j W h2 (.cons O.vr .nil) λI s' B' b fp ws St S K' D g y Y o f a=>q I s' B' b fp ws St (S1.trans S) K' D g y Y o f a) Γ p h Γ p h)
end
noncomputable def A9(g c b t a:Expr)(scope:pn)(pos:o6):ey->Ë->ŭ Unit:=λenv f=>do
 let x<-eval a env
 bc a.pos
 let x<-foldedSetIterable a env x
 let _<-runOwn (.compStart (.ListComp g [⟨c,b,[],0⟩,⟨t,a,[],0⟩] scope pos) 1 (<-bF [x] (pN x)) f env) env
def Jl{f h b c a:Expr}:um f h b [] [⟨c,a,[],0⟩] scope pos (A9 f h b c a scope pos):=by
 intro j g env;have m:compTurn (.ListComp f [⟨h,b,[],0⟩,⟨c,a,[],0⟩] scope pos) 0 j g env=(do
   bc b.pos
   match<-o8 j with
   |none=>pure<|.done .next
   |some v=>
    hJ h j v
    assign h env v
    let x<-eval a env
    bc a.pos
    let x<-foldedSetIterable a env x
    let _<-runOwn (.compStart (.ListComp f [⟨h,b,[],0⟩,⟨c,a,[],0⟩] scope pos) 1 (<-bF [x] (pN x)) g env) env
    again (.compLoop (.ListComp f [⟨h,b,[],0⟩,⟨c,a,[],0⟩] scope pos) 0 j g env)):=by rfl
 refine Å m ?_;refine Ù (λt=>bc b.pos>>=t)<|funext λ_=>Ù (λt=>o8 j>>=t)<|funext λr=>?_
 induction r with
 |none=>rfl
 |some v=>
  unfold A9;simp[bind_assoc,pure_bind]
def u7(f g b t a:Expr)(scope:pn)(pos:o6)(h c:Ë)(env:ey):
 compTurn (.ListComp f [⟨g,b,[],0⟩,⟨t,a,[],0⟩] scope pos) 1 h c env=(do
  bc a.pos
  match<-o8 h with
  |none=>pure<|.done .next
  |some v=>
   hJ t h v
   assign t env v
   uN f env c
   again (.compLoop (.ListComp f [⟨g,b,[],0⟩,⟨t,a,[],0⟩] scope pos) 1 h c env)):=by rfl
section
variable{prog:lX}{w:dk}{A:q6}{E:Ë->ŕ->Prop}{R:Result->ŕ->Prop}{s:ŕ}
def tC
  (h0:hZ (aT prog w) A (.compLoop (.ListComp Ż [⟨JZ,mA,[],0⟩,⟨CJ,hH,[],0⟩] scope pos) 1 it CC env) R s)
  (h:ϛ (aT prog w) A (pN it) (λVI s'=>hZ (aT prog w) A (.compLoop (.ListComp Ż [⟨JZ,mA,[],0⟩,⟨CJ,hH,[],0⟩] scope pos) 1 VI CC env) R s')
   (wG (aT prog w) A env λx s'=>R (.error x) s') s):
  hZ (aT prog w) A (.compStart (.ListComp Ż [⟨JZ,mA,[],0⟩,⟨CJ,hH,[],0⟩] scope pos) 1 it CC env) R s:=by
 apply codeAny_of_tree;refine(?_:ϛ _ _ ((compStart (.ListComp Ż [⟨JZ,mA,[],0⟩,⟨CJ,hH,[],0⟩] scope pos) 1 it CC env).onRaise (λx=>do noteFrame x env;bc theWindowsPlace)) _ _ s);apply wpAny_notedAt;unfold compStart;refine(?_:ϛ _ _ (ask>>=_) _ _ s);refine Ü<|wpAny_askSetting<|wpAny_ite ?_;split
 .first
   |exact Ü<|õ<|õ<|oM rfl h0
   |exact õ<|oM rfl h0
 .first
   |exact Ü<|xy<|Ü<|ų<|Ü<|mz h (λVI s' h'=>õ<|oM rfl h') λ_ _ x=>x
   |(exact Ü<|xy (Ü (ų<|Ü<|mz h (λVI s' h'=>õ<|oM rfl h') λ_ _ x=>x):ϛ _ _ (bc hH.pos>>=_) _ _ s))
def uU(I:Á->ŕ->Prop)
  (t:∀n s,I n s->ϛ (aT prog w) A (o8 it) (λr b=>match r with
   |none=>R (.ok .next) b
   |some v=>ϛ (aT prog w) A (hJ CJ it v) (λ_ a=>ϛ (aT prog w) A (assign CJ env v) (λ_ g=>
    ϛ (aT prog w) A (uN Ż env CC) (λ_ c=>∃m,m<n/\I m c) (wG (aT prog w) A env λe s'=>R (.error e) s') g) (wG (aT prog w) A env λe s'=>R (.error e) s') a) (wG (aT prog w) A env λe s'=>R (.error e) s') b)
   (wG (aT prog w) A env λe s'=>R (.error e) s') s)
  (n:Á) (h:I n s):hZ (aT prog w) A (.compLoop (.ListComp Ż [⟨JZ,mA,[],0⟩,⟨CJ,hH,[],0⟩] scope pos) 1 it CC env) R s:=by
 apply codeAny_loop rfl I (λn s y=>?_) n h;refine(?_:ϛ _ A ((compTurn (.ListComp Ż [⟨JZ,mA,[],0⟩,⟨CJ,hH,[],0⟩] scope pos) 1 it CC env).onRaise (λx=>do noteFrame x env;theTreesLotGoes x)) _ _ s);apply wpAny_noted;refine Å (u7 ..) ?_;refine Ü<|ų<|Ü<|mz (t n s y) (λr b f=>?_) λ_ _ o=>o
 induction r with
 |none=>exact õ f
 |some v=>
  exact Ü<|mz f (λ_ a j=>Ü<|mz j (λ_ g p=>Ü<|mz p (λ_ c q=>õ ⟨rfl,q⟩) λ_ _ o=>o) λ_ _ o=>o) λ_ _ o=>o
end
section
variable{X:Cx}{k:Á}{sc:Sc}
def qp.own(
      h:SE X k sc Ż pe):qp X k sc 2 (ji pe) (uN Ż):=by
 intro env he σ xs L hf P B α A s Q E H ϝ nn J hR K S Y g hT O q;obtain⟨ys,h1,rfl⟩:=qN hf
 .apply Ü<|h env he σ _ _ _ h1 P B α A s _ _ hR K λva s1 B1 G Ab S1 p O1 C Bo=>?_;have b1:B1 H=Ä:=by
   cases e:B1 H with
   |none=>rfl
   |some o=>
      rcases S1.new H o e with I|I
      .have I:=(Y ..)▸I;exact ÿ I
      .exact ó I g
  refine Ü (Hh (S1.kept _ _ S g) (λh9 W D=>õ ?_)<|ú (ú (wV _ _) J)<|by decide);obtain⟨SP,t1,e1⟩:=S1.eq;cases O1 with
  |@one _ a items y hB hv=>
   have j:∀b o,b≠H->s1.heap.get? b=À o->h9.get? b=À o:=λb o f e=>(W.2 b f).trans e;have t:Off env sc.dl L G [a]:=by
    refine⟨λm=>?_,λx c hx m=>?_,λx i hx hi b f m=>?_,λx hx m=>by have m:=Ċ.1 m;exact(p.ex x hx).2.dP y m⟩
    .have m:=Ċ.1 m;obtain⟨⟨m',hn⟩,_⟩:=p.loc;exact ī y hn m.symm
    .have m:=Ċ.1 m;obtain⟨v,hc⟩:=p.Ė x c hx;exact ĥ y hc m.symm
    .obtain rfl:=Ċ.1 m;exact Bo x i hx hi b (mc _) f
   have K2:=p.shrink t λb f=>by obtain rfl:=Ċ.1 f;exact⟨_,y.choose_spec.1⟩
   refine q _ B1 G [.ref a] (nn+1) [a] ⟨h9,t1,Å e1 rfl⟩ (λb o f e n=>j b o f<|S1.kept b o e n) S1.le S1.new ?_ ?_ (.own (cz:=[ys]) (as:=[a]) (.cons (ì y λo ho r=>⟨o,j _ _ (λe=>g<|e▸C a (mc _)) ho,r⟩) hB hv .nil)<|by decide) C
   .refine K2.outside (ws:=[H]) (λb o f e=>j b o (λM=>f<|Å M<|.head _) e) (λb f=>by obtain rfl:=Ċ.1 f;exact⟨_,D⟩) ⟨λm=>?_,λx c hx m=>?_,λx i hx hi b f m=>?_,λx hx m=>by have m:=Ċ.1 m;exact g<|m▸(p.ex x hx).1⟩
     (λb f=>by obtain rfl:=Ċ.1 f;exact hT) (.refl _) (λb o e=>j b o (λM=>by have e:=b1▸(M ..)▸e;exact ÿ e)<|p.base b o e) λb o e=>.inl e
    .have m:=Ċ.1 m;exact g<|m▸p.loc.2.1
    .have m:=Ċ.1 m;exact O x c hx m
    .obtain rfl:=Ċ.1 m;obtain⟨w,hw⟩:=İ.1 hi;exact p.Æ x i w.1 w.2 hx hw λu _ _ h3=>g<|h3 b f
   .refine Å D ?_;congr 3
end
section
variable{X:Cx}{k:Á}{sc:Sc}
def vo(t:kJ)(f:Ã V->Ï (Ã V))(a:Ã PE)(p:PE):St->Ï (Ã V×St):=λσ=>
 (ď a σ).bind λx=>(f x.1).bind λl=>ą t Ä (λσ=>(ß p σ).map λx=>(x.1,x.2.2)) l x.2
def tK{p:PE}(h:ą t2 Ä (λσ=>(ß p σ).map λx=>(x.1,x.2.2)) (v::vs) σ=À (aE,ø)):
  ∃a x m b y,t2.ö v σ=À a/\ß p a=À (x,m,b)/\ą t2 Ä (λσ=>(ß p σ).map λx=>(x.1,x.2.2)) vs b=À (y,ø)/\aE=x::y:=by
 refine CI (kx h) λa ok q A j c=>?_;simp at j;obtain⟨rfl,rfl⟩:=j;rcases c with⟨h,_⟩|⟨_,B,b,y,o,s,rfl⟩
 .cases h
 apply ì<|aG o;rintro⟨w,m,g⟩ t f;cases f;exact⟨_,_,_,_,_,A,t,s,rfl⟩
inductive Rv(X:Cx)(t2:kJ)(ϕ:PE)(items:Ã V)(ø:St)(xs:Ã V)(P:Ĳ->Prop)(fp:Ã Ĳ)(env:ey)(sc:Sc)(TQ:Á->gk->Prop)(Da:Ĳ)(ϝ:gS Ë)(B1:PB)(ws:Ã Ĳ)(s1:ŕ)(n:Á)(s4:ŕ):Prop
 |mk (j:Á) (qW:St) (Bj:PB) (ft:Á->Ã Ĳ) (done:Ã V) (new:Ã Ë) (N6:Á) (aE:Ã V) (e:n=items.length-j) (hj:j<=items.length) (dH:ą t2 Ä (λσ=>(ß ϕ σ).map λx=>(x.1,x.2.2)) (items.drop j) qW=À (aE,ø)) (hr:xs=done++aE)
  (hK:Ok X.T (λa=>P a/\a∉fp) Bj env sc.dl sc.wl qW ft s4.heap) (CK:TQ j s4.heap) (hD:s4.heap.get? Da=À {cls:=.type "list",data:=.seq (ϝ++(new:Ã Ë)) N6}) (hv:ě Bj done new) (HL:Bj Da=Ä) (IL:∀b∈ws,Bj b=Ä) (nx:ŀ B1 Bj)
  (mT:∀a o,Bj a=À o->B1 a=À o\/P a) (hk:∀a o,a≠Da->s1.heap.get? a=À o->¬P a->s4.heap.get? a=À o) (hs:∃h tk,s4={s1 with heap:=h,toks:=tk})
def qp.two(hi:ox X k sc CJ hH f2 dG)(ht:ip sc CJ t2)(WL:SE X k sc Ż ϕ)(hs:∀env x,foldedSetIterable hH env x=pure x):
  qp X k sc 1 (vo t2 f2 dG ϕ) (A9 Ż JZ mA CJ hH scope pos):=by
 intro env he σ xs ø hf P B α A s Q E J ϝ nn EG hR K MY HL t hT Zh q;unfold vo at hf;apply ì<|Ϧ.1 hf;rintro⟨vs,Ø⟩ h1 hf;refine ì (Ϧ.1 hf) λitems h2 hf=>?_;dsimp only at h2 hf;unfold A9;refine Ü (mz ((hi env he σ vs Ø items h1 h2 P B α A s (λI s'=>hZ (aT X.prog X.w) A (.compStart (.ListComp Ż [⟨JZ,mA,[],0⟩,⟨CJ,hH,[],0⟩] scope pos) 1 I (.ref J) env) (λr s'=>match r with|.ok f=>Q () s'|.error e=>xg (aT X.prog X.w) A env E e s') s') E hR K) λI s1 B1 eI fp ws St S1 K1 D CK gi M i4 Zv uy=>?_) (λx s1 h=>Ü (ų (Ü (wpAny_of_eq (hs env x) (Ü (ϗ (mz h (λit s2 h2=>Ü (wpAny_runOwn (codeAny_mono h2 λr s3 hr=>by
   induction r with
   |ok f=>exact õ hr
   |error e=>exact hr))) λ_ _ h'=>h'))))))) λ_ _ h'=>h')
 have b1:B1 J=Ä:=by
  cases e:B1 J with
  |none=>rfl
  |some o=>
        rcases S1.new J o e with p|p
        .exact ÿ<|HL.symm.trans p
        .exact ó p t
 have Xs:J∉fp:=λh=>by
  rcases Zv J h with p|⟨o,ho⟩
  .exact t p
  .exact ÿ<|b1.symm.trans ho
 have N1:J∉ws:=λh=>Xs<|D.sub _ h;have Mj:∀b∈ws,X.T.get? b=Ä:=λb g=>K1.low b (M b g).1
 let R:Result->ŕ->Prop:=λr s'=>match r with|.ok f=>Q () s'|.error e=>xg (aT X.prog X.w) A env E e s'
 have HA:hZ (
          aT X.prog X.w) A (.compLoop (.ListComp Ż [⟨JZ,mA,[],0⟩,⟨CJ,hH,[],0⟩] scope pos) 1 (.ref I) (.ref J) env) R s1:=by
  refine uU (Rv X t2 ϕ items ø xs P fp env sc St J ϝ B1 ws s1) ?_ items.length ?_
  .intro n s4 hh;refine gn λG iD=>?_;obtain⟨j,qW,Bj,ft,done,new,N6,aE,en,hj,y,hr,K4,H,Un,lH,V8,IL,zd,Y,pP,Ou⟩:=hh;have O:Off env sc.dl qW ft ws:=K4.Hi i4.2.1 D.sub;by_cases sy:j<items.length
   .obtain⟨v,Co⟩:∃v,items[j]?=À v:=⟨items[j],by simp[sy]⟩
    rw[fH sy] at y;have Ru:items[j]=v:=by have:=Ų sy;rw[this] at Co;exact à Co
    rw[Ru] at y;obtain⟨FN,XB,m,OK,ys,e5,f1,e9,er⟩:=tK y;refine iD ?_;refine D.Ki (λ_ _=>rfl) Co H K4.base zd IL λval h' tk B5 J1 yE Mr C Fy Bp=>?_;have W:∀a,(
          ∃o,s4.heap.get? a=À o)->Bj a=Ä->B5 a=Ä:=λa ⟨o,ho⟩ g=>by
     cases e':B5 a with
     |none=>rfl
     |some o'=>
          rcases C a o' e' with p|p
          .exact ÿ<|g.symm.trans p
          .exact gC<|ho.symm.trans p
    refine yG (s:={s4 with heap:=h',toks:=tk}) ht hR.hd (K4.outside J1 (D.live _ _ Fy) O Mj yE Mr C) e5 Bp λs6 SI S6 K6=>?_;refine Ü<|(WL env he FN XB m OK f1).é _ B5 SI A s6 _ _ hR K6 λva s8 B8 Tg WC S8 K8 O8 _ _=>?_;have S:=S6.trans S8.toStep;have nb:∀a,B5 a=Ä->¬(P a/\a∉fp)->B8 a=Ä:=λa g hn=>by
     cases e':B8 a with
     |none=>rfl
     |some o'=>
          rcases S.new a o' e' with p|p
          .exact ÿ<|g.symm.trans p
          .exact ó p hn
    have b8:=nb J (W _ ⟨_,Un⟩ V8) λh=>t h.1;have T6:(ϝ++(new:Ã Ë)).size<=ee:=by
     rw[<-Ì,hY,eU,Ì,<-lH.length];exact ú (by exact(A4 0xf4240570280e3808126f42405712806) EG (show xs.length=done.length+(ys.length+1) by rw[hr,er,eU,kc]):ϝ.size+done.length<=1000000)<|by decide
    refine Ü<|Hh (S.kept _ _ (J1 _ _ N1 Un) λh=>t h.1) (λh9 YJ Xx=>õ ?_) T6;have KR:∀b o,b≠J->s8.heap.get? b=À o->h9.get? b=À o:=λb o g e=>(YJ.2 b g).trans e;refine⟨items.length-(j+1),by omega,j+1,OK,B8,Tg,done++[XB],new++[va],N6+1,ys,rfl,sy,e9,by rw[hr,er];simp,?_,?_,?_,?_,b8,?_,(zd.trans yE).trans S.le,?_,?_,?_⟩
    .refine K8.outside (ws:=[J]) (λb o g e=>KR b o (λe'=>g<|by rw[e'];exact .head _) e) (λb g=>by rw[Ċ] at g;subst b;exact⟨_,Xx⟩) ⟨λL=>?_,λx c hx L=>?_,λx i hx hi b g L=>?_,λx hx L=>by rw[Ċ] at L;exact t<|L▸(K8.ex x hx).1.1⟩
      (λb g=>by rw[Ċ] at g;subst b;exact hT) (.refl _) (λa o e=>KR a o (λe'=>by rw[e',b8] at e;exact ÿ e)<|K8.base a o e) λb o e=>.inl e
     .rw[Ċ] at L;exact t<|L▸K8.loc.2.1.1
     .rw[Ċ] at L;exact Zh x c hx L
     .rw[Ċ] at L;subst b;exact å (İ.1 hi) λw hw=>K8.Æ x i w.1 w.2 hx hw λu _ _ h3=>t (h3 _ g).1
    .exact D.frame _ _ _ Fy λb g o e=>KR b o (λL=>Xs<|L▸g)<|S.kept b o e λh=>h.2 g
    .exact Xx.trans<|Ù (λl=>À ({cls:=.type "list",data:=.seq l (N6+1)}:Obj))<|Array.ext'<|by rw[lE,hY,hY,ak]
    .exact((lH.mono yE).mono S.le).append<|.cons O8.vr .nil
    .exact λb g=>nb b (W b (D.live _ _ H b g)<|IL b g) λh=>h.2<|D.sub b g
    .intro a o e;rcases S.new a o e with p|p
     .rcases C a o p with Ue|Ue
      .exact Y a o Ue
      .exact .inr (K4.hi a Ue).1
     .exact .inr p.1
    .exact λa o y8 e n=>KR a o y8<|S.kept a o (J1 a o (λhw=>n (M a hw).1)<|pP a o y8 e n) λh=>n h.1
    .exact zm Ou λSP t1 e1=>zm S.eq λVq W7 e2=>⟨h9,W7,by rw[e2,e1]⟩
   .have Kc:j=items.length:=((A2 17733946576902) hj sy)
    rw[Kc,rP] at y;obtain⟨e1,e2⟩:aE=[]/\qW=ø:=by cases(show À ([],qW)=À (aE,ø) from y);exact⟨rfl,rfl⟩
    rw[e1,pH] at hr;rw[Kc] at H;rw[e2] at K4 O;refine iD ?_;refine D.done s4 _ _ H λh' tk hk=>?_;refine(?_:Q () _);refine q _ Bj ft new N6 [] (zm Ou λSP t1 e1=>zm S1.eq λVq W7 e2=>⟨h',tk,by rw[e1,e2]⟩) (λa o y8 e n=>hk a o (λhw=>n (M a hw).1)<|pP a o y8 (S1.kept a o e n) n) (S1.le.trans zd) (λa o e=>?_) (((K4.grow (λa h=>h.1) K.low).eS hk (λb g=>.inl (M b g).1) O Mj (.refl _) (λa o e=>hk a o (λhw=>by rw[IL a hw] at e;exact ÿ e)<|K4.base a o e) λa o e=>.inl e).grow (λa h=>⟨h,by simp⟩) λa h=>K.low a h.1) (hk _ _ N1 Un) (hr▸.frozen lH) λa h=>ϭ h
    .rcases Y a o e with p|p
     .exact S1.new a o p
     .exact .inr p
  .refine⟨0,Ø,B1,eI,[],[],nn,xs,by simp,Ϫ _,by simpa using hf,rfl,K1.shrink i4 gi,CK,?_,.nil,b1,λb g=>(M b g).2,.refl _,λa o e=>.inl e,λa o _ e _=>e,⟨s1.heap,s1.toks,rfl⟩⟩;rw[(S1.kept _ _ MY t)];congr 3
 exact tC HA<|D.self 0 _ _ _ CK HA
def yQ:ab c a t b (v::vs) σ=(c.ö v σ>>=λσ=>a σ>>=λx=>ą t Ä b x.1 x.2>>=λy=>ab c a t b vs y.2>>=λz=>À (y.1++z.1,z.2)):=rfl
def zD:Ĉ t Ä b (v::vs) σ=(t.ö v σ>>=λσ=>b σ>>=λx=>Ĉ t Ä b vs x.2>>=λy=>À (x.1++y.1,y.2)):=rfl
def vO(items:Ã V):∀(σ:St),ab t1 (λσ=>(ď dG σ).bind λx=>(f2 x.1).map λl=>(l,x.2)) t2 (λσ=>(ß ϕ σ).map λx=>(x.1,x.2.2)) items σ=
  Ĉ t1 Ä (vo t2 f2 dG ϕ) items σ:=by
 induction items with
 |nil=>exact λ_=>rfl
 |cons v vs ih=>
  intro σ;simp only[yQ,zD,vo];cases t1.ö v σ with
  |none=>rfl
  |some Ø=>
   simp;cases ď dG Ø with
   |none=>rfl
   |some x=>
    obtain⟨c,b⟩:=x;simp;cases f2 c with
    |none=>rfl
    |some l=>
     simp;cases ą t2 Ä (λσ=>(ß ϕ σ).map λx=>(x.1,x.2.2)) l b with
     |none=>rfl
     |some y=>
      obtain⟨f,a⟩:=y;simp;exact Å (ih a) rfl
end
def jl(w:∀i∈ġ.slots,i∈l)(t:qA em l)(items:Ã V):qA (Ĉ ġ Ä em items) l:=by
 induction items with
 |nil=>exact λσ a b h j f=>â (M:=λ_ b=>St.get b j=σ.get j) h rfl
 |cons v vs ih=>
  intro σ a b h j f;refine CI (js h) λp ok s y g c=>?_;simp at g;obtain⟨rfl,rfl⟩:=g;rcases c with⟨q,_⟩|⟨_,x,o,xs,m,A,_⟩
  .cases q
  .exact Å (ih _ _ _ A j f)<|Å (t _ _ _ m j f)<|Å (fX y j λq=>f<|w j q) rfl
section
variable{X:Cx}{k:Á}{sc š:Sc}{Fu:Á}
def SC.eZ{o f te b t:Expr}(š:Sc)
  (hi:dO X k sc te f f1 kp) (ht:ip š te t1) (D:ox X k š t b f2 dG) (J:ip š t t2) (WL:SE X k š o ϕ) (C:f9 sc š scope.names (t1.slots++t2.slots)=true)
  (hm:ba sc š (t1.slots++t2.slots++dY dG++Ŋ ϕ)=true)
  (hs:∀env x,foldedSetIterable f env x=pure x:=by intro _ _;rfl) (R:∀env x,foldedSetIterable b env x=pure x:=by intro _ _;rfl) (p:scope.kind=.function:=by rfl):
  SC X k sc o [⟨te,f,[],0⟩,⟨t,b,[],0⟩] scope pos (.eZ ϕ t1 f1 kp t2 f2 dG):=by
 intro env he σ v m w hv;refine vJ (M:=λv m=>Sn X k sc env o _ scope pos v m σ) hv λvs Ø items r dM h1 h2 y S=>?_;intro P B α A s Q E use hR K q;rw[vO] at y;refine la hi ht .no (qp.two D J WL R) (.inl rfl) Jl (.of C) hs p he h1 h2 y (λx i hx hn=>?_) (λ_=>S) hR K λs' B' H Da Ca ow mm S' K' O hP fr i4 W I L Qi=>?_
 .have g:=z6 hm hx hn;have key:=jl (l:=t1.slots++t2.slots++dY dG++Ŋ ϕ) (λi hi=>by simp[hi]) (λσ a w h j g=>by
   unfold vo at h;refine ì (Ϧ.1 h) ?_;rintro⟨us,Y⟩ g1 h;refine ì (Ϧ.1 h) λl g2 h=>?_;have e2:=cH (l:=t1.slots++t2.slots++dY dG++Ŋ ϕ) (λi hi=>by simp[hi]) (λc hc=>ÿ hc) (λσ a w h j g=>by
    refine ì (aG h) ?_;rintro⟨v,m,Y⟩ y h4;cases h4;exact eP ϕ _ _ _ _ y j<|nr g) l _ _ _ h j g
   exact Å e2<|Å (BU dG _ _ _ g1 j λq=>g<|by simp[q]) rfl) items _ _ _ y i g
  rw[key,aH,È λq=>g (by
   simp only[List.mem_append] at q⊢;exact .inl<|.inl q)]
 .cases O with
  |one hl hB G=>exact q s' B' H Da Ca mm S' K' (.one hl hB G) (hP Da<|.head _) fr i4 (λe=>W Da (.head _) e.symm) I L Qi
def SX.mS{h t b:Expr}(hx:sc.δ.lookup x=À i)(hw:sc.wr.contains x=true)
  (hi:dO X k sc t b f ϝ) (ht:ip (sr sc scope [t] ġ.slots) t ġ) (S:SE X k (sr sc scope [t] ġ.slots) h ϕ) (C:f9 sc (sr sc scope [t] ġ.slots) scope.names ġ.slots=true) (G:ba sc (sr sc scope [t] ġ.slots) (ġ.slots++Ŋ ϕ)=true)
  (hs:swapsWith (.ListComp h [⟨t,b,[],0⟩] scope pc) (À<|.Name x p') pos.line (uR sc.kinds)=pure true)
  (H:∀env x,foldedSetIterable b env x=pure x:=by intro _ _;rfl) (v:scope.kind=.function:=by rfl):
  SX X k sc Fu (.Assign [.Name x p'] (.ListComp h [⟨t,b,[],0⟩] scope pc) pos) (.mS i ϕ ġ f ϝ):=by
 intro env he σ o M hv;refine H6 hv λvs Ø items r dM h1 h2 h3 Vx=>?_;intro P B α A s Q E hR K q;refine Å (F8 _ _ _ _<|Nd he K.kind hs) ?_;refine Ü<|ų<|Ü ?_;refine(?_:ϛ _ A (do let _<-nK (.ListComp h [⟨t,b,[],0⟩] scope pc) scope env (Gv [⟨t,b,[],0⟩] pc) (nF []) (DV [⟨t,b,[],0⟩]) (firstIter [⟨t,b,[],0⟩] env) (À<|assign (.Name x p') env)) _ _ s);apply Ü<|la hi ht .no (qp.own S) (.inr rfl) zS (.of C) H v he h1 h2 h3 (λy j hy hn=>?_) (λ_=>Vx) hR K λs' B' I Da R ow mm S' K' O hP fr g y8 J W Qi=>?_
 .have m:=z6 G hy hn;have key:=jl (l:=ġ.slots++Ŋ ϕ) (λi hi=>æ.2<|.inl hi) (λσ a M hh j m=>by
   exact ì (qN hh) λys g1 _=>eP ϕ _ _ _ _ g1 j<|nr m) items _ _ _ h3 j m
  rw[key,aH,È λq=>m<|yT _ q]
 .refine(?_:ϛ _ A (assign (.Name x p') env<|.ref Da) _ _ _);apply wpAny_assign_Name<|eQ K' hw hx O hP fr λs2 Y S2 K2=>?_;have ZS:s2.heap.Ns R mm:=J.at' λo e=>Y R o (λe=>g.1<|Đ e<|.head _) (λy c hc e=>g.2.1 y c hc<|Đ e<|.head _) e;refine⟨mm,ZS,λh' L=>?_⟩;have w:Off env sc.dl (dM.ö i (.Ñ r) 2) (λj=>if j=i then Da::ow else I j) [R]:=by
   refine⟨g.1,g.2.1,λy j hy m a D G=>?_,g.2.2.2⟩;rw[Ċ] at G;subst G;by_cases p:j=i
   .subst p;simp only[sJ] at D;exact y8 _ D rfl
   .simp only[È p] at D;rw[ŋ p] at m;exact g.2.2.1 y j hy m _ D<|.head _
  exact Ö (λK3 S3=>õ<|õ<|q .next _ B' _ ((S'.toStep.trans S2).trans S3.toStep) K3 .next)<|yq K2 w W Qi L
def SC.Ld{f b c a t:Expr}
 (hi:dO X k sc c b f1 kp) (p:ip (sr sc scope [c,t]<|t1.slots++t2.slots) c t1) (j:ox X k (sr sc scope [c,t]<|t1.slots++t2.slots) t a f2 dG) (g:ip (sr sc scope [c,t]<|t1.slots++t2.slots) t t2) (m:SE X k (sr sc scope [c,t]<|t1.slots++t2.slots) f ϕ) (C:f9 sc (sr sc scope [c,t]<|t1.slots++t2.slots) scope.names (t1.slots++t2.slots)=true)
 (q:ba sc (sr sc scope [c,t]<|t1.slots++t2.slots) (t1.slots++t2.slots++dY dG++Ŋ ϕ)=true)
 (o:∀env x,foldedSetIterable b env x=pure x:=by intro _ _;rfl) (s:∀env x,foldedSetIterable a env x=pure x:=by intro _ _;rfl) (h:scope.kind=.function:=by rfl):
 SC X k sc f [⟨c,b,[],0⟩,⟨t,a,[],0⟩] scope pos (.eZ ϕ t1 f1 kp t2 f2 dG):=.eZ _ hi p j g m C q o s h
end
section
variable{X:Cx}{k:Á}{sc:Sc}{Fu:Á}
set_option backward.match.sparseCases true in
def oO{params:Ã Str}{own:Ã Ĳ}{Q E:Ë->ŕ->Prop}
  (ho:B f=À o) (hd:o.data=.func fd) (R:s.heap.CodeRec fd.code fd.qualname) (M:fd.body=.stmts body)
  (GK:fd.closure=cl) (hg:fd.globals=ż) (L6:fd.builtins=br) (O:lO fd ⟨vals,[]⟩=pure (params.zip vals)) (hk:fd.scope.names=sc.kinds) (H:fd.scope.kind=.function)
  (Qa:fd.scope.isCoroutine=false) (W:fd.scope.isGenerator=false) (G:∀x∈sc.kinds,x.2≠.cell) (J:∀x∈params,sc.kinds.lookup x=À .local) (ZJ:params.Nodup) (uy:vals.length=params.length)
  (Yr:∀x,sc.wr.contains x=true->sc.kinds.lookup x=À .local) (WQ:(sc.δ.map (·.2)).Nodup)
  (hR:ţ (k+1) A) (top:∀a o,X.T.get? a=À o->s.heap.get? a=À o) (hB:ŀ B s.heap.get?) (S:∀a∈bS,cg B s.heap a/\X.T.get? a=Ä) (lH:ě B vs vals)
  (Kl:∀x y c,cl.lookup x=À c->cl.lookup y=À c->x=y) (K:∀x c,cl.lookup x=À c->∃v,s.heap.IsCell c v) (L:∀x,sc.kinds.lookup x=À .free->∃c,cl.lookup x=À c)
  (Wl:∀x i v m,sc.δ.lookup x=À i->σ0.get i=À (v,m)->(params[i]?=À x/\vs[i]?=À v/\m=0/\α0 i=[])\/∃c val,sc.kinds.lookup x=À .free/\(x==("__classdict__":Str))=false/\cl.lookup x=À c/\s.heap.IsCell c (À val)/\ĭ s.heap B v m val (α0 i)/\∀a∈α0 i,a∈own)
  (ZN:∀i j,i≠j->∀a∈α0 i,a∉α0 j) (Y:∀a∈own,X.T.get? a=Ä)
  (q:∀env t tk,env.scope.names=sc.kinds->env.cells=cl->env.locals=s.heap.objs.size->ţ k (A.deeper env)->Ok X.T (λb=>s.heap.get? b=Ä\/b∈bS\/b∈own) B env sc.dl sc.wl σ0 α0 t->(∀b o,s.heap.get? b=À o->t.get? b=À o)->
   ϛ (aT X.prog X.w) (A.deeper env) (execs body env) (λf s'=>Q (match f with|.ret v=>v|_=>.none) s')
    (λe s'=>ϛ (aT X.prog X.w) (A.deeper env) (leaving env e) (λ_ P=>E e P) (λe' P=>E e' P) s') {s with heap:=t,toks:=tk}):
  wq X A (call (.ref f) vals) Q E s:=by
 apply wpAny_call;have hz:(params.zip vals).map (·.1)=params:=by rw[List.map_fst_zip];exact(A2 16777510) uy
 apply codeAny_call_def (by unfold sL;exact(A2 0x3e8370138437e180816) hR.depth) (hB _ _ ho) hd (X.lim.keeps top) R M (.of_eq O) (Å hk G) (λx hx=>?_) (λt KU keep=>?_) Qa W H
 .exact Å hk<|J _<|Đ hz<|Hu hx
 generalize C:callEnv fd s.heap.objs.size f=env;have eL:env.locals=s.heap.objs.size:=Đ C rfl;have en:env.scope.names=sc.kinds:=Đ C hk;have ek:∀y,env.kindOf y=sc.kinds.lookup y:=λy=>by unfold bC;exact Å en rfl
 have ec:env.cells=cl:=Đ C GK;have hn:∀{b},s.heap.get? b=Ä->B b=Ä:=λ{b}g=>by
  cases e:B b with
  |none=>rfl
  |some o=>rw[hB _ _ e] at g;exact gC g
 apply q env t _ en ec eL hR.deeper ?_ keep;refine{top:=λb o e=>keep b o<|top b o e,low:=λb g=>?_,hi:=λb g=>?_,base:=λb o e=>keep b o<|hB b o e,kind:=(Đ C H),glob:=Đ C<|⟨hg,L6⟩,loc:=⟨⟨_,Å eL KU⟩,Å eL<|.inl<|ĉ _,Å eL<|hn<|ĉ _⟩,cells:=λy z c D I=>?_,Ė:=λy c hc=>?_,ϓ:=λy D=>?_,wrs:=λy D=>.inl<|Å (ek ..)<|Yr y<|by simpa using D,inj:=λy z i D I=>k8 WQ y z i (mem_of_lookup D)<|mem_of_lookup I,vars:=λy i w m D hi=>?_,apart:=λ_ _ i j _ _ Ap _ _=>ZN i j Ap,ex:=λb g=>(let e:=(S b g).1;⟨.inr<|.inl g,e.go (keep b) (.refl _) e.fresh⟩)}
 .rcases g with g|g|g
  .cases e:X.T.get? b with
   |none=>rfl
   |some o=>rw[top b o e] at g;exact gC g
  .exact(S b g).2
  .exact Y b g
 .left;cases e:s.heap.get? b with
  |none=>rfl
  |some o=>rw[keep b o e] at g;exact gC g
 .rw[ec] at D I;exact Kl y z c D I
 .rw[ec] at hc;exact å (K y c hc) λv hv=>⟨v,hv.keeps keep⟩
 .rw[ek] at D;rcases D with D|D
  .exact ó rfl<|G _<|mem_of_lookup D
  .exact Å ec<|L y D
 .rcases Wl y i w m D hi with⟨h1,h2,rfl,h4⟩|⟨c,val,h1,h2,h3,h4,h5,h6⟩
  .refine ì (lH.at_ h2) λval LD Bp=>?_;refine⟨val,.inl ⟨by rw[ek];exact J y<|Ŕ h1,_,by rw[eL];exact KU,?_⟩,by rw[h4];exact .z Bp,λa ha=>by rw[h4] at ha;cases ha⟩;have Sj:((params.zip vals).reverse.map (·.1)).Nodup:=by rw[List.map_reverse,hz];exact List.pairwise_reverse.2 (List.Pairwise.imp (λh e=>h e.symm) ZJ)
   have look:∀{l:Ã (Str×Ë)},(l.map (·.1)).Nodup->(y,val)∈l->l.lookup y=À val:=by
    intro l
    induction l with
    |nil=>intro _ h;exact ϭ h
    |cons p r ih=>
     intro hn hm;rw[mC,List.nodup_cons] at hn;obtain⟨a,b⟩:=p;rw[List.lookup_cons];rcases ő.1 hm with e|hm
     .cases e;simp
     .rw[(Š.2 λe=>hn.1<|by rw[<-e];exact Hu (f:=(·.1)) hm)];exact ih hn.2 hm
   exact look Sj<|l8.2<|Au h1 LD
  .refine⟨val,.inr ⟨.inr ⟨by rw[ek];exact h1,h2⟩,c,by rw[ec];exact h3,h4.keeps keep⟩,h5.ext ⟨keep,.refl _,λa o e=>keep a o<|hB a o e,λ_ _ e=>.inl e⟩,λa ha=>.inr<|.inr<|h6 a ha⟩
def SX.WI:SX X k sc Fu (.Return Ä p) (.ret<|.c .none):=by
 intro env f σ o a v;refine za v λx m Ø h=>BM (M:=λx _ Ø=>Ex X k env sc.dl sc.wl σ _ (.ret x) Ø) h ?_;intro P B b A s Q E R K q;exact wpAny_Return_none<|q _ s B b (.refl _ _ _) K<|.ret .none
end
inductive jO(X:Cx)(c P:Ĳ):Prop
 |mk (o:Obj) (vs:gS Ë) (Nr:Str) (tf:Tok) (Hx:Â) (tg:Tok) (Ta:Ò) (text:Â) (tt:Tok) (ho:X.T.get? c=À o) (hd:o.data=.fields vs) (Xk:vs.getD 11 .none=.ref P) (XQ:vs.getD 18 .none=.str Nr tf)
  (h7:vs.getD 7 .none=.int Hx tg) (h9:vs.getD 9 .none=.bool Ta) (XT:vs.getD 10 .none=.int text tt) (Xh:c≠P) (Rm:o.cls=.type "code") (RC:vs[11]?=À (.ref P))
inductive bB(X:Cx):Prop
 |mk (bm:Ĳ) (o:Obj) (h:X.mg "__builtins__"=À (.ref bm)) (y8:bm≠br) (ho:X.T.get? bm=À o) (hc:o.cls=.type "module") (hd:o.dict=À br) (hp:o.data=.plain)
noncomputable def kM(name q:Str)(params:Arguments)(body:Ã DA)(scope:pn)(cl:Ã (Str×Ĳ))(c code p:Ë):j1:=
 {name:=name,qualname:=q,params:=params,body:=.stmts body,scope:=scope,globals:=ż,closure:=cl,closureTuple:=c,code:=code,builtins:=br,defaults:=.none,kwdefaults:=.none,annotations:=Ä,pyModule:=p,doc:=.none}
section
variable{X:Cx}{k:Á}{sc:Sc}{Fu:Á}
def qY(x:nY)(hx:x∈jH)
  (H:env.code=.ref c) (hC:jO X c x.a) (W5:x.line=pos.line) (X8:x.col=pos.col) (hu:∀y∈jH,y.a=x.a->y=x) (hq:yi env name name=x.q) (VX:docOf body=Ä) (W:PlainDefTree name params body scope pos) (BI:bB X)
  (he:env.scope.names=sc.kinds) (YO:sc.δ.lookup name=À i) (hw:sc.wr.contains name=true) (Qu:∀y,(y,Ő)∈scope.names->sc.kinds.lookup y=À .cell\/sc.kinds.lookup y=À .free) (y8:∃y,(y,Ő)∈scope.names)
  (K:Ok X.T P B env sc.dl sc.wl σ α s.heap)
  (q:∀f fo cl R code pm s' B' qr,Step P s s' B B'->Ok X.T P B' env sc.dl sc.wl (σ.ö i (.fn f) 0) qr s'.heap->(∀j,j≠i->qr j=α j)->B' f=À fo->fo.data=.func (kM name x.q params body scope cl R code pm)->
   (∀y c,cl.lookup y=À c->env.cells.lookup y=À c)->(∀y,(y,Ő)∈scope.names->∃c,cl.lookup y=À c)->(∀h:gk,ŀ B' h.get?->h.CodeRec code x.q)->Q .next s'):
  wq X A (exec (.FunctionDef name params body [] Ä [] scope Ä name pos) env) Q E s:=by
 obtain⟨cl,Kl,oF,O⟩:=je (env:=env) (scope:=scope) λy hy=>K.ϓ y (by
  unfold bC;exact Å he<|Qu y hy)
 have UI:cl.isEmpty=false:=by
  refine å y8 λy hy=>?_;refine å (O y hy) λc hc=>?_
  induction cl with
  |nil=>simp at hc
  |cons _ _=>rfl
 have X9:x.a∈bS:=mem_map_of_mem hx;refine Ö (λZc e=>?_)<|K.ex _ X9;obtain⟨bm,bo,Y1,Vn,Z9,EU,Zi,T3⟩:=BI;obtain⟨o,vs,Nr,tf,Hx,tg,Ta,text,tt,ho,hd,Xk,XQ,h7,h9,XT,Xh,Rm,RC⟩:=hC;have ng:∀{S:gk},(∀a o,X.T.get? a=À o->S.get? a=À o)->S.Ns env.globals X.mg:=λhk=>Å K.glob.1<|X.ng.keeps hk;have nT:∀a o,X.T.get? a=À o->a≠x.a:=λa o g h=>by rw[h,K.low _ Zc] at g;exact ÿ g
 have tail:∀(c':Ë)(R:Ë)(C:gk)(tk:Á)(B1:PB),Gp s.heap C B B1->(∀a∈bS,cg B1 C a)->(∀h:gk,ŀ B1 h.get?->h.CodeRec c' x.q)->(∀a o,X.T.get? a=À o->C.get? a=À o)->
   wq X A (do
    let b<-builtinsFor env.globals env.builtins
    let pm<-nsGet env.globals "__name__"
    newObj (.type "function") (.func {name:=name,qualname:=x.q,params:=params,body:=.stmts body,scope:=scope,globals:=env.globals,closure:=cl,closureTuple:=R,code:=c',builtins:=b,defaults:=.none,kwdefaults:=.none,annotations:=Ä,pyModule:=pm.getD .none,doc:=.none}))
    (λf s1=>wq X A (do bc pos;bindName env name f;pure Flow.next) Q E s1) E {s with heap:=C,toks:=tk}:=by
  intro c' R C tk B1 x1 ZV Y D;refine Ü<|wpAny_builtinsFor (ng D) Y1 Vn (D _ _ Z9) EU Zi T3 ?_;refine Ü<|wpAny_nsGet (ng D) ?_;refine wpAny_newObj_type ?_ (by size_fits);have K1:=K.Io x1 ZV;generalize NM:({cls:=.type "function",data:=.func {name:=name,qualname:=x.q,params:=params,body:=.stmts body,scope:=scope,globals:=env.globals,closure:=cl,closureTuple:=R,code:=c',builtins:=br,defaults:=.none,kwdefaults:=.none,annotations:=Ä,pyModule:=(X.mg "__name__").getD .none,doc:=.none}}:Obj)=fo;have NC:fo.data=.func (kM name x.q params body scope cl R c'<|(X.mg "__name__").getD .none):=by refine Đ NM ?_;unfold kM;exact Å K.glob.1 rfl
  have x2:kQ C (C.push fo) B1 (B1.push C.objs.size fo):=kN K1.base fo<|Đ NM rfl;have K2:=K1.ext x2;refine Ü<|ų<|Ü<|wz<|eQ (s:={s with heap:=C.push fo,toks:=tk}) K2 hw YO (.z<|.fn (PB.cS _ _ _) NC) (λ_ h=>ϭ h) (λ_ _ _ _ _ h=>ϭ h) λs3 VW S3 K3=>õ ?_;refine q C.objs.size fo cl R c' _ s3 _ _ (Step.trans (s':={s with heap:=C.push fo,toks:=tk}) ⟨⟨_,_,rfl⟩,λa m g n=>x2.keep a m<|x1.keep a m (λhm=>n (K.ex a hm).1) g,x1.le.trans x2.le,λa m g=>?_⟩ S3) K3 (λj hj=>È hj) (PB.cS _ _ _) NC oF O λh hh=>Y h<|x2.le.trans hh
  .rcases x2.new a m g with q'|q'
   .exact(x1.new a m q').imp id<|K.hi a
   .exact .inr<|K1.hi a q'
 refine Å (W ..)<|Å (hq ..) ?_;simp only[makeFunction,zip_nil_right,filterMap_nil,isEmpty_nil,sJ,pure_bind,Kl,UI,aX,jz,VX];refine Ü<|ų<|Ü<|ϗ ?_;refine Ü<|wpAny_newTextTuple ?_;generalize IJ:({cls:=.type "tuple",data:=.seq (map (λx=>aD x.snd)<|cl.mergeSort λa b=>decide<|a.fst.cps.toList<=b.fst.cps.toList).toArray}:Obj)=M;refine gn λG iD=>?_;have x0:kQ s.heap (s.heap.push M) B B:=ό K.base M;refine H4 e.tab λo1 ps Xd Y4 I TC=>?_;have v:∀a o,X.T.get? a=À o->(s.heap.push M).get? a=À o:=λa o g=>x0.keep a o<|K.top a o g;have Xw:∀(Xf:TriplesOk ps.toList),(s.heap.push M).IsCode c x.a ps:=λXf=>⟨o,vs,Nr,tf,Hx,tg,Ta,text,tt,o1,v _ _ ho,hd,Xk,XQ,h7,h9,XT,x0.keep _ _ Xd,Y4,Xf,Xh⟩
 have L:∀a∈bS,cg B (s.heap.push M) a:=λa t=>(K.ex a t).2.go (x0.keep a) (.refl _) (K.ex a t).2.fresh;rcases I with rfl|⟨y,hy,Y3,c1,rfl,Y⟩
 .refine iD<|Ü<|wpAny_functionCodeX (s:={s with heap:=s.heap.push M}) H (Xw trivial) ⟨⟨o,vs,v _ _ ho,Rm,hd,RC⟩,x0.keep _ _<|Xd.trans<|Ù À TC⟩ rfl λc' S tk J Ym MQ Ve Wu YU _=>?_;clear iD;refine gn λG iD=>?_;obtain⟨cc,oc,XU,tc,ec,ZX,XI,Xv⟩:=Wu;injection ec with e;subst e
  have p:(s.heap.push M).get? c'=Ä:=d6 Ym;have Tr:B c'=Ä:=by
   cases g:B c' with
   |none=>rfl
   |some m=>rw[x0.HP _ _ g] at p;exact gC p
  have nx:ŀ B (B.push c' oc):=PB.z5 Tr;have X6:∀a∈bS,(B.push c' oc) a=Ä:=λa t=>by
   unfold PB.push;exact Å (È λh=>(by refine å ((L a t).alive) λ_ S=>?_;rw[h,p] at S;exact ÿ S))<|(L a t).fresh
  refine iD<|tail (.ref c') _ S tk (B.push c' oc) ⟨λa m hm g=>J a m (λh=>hm<|h▸X9)<|x0.keep a m g,nx,λa m g=>?_,λa m g=>?_⟩ (λa t=>?_) (λh hh=>⟨c',oc,XU,tc,rfl,hh _ _<|PB.cS _ _ _,XI,Xv⟩) λa m g=>J a m (nT a m g)<|v a m g
  .unfold PB.push at g;by_cases t:a=c'
   .rw[ť t] at g;obtain rfl:=à g;exact Å t ZX
   .rw[È t] at g;exact J a m (λh=>by rw[h,e.fresh] at g;exact ÿ g)<|x0.HP a m g
  .unfold PB.push at g;by_cases t:a=c'
   .right;refine Å t ?_;cases g:s.heap.get? c' with
    |none=>rfl
    |some m=>rw[x0.keep _ _ g] at p;exact gC p
   .rw[È t] at g;exact .inl g
  .by_cases XP:a=x.a
   .subst XP;exact⟨X6 _ t,_,_,YU.2,rfl,.inr ⟨x,hx,rfl,c',Å W5<|Å X8 rfl,λh hh=>⟨c',oc,XU,tc,rfl,hh _ _<|PB.cS _ _ _,XI,Xv⟩⟩,rfl⟩
   .exact(L a t).go (λm g=>J a m XP g) nx<|X6 a t
 .have Jh:=hu y hy Y3;subst Jh;exact iD<|Ü<|wpAny_functionCode_hit (s:={s with heap:=s.heap.push M}) (c':=.ref c1) H (Xw<|by simp[TriplesOk,rawInt]) (by simp[codeAmong,rawInt,W5,X8])<|tail (.ref c1) _ _ s.toks B ⟨λa m _ g=>x0.keep a m g,.refl _,x0.HP,λa m g=>.inl g⟩ L Y v
end
def jM(n k x:Á):Ď n (k+1) x=((x%2^n:Á):Â)::Ď n k (x/2^n):=rfl
def gw(n:Á):∀m x,(Ď n m x).length=m:=by
 intro r0
 induction r0 with
 |zero=>exact λ_=>rfl
 |succ m ih0=>exact λx=>Ù (·+1)<|ih0 _
def kg(n:Á):∀(m k x:Á),Ď n m (x%2^(n*(m+k)))=Ď n m x:=by
 intro r0
 induction r0 with
 |zero=>exact λ_ _=>rfl
 |succ m ih0=>
  intro k x;have e:n*(m+1+k)=n*(m+k)+n:=by refine Å (Ű ..)<|Å (Ű ..)<|Å (Ű ..) ?_;exact(A3 5075904306546818)
  simp only[jM];have h:x%2^(n*(m+1+k))/2^n=(x/2^n)%2^(n*(m+k)):=by
   rw[e,Nat.add_comm,lI];exact Nat.mod_mul_right_div_self _ _ _
  rw[(Nat.mod_mod_of_dvd _<|Nat.pow_dvd_pow 2<|by rw[e];exact(A2 6144)),h,ih0 k]
def uf(n:Á):∀(m1 m2 x:Á),Ď n (m1+m2) x=Ď n m1 (x%2^(n*m1))++Ď n m2 (x/2^(n*m1)):=by
 intro r0
 induction r0 with
 |zero=>intro m2 x;rw[ů,Nat.mul_zero,Nat.pow_zero,Nat.div_one];rfl
 |succ m1 ih0=>
  intro m2 x;have h:=kg n (m1+1) 0 x;rw[Nat.add_zero] at h;refine Å h (Å (show m1+1+m2=(m1+m2)+1 by exact(A2 0xe10881e0882)) ?_);simp only[jM,List.cons_append];refine Å (ih0 m2<|x/2^n) ?_;have a:=kg n m1 0<|x/2^n;rw[Nat.add_zero] at a;rw[a,Nat.div_div_eq_div_mul,<-lI,show n*(m1+1)=n+n*m1 by rw[Ű];exact(A2 6460387458)]
def mi(n x L m:Á)(vs:Ã V):Ã V:=vs.take L++(Ď n m x).map .int++vs.drop (L+m)
def mq(h:L+m<=vs.length):(mi n x L m vs).length=vs.length:=by
 unfold mi;simp only[eU,eD,É,gw,bO];exact(A4 0x102819038821322117232120786102806) h<|Aj _ _
def FE(h:L<vs.length)(hx:x<2^n):mi n x L 1 vs=vs.set L (.int x):=by
 unfold mi;simp only[jM,show Ď n 0 (x/2^n)=[] from rfl,mC,map_nil,bR hx];refine Å set_eq_take_append_cons_drop<|Å (ť h) ?_;simp
def E7(h:L+(m1+m2)<=vs.length):mi n (x/2^(n*m1)) (L+m1) m2 (mi n (x%2^(n*m1)) L m1 vs)=mi n x L (m1+m2) vs:=by
 unfold mi;have a:(vs.take L++(Ď n m1<|x%2^(n*m1)).map V.int).length=L+m1:=by
  simp[gw];exact(A5 0x102202121710221078624381806) h<|Aj _ _
 have b:((vs.take L++(Ď n m1<|x%2^(n*m1)).map V.int)++vs.drop (L+m1)).take (L+m1)=vs.take L++(Ď n m1<|x%2^(n*m1)).map V.int:=by
  exact Đ a take_left
 have t:((vs.take L++(Ď n m1<|x%2^(n*m1)).map V.int)++vs.drop (L+m1)).drop (L+m1+m2)=vs.drop (L+(m1+m2)):=by
  refine Đ f3 ?_;have:((vs.take L++(Ď n m1<|x%2^(n*m1)).map V.int)++vs.drop (L+m1)).drop (L+m1)=vs.drop (L+m1):=by
   conv=>lhs;rw[<-a]
   exact(drop_left ..).trans<|by rw[a]
  rw[this,f3,show L+m1+m2=L+(m1+m2) by exact(A3 2302238853250)]
 rw[b,t,uf,bG];simp[ak]
def JA(x s:Á):x&&&(x/2^s*2^s)=x/2^s*2^s:=by
 apply Nat.eq_of_testBit_eq;intro i;refine Å (Nat.testBit_and ..)<|Å (fY ..)<|Å (Nat.testBit_two_pow_mul ..)<|Å (Nat.testBit_div_two_pow ..) ?_;by_cases h:s<=i
 .simp[h,(show i-s+s=i by exact(A2 73173958918) h)]
 .simp[h]
def xf(a b:Á):ck (a:Â) (b:Â)=((a&&&b:Á):Â):=by
 unfold ck;simp
def xE(x s:Á):Hv (x:Â) ((x/2^s*2^s:Á):Â)=((x%2^s:Á):Â):=by
 refine Å (bitXor_and ..)<|Å (xf ..)<|Å (JA ..) ?_;have:=ł x<|2^s;rw[fY] at this;exact(A3 0x2d1d21a1d0d895021826) this
def ir(a b:Á):Ey (a:Â) (b:Â)=((a/b:Á):Â):=by
 exact Int.ofNat_fdiv a b▸rfl
def ah(n i:Á):DA:=(Þ<|Ê n).getD i<|.Pass ⟨0,0,0,0⟩
noncomputable def uo:DA->Arguments
 |.FunctionDef _ a _ _ _ _ _ _ _ _=>a
 |_=>⟨[],[],Ä,[],[],Ä,[]⟩
noncomputable def iV:DA->pn
 |.FunctionDef _ _ _ _ _ _ s _ _ _=>s
 |_=>{kind:=.function,names:=[],isGenerator:=false,isCoroutine:=false}
noncomputable def KZ:DA->o6
 |.FunctionDef _ _ _ _ _ _ _ _ _ p=>p
 |_=>⟨0,0,0,0⟩
def iH(a:Ã DA):∀(l2:Ã DA),execs (a++l2) env=(execs a env>>=λf=>match f with|.next=>execs l2 env|f=>pure f):=by
 induction a with
 |nil=>exact λ_=>(pure_bind ..).symm
 |cons s a ih=>
  intro l2;rw[ti,wK,wK,LawfulMonad.bind_assoc];apply Ù (λt=>exec s env>>=t)<|funext λf=>?_
  induction f with
  |next=>exact ih l2
  |brk=>simp
  |cont=>simp
  |ret v=>simp
def bX:Sc:={kinds:=ŵ<|ah 10 1,δ:=[("x",0),("L",1),("R",2),("mid",3),("shift",4),("upper",5),("lower",6),("a_digits",7),("n",8),("inner",9)],wr:=["x","L","R","mid","shift","upper","lower"]}
noncomputable def EN:Ã PS:=
 [.Ŗ (.cmp .Eq (.Õ .Add (.Æ 1)<|.c<|.int 1)<|.Æ 2) [.ö 7 (.Æ 1) (.Æ 0),.ret<|.c .none] [],.î 3<|.Õ .RShift (.Õ .Add (.Æ 1)<|.Æ 2)<|.c<|.int 1,.î 4<|.Õ .Mult (.Õ .Sub (.Æ 3)<|.Æ 1)<|.Æ 8,.î 5<|.Õ .RShift (.Æ 0)<|.Æ 4,.î 6<|.Õ .BitXor (.Æ 0)<|.Õ .LShift (.Æ 5)<|.Æ 4]
section
variable{X:Cx}{k:Á}
def Kz:SS X k bX 50 ((Þ<|ah 10 1).take 5) EN:=by
 apply SS.cons
 .refine .Ŗ ?_ ?_ .nil
  .refine .cmp ?_<|.name rfl
   .refine .eR ?_ .mP
    .exact .name rfl
  .refine .cons ?_<|.cons .WI .nil
   .exact .ö rfl (.name rfl)<|.name rfl
 .refine .cons ?_ ?_
  .refine .î rfl rfl ?_
   .refine .eR ?_ .mP
    .exact .eR (.name rfl)<|.name rfl
  .refine .cons ?_ ?_
   .refine .î rfl rfl ?_
    .refine .eR ?_<|.name rfl
     .exact .eR (.name rfl)<|.name rfl
   .refine .cons ?_ ?_
    .refine .î rfl rfl ?_
     .exact .eR (.name rfl)<|.name rfl
    .refine .cons ?_ .nil
     .refine .î rfl rfl ?_
      .refine .eR (.name rfl) ?_
       .exact .eR (.name rfl)<|.name rfl
end
noncomputable def NF(x L R:Á)(vs:Ã V)(n:Á)(f:Ĳ)(a b c d:Ï (V×Á)):St:=
 [À (.int x,0),À (.int L,0),À (.int R,0),a,b,c,d,À (.Ñ vs,1),À (.int n,0),À (.fn f,0)]
def Bl(h:L+1=R)(a:L<vs.length)(v:vs.length<=1000000):
  ċ 50 EN (NF x L R vs n f Ä Ä Ä Ä)=À (.ret .none,NF x L R (vs.set L<|.int x) n f Ä Ä Ä Ä):=by
 subst h;have b:Č vs.length (L:Â)=À L:=by unfold Č;refine Å (ť ⟨v,by exact(A1 3571),((A2 7798525974) a)⟩) ?_;simp
 have t0:Ĥ .Eq (.int<|(L:Â)+1) (.int ((L+1:Á):Â))=À true:=Ù À (show((L:Â)+1==((L+1:Á):Â))=true by simp);exact ra<|oW (Ă (Û (Ç rfl) ļ rfl) (Ç rfl) t0) rfl<|eh (KQ (Ç rfl) rfl (Ç rfl) rfl b)<|mK ļ
def bx{a:Á}(h:a<2^8000):Ĕ (a:Â)=true:=by
 unfold Ĕ;simp;by_cases b:a=0
 .subst b;decide
 .exact(Wy b).2 h
def Bw(j:L+1≠R)(a:L<R)(hx:x<2^(n*(R-L)))(b:n*(R-L)<=8000)(D:n<=4000)(h:R<=1000):
  ċ 50 EN (NF x L R vs n f Ä Ä Ä Ä)=À (.next,NF x L R vs n f (À (.int ((L+R)/2:Á),0)) (À (.int (n*((L+R)/2-L):Á),0)) (À (.int (x/2^(n*((L+R)/2-L)):Á),0))<|À (.int (x%2^(n*((L+R)/2-L)):Á),0)):=by
 have e:((L:Â)+1==(R:Â))=false:=by simp;exact(A2 0x1de0d8591e08296) j
 have A:((L:Â)+(R:Â)).fdiv (2^(1:Â).toNat)=(((L+R)/2:Á):Â):=by
  have:=ir (L+R) 2;simpa using this
 have p:(((L+R)/2:Á):Â)-(L:Â)=(((L+R)/2-L:Á):Â):=(A2 4676347734851846)<|(A4 0x120f21722173180283121a82760216) a<|dm _ 2
 have s:n*((L+R)/2-L)<=8000:=ú (ϥ n<|(A4 0x1091290f21722173180183221a8276)<|dm _ 2) b;have J:(((L+R)/2-L:Á):Â)*(n:Â)=((n*((L+R)/2-L):Á):Â):=by refine Å (fY ..) ?_;simp
 generalize P:n*((L+R)/2-L)=S at*;have O:Ey (x:Â) (2^((S:Â)).toNat)=((x/2^S:Á):Â):=by
  simpa using(ir x<|2^S)
 have c:(0:Â)<=(S:Â):=by exact(A1 3571)
 have K:ü .RShift (.int<|(L:Â)+(R:Â)) (.int 1)=À (.int (((L+R)/2:Á):Â),0):=by show(if(0:Â)<=1 then À (V.int<|((L:Â)+(R:Â)).fdiv<|2^(1:Â).toNat,0) else Ä)=_;exact Å (ť<|by decide)<|Å A rfl
 have G:ü .Mult (.int (((L+R)/2-L:Á):Â)) (.int (n:Â))=À (.int (S:Â),0):=by
  exact(Å (bx<|dU (show(L+R)/2-L<=1000 by exact(A4 0x3e8373090f21722171182381021a82763e837206) h<|dm _ 2)<|ϱ (by decide:1000<2^10)<|a8 (by decide)<|by decide) (Å (bx<|dU D<|ϱ (by decide:4000<2^12)<|a8 (by decide)<|by decide)<|Å J rfl):(if(Ĕ (((L+R)/2-L:Á):Â)&&Ĕ (n:Â))=true then À (V.int<|(((L+R)/2-L:Á):Â)*(n:Â),0) else Ä)=_)
 have o:ü .RShift (.int (x:Â)) (.int (S:Â))=À (.int ((x/2^S:Á):Â),0):=by show(if(0:Â)<=(S:Â) then À (V.int<|Ey (x:Â)<|2^((S:Â)).toNat,0) else Ä)=_;exact Å (ť c)<|Å O rfl
 have y:ü .LShift (.int ((x/2^S:Á):Â)) (.int (S:Â))=À (.int ((x/2^S*2^S:Á):Â),0):=by
  exact(Å (ť ⟨c,(by exact(A1 0x2710470d31f4047006) s),(bx<|dU (yf _ _)<|ϱ hx<|a8 (by decide) b)⟩) (Å (show((x/2^S:Á):Â)*2^((S:Â)).toNat=((x/2^S*2^S:Á):Â) by simp) rfl):(if(0:Â)<=(S:Â)/\(S:Â)<=10000/\Ĕ ((x/2^S:Á):Â)=true then À (V.int<|((x/2^S:Á):Â)*2^((S:Â)).toNat,0) else Ä)=_)
 have q:ü .BitXor (.int (x:Â)) (.int ((x/2^S*2^S:Á):Â))=À (.int ((x%2^S:Á):Â),0):=Ù (λx=>À (V.int x,0))<|xE x S;have t0:Ĥ .Eq (.int<|(L:Â)+1) (.int (R:Â))=À false:=Ù À e;exact pG (Ă (Û (Ç rfl) ļ rfl) (Ç rfl) t0) rfl ē<|aa (Û (Û (Ç rfl) (Ç rfl) rfl) ļ K)<|aa (Û (Û (Ç rfl) (Ç rfl)<|Ù (λx=>À (V.int x,0)) p) (Ç rfl) G)<|aa (Û (Ç rfl) (Ç rfl) o)<|aa (Û (Ç rfl) (Û (Ç rfl) (Ç rfl) y) q) ē
noncomputable def q1:Str:="_int2digits.<locals>.inner"
structure BL(X:Cx)(B:PB)(f:Ĳ)(cl:Ã (Str×Ĳ)):Prop where
 fo:∃o ct code pm,B f=À o/\o.data=.func (kM "inner" q1 (uo<|ah 10 1) (Þ<|ah 10 1) (iV<|ah 10 1) cl ct code pm)/\∀h:gk,ŀ B h.get?->h.CodeRec code q1
 ex:∀x,(x,Ő)∈ŵ (ah 10 1)->∃c,cl.lookup x=À c
def BL.mono(h:BL X B f cl)(hB:ŀ B B'):BL X B' f cl:=
 ⟨OV h.fo λo ct code pm a b c=>⟨o,ct,code,pm,hB _ _ a,b,λh k=>c h<|hB.trans k⟩,h.ex⟩
structure T5(X:Cx)(B:PB)(h:gk)(f D:Ĳ)(cl:Ã (Str×Ĳ))(n:Á)(vs:Ã V):Prop where
 st:BL X B f cl
 inj:∀x y c,cl.lookup x=À c->cl.lookup y=À c->x=y
 is:∀x c,cl.lookup x=À c->∃v,h.IsCell c v
 dig:∃c,cl.lookup ("a_digits":Str)=À c/\h.IsCell c (À<|.ref D)
 n:∃c t,cl.lookup ("n":Str)=À c/\h.IsCell c (À<|.int n t)
 inner:∃c,cl.lookup ("inner":Str)=À c/\h.IsCell c (À<|.ref f)
 Ñ:∃items,IsL h D items/\ě B vs items.toList
 hB:B D=Ä
 hT:X.T.get? D=Ä
structure mf(s s':ŕ)(B B':PB)(D:Ĳ)(vs:Ã V):Prop where
 eq:∃h tk,s'={s with heap:=h,toks:=tk}
 keep:∀a o,a≠D->a∉bS->s.heap.get? a=À o->s'.heap.get? a=À o
 le:ŀ B B'
 HP:ŀ B' s'.heap.get?
 new:∀a o,B' a=À o->B a=À o\/s.heap.get? a=Ä
 Yb:∀a∈bS,cg B' s'.heap a
 Ñ:∃items n,s'.heap.get? D=À {cls:=.type "list",data:=.seq items n}/\ě B' vs items.toList
 hB:B' D=Ä
def Az(X:Cx)(d:Á):Prop:=
 ∀(A:q6)(B:PB)(s:ŕ)(Q E:Ë->ŕ->Prop)(f D:Ĳ)(cl:Ã (Str×Ĳ))(n x L R:Á)(vs:Ã V)(tx tl tr:Tok),R-L<=2^d->L<R->R<=vs.length->vs.length<=1000->x<2^(n*(R-L))->n*(R-L)<=8000->n<=4000->
  ţ (d+1) A->(∀a o,X.T.get? a=À o->s.heap.get? a=À o)->ŀ B s.heap.get?->(∀a∈bS,cg B s.heap a/\X.T.get? a=Ä)->T5 X B s.heap f D cl n vs->
  (∀s' B',mf s s' B B' D (mi n x L (R-L) vs)->Q .none s')->wq X A (call (.ref f) [.int x tx,.int L tl,.int R tr]) Q E s
section
variable{X:Cx}{k:Á}{sc:Sc}
def Ok.MT(K:Ok X.T P B env sc.dl sc.wl σ α s.heap)(S:sc.δ.lookup y=À j)(M:σ.get j=À (.Ñ vs,1))(w:At s.heap env y (.ref D))(R:mf s s' B B' D W4):
  Step P s s' B B'/\Ok X.T P B' env sc.dl sc.wl (σ.ö j (.Ñ W4) 1) (λi=>if i=j then[D] else α i) s'.heap:=by
 apply eJ K S M w;rintro l items n e1 e2 H L lH;injection e1 with e;subst e
 refine wO R.Ñ λC n' t A=>?_;have g:=pV (h:=s'.heap) (a:=D) (f:=λ_=>({cls:=.type "list",data:=.seq items n}:Obj));have p:=nZ (h:=s'.heap) (λ_=>({cls:=.type "list",data:=.seq items n}:Obj)) t rfl;generalize s'.heap.update D (λ_=>({cls:=.type "list",data:=.seq items n}:Obj))=O at g p;have x:Gp s.heap O B B':=⟨λa o m e=>by
   by_cases h:a=D
   .subst h;obtain rfl:=à<|L.symm.trans e;exact p
   .refine Å (g.2 a h) ?_;exact R.keep a o h m e,R.le,λa o e=>by
   by_cases h:a=D
   .subst h;exact ÿ<|R.hB.symm.trans e
   .rw[g.2 a h];exact R.HP a o e,R.new⟩
 have v:At O env y (.ref D):=by
  rcases w with⟨J,m',hn,e⟩|⟨J,c,W,q⟩
  .apply Ö ?_ K.loc;rintro⟨mm,G⟩ _;exact Ma hn λo es ep E r=>.inl ⟨J,m',⟨o,es,ep,x.keep _ _ (λh=>(K.ex _ h).2.ne_ns G rfl) E,r⟩,e⟩
  .exact ì q λo E hd=>.inr ⟨J,c,W,o,x.keep _ _ (λh=>(K.ex _ h).2.iK q rfl) E,hd⟩
 apply Ö (λK2 _=>?_) ((K.Io x λa m=>(R.Yb a m).go (λo e=>by rw[g.2 a ((λa m=>(K.ex a m).2.dP<|⟨_,L,rfl,⟨n,rfl⟩,rfl,rfl⟩) a m)];exact e) (.refl _) (R.Yb a m).fresh).list S M v ⟨g.1.symm,λb Y=>(g.2 b Y).symm⟩ t A);refine⟨⟨R.eq,λa o e n=>R.keep a o (λh=>n<|h▸H) (λh=>n (K.ex a h).1) e,R.le,λa o e=>(R.new a o e).imp id<|K.hi a⟩,K2⟩
def r7(O:ĭ h B (.fn f) m val as):val=.ref f/\∃o fd,B f=À o/\o.data=.func fd:=by
 cases O with
 |z v=>exact v.inv
def E9(IH:Az X d)(he:env.scope.names=sc.kinds)
  {n x L R:Á} (J:sc.δ.lookup ("a_digits":Str)=À ja) (hf:sc.δ.lookup ("inner":Str)=À jf) (hn:sc.δ.lookup ("n":Str)=À jn)
  (hk:∀y:Str,y="a_digits"\/y="inner"\/y="n"->sc.kinds.lookup y≠À .local) (j:∀y c,cl.lookup y=À c->env.cells.lookup y=À c) (S:BL X B f cl)
  (H:eV X k sc (e::es) i6) (hp:ď i6 σ=À ([.int x,.int L,.int R],Ø)) (g0:σ.get jf=À (.fn f,0)) (I:Ø.get ja=À (.Ñ vs,1)) (gf:Ø.get jf=À (.fn f,0)) (gn:Ø.get jn=À (.int n,0))
  (b1:R-L<=2^d) (b2:L<R) (b3:R<=vs.length) (b4:vs.length<=1000) (b5:x<2^(n*(R-L))) (b6:n*(R-L)<=8000) (b7:n<=4000)
  (hR:ţ k A) (YK:ţ (d+1) A) (K:Ok X.T P B env sc.dl sc.wl σ α s.heap)
  (q:∀s' B' qr,Step P s s' B B'->Ok X.T P B' env sc.dl sc.wl (Ø.ö ja (.Ñ<|mi n x L (R-L) vs) 1) qr s'.heap->Q .next s')
  (hi:∀env:ey,env.scope.kind=.function->oT env=false:=by intro env h;unfold oT;rw[h];rfl):
  wq X A (exec (.Expr (.Call (.Name "inner" p) (e::es) [] pos) P6) env) Q E s:=by
 refine K.Æ "inner" jf _ _ hf g0 λval Fo O _=>?_;obtain⟨rfl,o,fd,ho,hd⟩:=(r7 O)
 apply sq (gQ<|j5 (Fo.load K.kind ?_) rfl)<|hi env K.kind;have key:wq X A (jt (.ref f) true (ş pos<|ϧ (e::es) env) []) (λa m=>(m.heap.get? f=À o/\o.data=.func fd)/\wq X A (Î (.ref f) ([]++a.pos) a.kw) (λ_ s'=>Q .next s') E m) E s:=
  H.args (H.spliced he pos hp P B α A s _ _ hR K λvals M B1 eI S1 b lH=>⟨⟨b.base _ _<|S1.le _ _ ho,hd⟩,by
   refine ì (b.vars "a_digits" ja _ _ J I) λv1 a1 _=>?_;refine eJ b J I a1 ?_;rintro D items nn rfl e2 XW hl VT;refine b.Æ "inner" jf _ _ hf gf λv2 a2 O2 _=>?_;refine b.Æ "n" jn _ _ hn gn λv3 a3 O3 _=>?_;have nl:∀y:Str,y="a_digits"\/y="inner"\/y="n"->env.kindOf y≠À .local:=λy G=>by unfold bC;exact Å he<|hk y G
   have g:∀(y:Str)(v:Ë),(y="a_digits"\/y="inner"\/y="n")->At M.heap env y v->(∃c,cl.lookup y=À c)->∃c,cl.lookup y=À c/\M.heap.IsCell c (À v):=λy v G ha hc=>by
    rcases ha with⟨kd,_⟩|⟨kd,c,W,Y⟩
    .exact ó kd<|nl y G
    .refine å hc λc' t=>?_;obtain rfl:=à<|W.symm.trans<|j y c' t;exact⟨c,t,Y⟩
   have HL:B1 D=Ä:=by
    exact b.Æ "a_digits" ja _ _ J I λ_ _ O1 _=>ì (O1.lists D<|Å e2<|.head _) λ_ _ q1=>q1
   have e3:v2=.ref f:=(r7 O2).1;subst e3;obtain⟨t3,rfl⟩:=sU O3;have C:T5 X B1 M.heap f D cl n vs:=⟨S.mono S1.le,λy z c h1 h2=>b.cells y z c (j y c h1)<|j z c h2,λy c G=>b.Ė y c<|j y c G,g _ _ (.inl rfl) a1<|S.ex _<|by decide,(by obtain⟨c,h1,h2⟩:=g _ _ (.inr<|.inr rfl) a3 (S.ex _<|by decide);exact⟨c,t3,h1,h2⟩),g _ _ (.inr<|.inl rfl) a2<|S.ex _<|by decide,⟨items,(⟨_,hl,rfl,⟨nn,rfl⟩,rfl,rfl⟩),VT⟩,HL,b.low _ XW⟩
   apply Le lH;intro _ _ _ w1 w2 w3;apply ê w1;intro _;apply ê w2;intro _;apply ê w3;intro _
   ·.·.exact IH A B1 M _ _ f D cl n x L R vs _ _ _ b1 b2 b3 b4 b5 b6 b7 YK b.top b.base b.Se C λs' B' Af=>Ö (λS2 K2=>q s' B' _ (S1.toStep.trans S2) K2)<|b.MT J I a1 Af⟩)
 exact lJ (o:=o) (fd:=fd) key
end
section
variable{X:Cx}
def mf.of{A:q6}{s q:ŕ}{k:gk}{tk:Á}{B E:PB}{f D:Ĳ}{cl:Ã (Str×Ĳ)}{n:Á}{vs v:Ã V}{env:ey}{m:St}{H:Á->Ã Ĳ}(C:T5 X B s.heap f D cl n vs)(ec:env.cells=cl)(en:env.scope.names=bX.kinds)(keep:∀b o,s.heap.get? b=À o->k.get? b=À o)
  (w:∀a∈bS,cg B s.heap a/\X.T.get? a=Ä) (S:Step (λb=>s.heap.get? b=Ä\/b∈bS\/b∈[D]) {s with heap:=k,toks:=tk} q B E) (K:Ok X.T (λb=>s.heap.get? b=Ä\/b∈bS\/b∈[D]) E env bX.dl bX.wl m H q.heap) (g:m.get 7=À (.Ñ v,1)):mf s q B E D v:=by
 refine ì C.Ñ λt x _=>?_;refine ì C.dig λc P j=>?_;have M:∀a o,s.heap.get? a=À o->a∉bS->a≠D->¬(s.heap.get? a=Ä\/a∈bS\/a∈[D]):=λa o e G J h=>by
  rcases h with h|h|h
  .exact gC<|e.symm.trans h
  .exact G h
  .rw[Ċ] at h;exact J h
 have y:At q.heap env "a_digits" (.ref D):=by
  refine ì j λo L hd=>?_;refine .inr ⟨.inr ⟨?_,by decide⟩,c,by refine Å ec ?_;exact P,o,S.kept c o (keep c o L)<|M c o L (λh=>(w c h).1.iK j rfl) λe=>ĥ x j e.symm,hd⟩;unfold bC;refine Å en ?_;decide
 apply eJ K (show bX.dl "a_digits"=À 7 by decide) g y;rintro l items nn Y R XW W I;injection Y with e;subst e
 refine K.Æ "a_digits" 7 _ _ rfl g λval _ O _=>?_;refine ì (O.lists D<|Å R<|.head _) λ_ _ p=>?_;refine zm S.eq λh' t' e'=>?_;refine⟨⟨h',t',Å e' rfl⟩,λa o G J e=>S.kept a o (keep a o e)<|M a o e J G,S.le,K.base,λa o e=>?_,λa ha=>(K.ex a ha).2,⟨items,nn,W,I⟩,p⟩;rcases S.new a o e with h|h|h|h
 .exact .inl h
 .exact .inr h
 .rw[(K.ex a h).2.fresh] at e;exact ÿ e
 .rw[Ċ] at h;rw[h,p] at e;exact ÿ e
def Qe:(Þ<|ah 10 1).drop 5=[.Expr (.Call (.Name "inner" ⟨88,8,88,13⟩) [.Name "lower" ⟨88,14,88,19⟩,.Name "L" ⟨88,21,88,22⟩,.Name "mid" ⟨88,24,88,27⟩] [] ⟨88,8,88,28⟩) ⟨88,8,88,28⟩,.Expr (.Call (.Name "inner" ⟨89,8,89,13⟩) [.Name "upper" ⟨89,14,89,19⟩,.Name "mid" ⟨89,21,89,24⟩,.Name "R" ⟨89,26,89,27⟩] [] ⟨89,8,89,28⟩) ⟨89,8,89,28⟩]:=by rfl
def Qh{k:Á}{sc:Sc}{x y z:Str}{p1 p m:o6}{a b c:Á}(j:sc.δ.lookup x=À a)(o:sc.δ.lookup y=À b)(h:sc.δ.lookup z=À c)(q:(x==("__debug__":Str))=false:=by decide)(f:(y==("__debug__":Str))=false:=by decide)(g:(z==("__debug__":Str))=false:=by decide):eV X k sc [.Name x p1,.Name y p,.Name z m] [.Æ a,.Æ b,.Æ c]:=
 .cons rfl (.name j q) (.cons rfl (.name o f)<|.cons rfl (.name h g) .nil)
def DD(d:Á)(ih:∀p,d=p+1->Az X p):Az X d:=by
 intro A B s Q E f D cl n x L R vs tx tl tr Y W b3 b4 b5 b6 b7 hR top hB O C q;refine OV C.st.fo λo ct code pm ho hd LX=>?_;refine ì C.Ñ λitems Z8 VT=>?_;refine oO (k:=d) (sc:=bX) (params:=["x","L","R"]) (cl:=cl) (vs:=[.int x,.int L,.int R]) (σ0:=NF x L R vs n f Ä Ä Ä Ä) (α0:=λi=>if i=7 then[D] else[]) (own:=[D]) ho hd (LX s.heap hB) rfl rfl rfl rfl rfl rfl rfl rfl rfl (by decide) (by decide) (by decide) rfl
  (λx hx=>?_) (by decide) hR top hB O (.cons .int<|.cons .int<|.cons .int .nil) C.inj C.is (λx hx=>C.st.ex x<|(show∀x,bX.kinds.lookup x=À .free->(x,Ő)∈ŵ (ah 10 1) from λx h=>mem_of_lookup h) x hx) (λy i v m hy P=>?_) (λi j Ap a ha hb=>?_) (λa ha=>by rw[Ċ] at ha;rw[ha];exact C.hT) λenv J tk en ec eL g K keep=>?_
 .have:x∈bX.wr:=by simpa using hx
  simp[bX] at this;rcases this with rfl|rfl|rfl|rfl|rfl|rfl|rfl<;>decide
 .have hm:=mem_of_lookup hy;refine ì C.dig λcd RR S=>?_;refine wO C.n λcn t Na H=>?_;refine ì C.inner λci V9 G=>?_;simp[bX] at hm;rcases hm with⟨rfl,rfl⟩|⟨rfl,rfl⟩|⟨rfl,rfl⟩|⟨rfl,rfl⟩|⟨rfl,rfl⟩|⟨rfl,rfl⟩|⟨rfl,rfl⟩|⟨rfl,rfl⟩|⟨rfl,rfl⟩|⟨rfl,rfl⟩<;>simp[NF,St.get] at P
  .obtain⟨rfl,rfl⟩:=P;exact .inl ⟨rfl,rfl,rfl,rfl⟩
  .obtain⟨rfl,rfl⟩:=P;exact .inl ⟨rfl,rfl,rfl,rfl⟩
  .obtain⟨rfl,rfl⟩:=P;exact .inl ⟨rfl,rfl,rfl,rfl⟩
  .obtain⟨rfl,rfl⟩:=P;exact .inr ⟨cd,.ref D,by decide,by decide,RR,S,by simp;exact .one Z8 C.hB VT,by simp⟩
  .obtain⟨rfl,rfl⟩:=P;exact .inr ⟨cn,.int n t,by decide,by decide,Na,H,by simp[show¬(8:Á)=7 by decide];exact .z .int,by simp⟩
  .obtain⟨rfl,rfl⟩:=P;exact .inr ⟨ci,.ref f,by decide,by decide,V9,G,by simp[show¬(9:Á)=7 by decide];exact .z<|.fn ho hd,by simp⟩
 .by_cases h1:i=7
  .by_cases h2:j=7
   .exact Ap<|h1.trans h2.symm
   .rw[È h2] at hb;exact ϭ hb
  .rw[È h1] at ha;exact ϭ ha
 .rw[(show Þ (ah 10 1)=(Þ<|ah 10 1).take 5++(Þ<|ah 10 1).drop 5 from(List.take_append_drop ..).symm),iH];by_cases w:L+1=R
  .refine Ü (Kz env en _ _ _ (Bl (x:=x) (n:=n) (f:=f) w (by exact Nt ‹_› ‹_›:L<vs.length)<|by exact ϴ ‹_› rfl) _ B _ _ {s with heap:=J,toks:=tk} _ _ g K λfl s2 B2 cR S2 K2 hf=>?_);apply r5 hf;intro _ hr;apply ϯ hr
   .refine õ<|q s2 B2 ?_;have e1:R-L=1:=((A2 0xe10920e1826) w)
    rw[e1,FE (by exact Nt ‹_› ‹_›)<|by rw[e1,px] at b5;exact b5];exact mf.of (A:=A) C ec en keep O S2 K2 rfl
  .have d0:d≠0:=λh=>by subst h;simp at Y;exact(A2 0xe81091e082961016) W w Y
   obtain⟨p,rfl⟩:∃p,d=p+1:=⟨d-1,((A1 0xee09802f0296) d0)⟩
   have IH:=ih p rfl;refine Ü<|Kz env en _ _ _ (Bw (x:=x) (n:=n) (vs:=vs) (f:=f) w W b5 b6 b7<|UD ‹_› ‹_›) _ B _ _ {s with heap:=J,toks:=tk} _ _ g K λfl s2 B2 cR S2 K2 hf=>?_;apply m9 hf;rw[Qe];generalize I:(L+R)/2=M at*;have m1:L<M:=((A5 0x411f21722173180183221a827642260e182960116) W w I<|dm _ 2)
   have m2:M<R:=((A5 0x311f21722174183084221a827612263016) W I<|dm _ 2)
   have m3:R-M<=2^p:=by rw[pC] at Y;exact(A6 0x5490f21722172184182321a82765326021b14906) Y I<|dm _ 2
   have m4:M-L<=2^p:=by rw[pC] at Y;exact(A6 0x4590f21722173181483221a82760519065226) I m3<|dm _ 2
   have m7:x/2^(n*(M-L))<2^(n*(R-M)):=by
    rw[om (xR<|by decide),<-lI,<-Ű];rw[show R-M+(M-L)=R-L by exact(A5 0x12910902982f21722174182184321a82760326) I<|dm _ 2];exact b5
   refine mI (E9 (sc:=bX) (k:=p+1) (d:=p) (ja:=7) (jf:=9) (jn:=8) (n:=n) (x:=x%2^(n*(M-L))) (L:=L) (R:=M) (vs:=vs) (f:=f) (cl:=cl) IH en rfl rfl rfl
    (λy hy=>by rcases hy with rfl|rfl|rfl<;>decide) (λy c h=>by rw[ec];exact h) (C.st.mono S2.le) (Qh (a:=6) (b:=1) (c:=3) rfl rfl rfl) (Ð (Ç rfl)<|Ð (Ç rfl)<|Ð (Ç rfl) Ą) rfl rfl rfl rfl m4 m1 ((A6 0x300f21722175184185221a8276022634064116) W b3 I<|dm _ 2) b4 (ϊ _<|xR<|by decide) (ú (ϥ n<|(A5 0x3193090f21722174181384221a82760226) I<|dm _ 2) b6) b7 g g K2
    λs3 B3 NI S3 K3=>?_)
   refine mI (E9 (sc:=bX) (k:=p+1) (d:=p) (ja:=7) (jf:=9) (jn:=8) (n:=n) (x:=x/2^(n*(M-L))) (L:=M) (R:=R) (vs:=mi n (x%2^(n*(M-L))) L (M-L) vs) (f:=f) (cl:=cl) IH en rfl rfl rfl
    (λy hy=>by rcases hy with rfl|rfl|rfl<;>decide) (λy c h=>by rw[ec];exact h) ((C.st.mono S2.le).mono S3.le) (Qh (a:=5) (b:=3) (c:=2) rfl rfl rfl) (Ð (Ç rfl)<|Ð (Ç rfl)<|Ð (Ç rfl) Ą) rfl rfl rfl rfl m3 m2 (by rw[mq (by exact(A6 0x149180f21722175182185321a8276432602062116) W b3 I<|dm _ 2)];exact b3) (by rw[mq (by exact(A6 0x149180f21722175182185321a8276432602062116) W b3 I<|dm _ 2)];exact b4) m7 (ú (ϥ n<|by exact(A3 1138712650006) m1) b6) b7 g g K3
    λs4 B4 RX S4 K4=>?_)
   refine jI<|q s4 B4 ?_;have e:=E7 (n:=n) (x:=x) (L:=L) (m1:=M-L) (m2:=R-M) (vs:=vs)<|(A6 0x1392198280f21722175183285421a8276121614260306) b3 I m1<|dm _ 2;rw[show L+(M-L)=M by exact(A2 71160693014) m1,show M-L+(R-M)=R-L by exact(A5 0x12902910982f21722174182184321a82760326) I<|dm _ 2] at e;rw[e] at K4;exact mf.of (A:=A) C ec en keep O ((S2.trans S3).trans S4) K4 rfl
def EX:∀d,Az X d
 |0=>DD 0 λa h=>by omega
 |d+1=>DD (d+1) λa h=>by
  have:a=d:=by omega
  subst this;exact EX a
end
def Ϩ.mono(h:Ϩ X k fv F')(a:∀vs r,F vs=À r->F' vs=À r):Ϩ X k fv F:=λA B s vs v m vals b=>h A B s vs v m vals<|a vs _ b
def ţ.less(h:ţ k A)(a:k'<=k):ţ k' A:=⟨by exact(A3 0x38437028138437128161006) a h.depth,(A3 0x232847081a281232847181a28161006) a h.units,h.hd⟩
def Ϗ:Sc:={kinds:=ŵ<|Ê 10,δ:=[("a",0),("n",1),("a_digits",2),("inner",3)],wr:=["a","n","a_digits","inner"]}
def EF:Ã PS:=[.î 2 (.Õ .Mult (.Ñ [.c (.int 0)])<|.Õ .FloorDiv (.Õ .Sub (.Õ .Add (.fn Ź [.Æ 0])<|.Æ 1)<|.c<|.int 1)<|.Æ 1)]
section
variable{X:Cx}{k:Á}
def Lk(G:Gl X):SS X k Ϗ 50 ((Þ<|Ê 10).take 1) EF:=by
 apply SS.cons ?_ .nil
 .refine .î rfl rfl ?_
  .refine .eR (.Ñ<|.cons rfl .mP .nil) ?_
   .refine .eR ?_<|.name rfl
    .refine .eR ?_ .mP
     .refine .eR ?_<|.name rfl
      .refine .vu (T:=?T) (id:=?i) ?_ ?_ ?_ ?_ ?_
       case T=>exact"int"
       case i=>exact"int.bit_length"
       .exact bY
       .exact .name rfl
       .exact .nil
       .exact .jG
       .exact bT
def Jz(a:Á):(a:Â)<2^(ϖ a).toNat:=by
 unfold ϖ;split
 .rename_i h;subst h;decide
 .rename_i h;simp;exact_mod_cast(yU (n:=a))
def mw(a:Á):0<=ϖ a:=by unfold ϖ;split;exact(A0 4083);exact(A1 14716403)
def FL{a n:Á}(f:1<=n):∃m:Á,(ϖ a+(n:Â)-1).fdiv (n:Â)=(m:Â)/\a<2^(n*m)/\n*m<=(ϖ a).toNat+n:=by
 obtain⟨b,c⟩:∃b:Á,ϖ a=(b:Â):=⟨(ϖ a).toNat,by exact(wo 0xd05f02f04700d50f37860f36) (mw a)<|iY _⟩
 refine⟨(b+n-1)/n,(by rw[c,show(b:Â)+(n:Â)-1=((b+n-1:Á):Â) by exact(A2 0xe0189de0d1d8950e06) f,ir]),?_,?_⟩
 .have h:=Jz a;rw[c] at h;have o:a<2^b:=by simp at h;exact_mod_cast h
  exact ϱ o<|a8 (by decide)<|(A4 0x2300116e038912826) (ł (b+n-1) n)<|ϊ (b+n-1)<|show n>0 by exact(A1 15797766) f
 .rw[c];simp;exact(A3 589342025748486)<|Nat.mul_div_le (b+n-1) n
def MD:(Þ<|Ê 10).drop 1=[.FunctionDef "inner" (uo<|ah 10 1) (Þ<|ah 10 1) [] Ä [] (iV<|ah 10 1) Ä "inner" (KZ<|ah 10 1),.If (.Name "a" ⟨90,7,90,8⟩) [.Expr (.Call (.Name "inner" ⟨91,8,91,13⟩) [.Name "a" ⟨91,14,91,15⟩,.Constant (.int 0) 0 ⟨91,17,91,18⟩,.Call (.Name "len" ⟨91,20,91,23⟩) [.Name "a_digits" ⟨91,24,91,32⟩] [] ⟨91,20,91,33⟩] [] ⟨91,8,91,34⟩) ⟨91,8,91,34⟩] [] ⟨90,4,91,34⟩,.Return (À<|.Name "a_digits" ⟨92,11,92,19⟩) ⟨92,4,92,19⟩]:=by rfl
def vC(vs:Ã V)(h:vs.length=m):mi n x 0 m vs=(Ď n m x).map .int:=by
 unfold mi;simp[<-h]
end
section
variable{X:Cx}{k:Á}
noncomputable def Ke:nY:=⟨44,80,4,"_int2digits.<locals>.inner"⟩
noncomputable def ND:nY:=⟨51,95,4,"_digits2int.<locals>.inner"⟩
def J5{y x:nY}(b:y∈jH)(hx:x=Ke\/x=ND)(h:y.a=x.a):y=x:=by
 have:y∈[Ke,ND]:=b;simp at this;rcases this with rfl|rfl<;>rcases hx with rfl|rfl
 .rfl
 .exact ó h<|by decide
 .exact ó h<|by decide
 .rfl
def D9(G:Gl X)(BI:bB X){fd:j1}(KS:fd.body=.stmts (Þ<|Ê 10))(hk:fd.scope.names=Ϗ.kinds)(hq:fd.qualname="_int2digits")(hc:fd.code=.ref c)(hC:jO X c Ke.a)
  (D:0<=a0/\1<=n0/\n0<=4000/\ϖ a0.toNat<=4000/\(ϖ a0.toNat+n0-1).fdiv n0<=256):Ex X (k+9) (callEnvC fd L a) Ϗ.dl Ϗ.wl [À (.int a0,0),À (.int n0,0),Ä,Ä] (execs (Þ<|Ê 10)<|callEnvC fd L a)
   (.ret<|.Ñ<|(Ď n0.toNat ((ϖ a0.toNat+n0-1).fdiv n0).toNat a0.toNat).map .int) [À (.int a0,0),À (.int n0,0),À (.Ñ<|(Ď n0.toNat ((ϖ a0.toNat+n0-1).fdiv n0).toNat a0.toNat).map .int,0),Ä]:=by
 generalize g:callEnvC fd L a=env;have en:env.scope.names=Ϗ.kinds:=by rw[<-g];exact hk
 have C:env.code=.ref c:=by rw[<-g];exact hc
 have t:env.qual="_int2digits"++".<locals>.":=by rw[<-g];show fd.qualname++".<locals>."=_;rw[hq]
 obtain⟨c1,c2,c3,c4,c5⟩:=D;obtain⟨x,rfl⟩:∃x:Á,a0=(x:Â):=⟨a0.toNat,(wo 0xd05f02f04700d50f37860f36) c1<|iY _⟩
 obtain⟨n,rfl⟩:∃n:Á,n0=(n:Â):=⟨n0.toNat,(wo 0xd05f02f04700d50f37860e36) c2<|iY _⟩
 simp at c4 c5⊢;obtain⟨m,hm,j,Y9⟩:=FL (a:=x) (n:=n)<|(A1 234937910) c2;rw[hm] at c5⊢;simp at c5⊢;have Zr:1<=n:=(A1 234937910) c2;have RY:m<=256:=(A1 0x1003700100370d36) c5;have hz:ċ 50 EF [À (.int (x:Â),0),À (.int (n:Â),0),Ä,Ä]=À (.next,[À (.int (x:Â),0),À (.int (n:Â),0),À (.Ñ<|replicate m<|.int 0,1),Ä]):=by
  have s1:Ĕ (ϖ x+(n:Â)-1)=true:=by
   have:=mw x;obtain⟨z,hz⟩:∃z:Á,ϖ x+(n:Â)-1=(z:Â):=⟨(ϖ x+(n:Â)-1).toNat,(Jw 0x1de0d0895f12fe0d08947e0d0891d5e0d089f37860f360de36) c2 this<|iY _⟩
   rw[hz];exact bx<|dU (show z<=8000 by exact(Jw 0x1f4047000de1d08956fa0371d36fa037036) c4 c3 hz)<|ϱ (by decide:8000<2^13)<|a8 (by decide)<|by decide
  have v3:ü .FloorDiv (.int<|ϖ x+(n:Â)-1) (.int (n:Â))=À (.int (m:Â),0):=by
   show(if(n:Â)≠0/\Ĕ (ϖ x+(n:Â)-1)=true then À (V.int<|(ϖ x+(n:Â)-1).fdiv (n:Â),0) else Ä)=_;rw[ť ⟨by exact(A1 0xf0d590de36) c2,s1⟩,hm]
  have v4:ü .Mult (.Ñ [.int 0]) (.int (m:Â))=À (.Ñ<|replicate m<|.int 0,1):=by
   show(if 0<=(m:Â)/\(m:Â)<=1000/\[V.int 0].length<=1000 then À (V.Ñ<|(replicate ((m:Â)).toNat [V.int 0]).flatten,1) else Ä)=_;rw[ť ⟨by exact(A1 3571),by exact(A1 0x3e8370d3100370d36) c5,by decide⟩,Ě];have:∀q:Á,(replicate q [V.int 0]).flatten=replicate q (V.int 0):=λq=>by induction q with|zero=>rfl|succ q ih=>exact Å hU<|Å gZ<|Å ih<|Å hU rfl
   rw[this]
  exact aa (Û (Kt<|Ð ļ Ą) (Û (Û (Û (dJ (Ð (Ç rfl) Ą) rfl) (Ç rfl) rfl) ļ rfl) (Ç rfl) v3) v4) rfl
 intro P B α A s Q E I K q;rw[(show Þ (Ê 10)=(Þ<|Ê 10).take 1++(Þ<|Ê 10).drop 1 from(xM ..).symm),iH,MD];apply Ü<|Lk G env en _ _ _ hz P B α A s _ _ I K λfl s1 B1 eI S1 K1 hf=>?_;apply m9 hf;apply mI<|qY (sc:=Ϗ) (i:=3) Ke (.head _) C hC rfl rfl (λy S h=>J5 S (.inl rfl) h) ?_ rfl (by intro env;rfl) BI en rfl rfl (λy S=>?_) ⟨"n",by decide⟩ K1 λf fo cl ct code pm s2 B2 cR S2 K2 YR NM NC O M LX=>?_
 .unfold yi;have:(env.kindOf "inner"==À .globalExplicit)=false:=by unfold bC;rw[en];decide
  rw[this,t];decide
 .exact(show∀p∈ŵ (ah 10 1),p.2=.free->Ϗ.kinds.lookup p.1=À .cell\/Ϗ.kinds.lookup p.1=À .free by decide) _ S rfl
 have J:∀o H b,Step P s o B H->Ok X.T P H env Ϗ.dl Ϗ.wl [À (.int (x:Â),0),À (.int (n:Â),0),À (.Ñ<|(Ď n m x).map .int,1),À (.fn f,0)] b o.heap->
   wq X A (execs [.Return (À<|.Name "a_digits" ⟨92,11,92,19⟩) ⟨92,4,92,19⟩] env) Q E o:=by
  intro o H b W K3;exact(show SS X (k+9) Ϗ 50 [.Return (À<|.Name "a_digits" ⟨92,11,92,19⟩) ⟨92,4,92,19⟩] [.ret (.Æ 2)] from SS.cons (.ret<|.name rfl) .nil) env en _ (.ret<|.Ñ<|(Ď n m x).map .int) [À (.int (x:Â),0),À (.int (n:Â),0),À (.Ñ<|(Ď n m x).map .int,0),À (.fn f,0)] (mK<|E0 rfl<|by decide) P H b A o _ _ I K3 λfl s4 B4 v S4 Y hf=>q fl s4 B4 v (W.trans S4) (Y.aaa [3]) hf
 apply mI<|sE<|(show cG X (k+9) Ϗ (.Name "a" ⟨90,7,90,8⟩) (.Æ 0) from .val<|.name rfl) env en _ _ _ _ ((x:Â) !=0) (show ß (.Æ 0) _=À (.int (x:Â),0,_) from rfl) rfl P B2 cR A s2 _ _ (I.less<|aj _) K2 λo H b W K3=>?_;by_cases hx:x=0
 .subst hx;have TB:m=0:=by
   rw[(show ϖ 0=0 from rfl),show(0:Â)+(n:Â)-1=((n-1:Á):Â) by exact(A1 0xe09de0df8950de36) c2,ir,wX<|by exact(A1 60281642550) c2] at hm;exact(A1 64458980694) hm
  subst TB;simp[show(((0:Á):Â) !=0)=false by decide];exact jI<|J o H b ((S1.trans S2).trans W.toStep) K3
 .have y8:((x:Â) !=0)=true:=by simp;assumption
  rw[y8];simp;have To:0<m:=by
   rcases xD m with h|h
   .subst h;rw[Nat.mul_zero] at j;simp at j;exact ó j hx
   .exact h
  have HS:eV X (k+9) Ϗ [.Name "a" ⟨91,14,91,15⟩,.Constant (.int 0) 0 ⟨91,17,91,18⟩,.Call (.Name "len" ⟨91,20,91,23⟩) [.Name "a_digits" ⟨91,24,91,32⟩] [] ⟨91,20,91,33⟩] [.Æ 0,.c<|.int 0,.č 2]:=
   .cons rfl (.name rfl) (.cons rfl .mP<|.cons rfl (.č (G.bi (by decide) rfl rfl<|by decide) rfl) .nil)
  refine mI (E9 (sc:=Ϗ) (k:=k+9) (d:=8) (ja:=2) (jf:=3) (jn:=1) (n:=n) (x:=x) (L:=0) (R:=m) (vs:=replicate m<|.int 0) (f:=f) (cl:=cl) (Ø:=[À (.int (x:Â),0),À (.int (n:Â),0),À (.Ñ<|replicate m<|.int 0,1),À (.fn f,0)]) (EX 8) en rfl rfl rfl
   (λy S=>by rcases S with rfl|rfl|rfl<;>decide) O ((show BL X B2 f cl from⟨⟨fo,ct,code,pm,NM,NC,LX⟩,M⟩).mono W.le) HS ?_ rfl rfl rfl rfl (by simp;assumption) To (by simp) (by simp;exact ϴ ‹_› rfl) (by simpa using j) (by simpa using(show n*m<=8000 by exact(Sr 0x1f404720f02f04700d50f3786108206fa0371d36fa037036) c4 c3 Y9<|iY _)) (by exact(A1 0xfa03700fa0370d36) c3) I (I.less<|by exact(A1 39041143152)) K3 λs4 B4 v S4 Y=>jI ?_)
  .have hl:dD (.Ñ<|replicate m<|V.int 0)=À (m:Â):=by exact(ť<|by rw[oL];exact ϴ ‹_› rfl).trans (by rw[oL])
   exact Ð (Ç rfl)<|Ð ļ<|Ð (xN rfl hl) Ą
  .rw[tn,vC _<|by simp] at Y;exact J s4 B4 v (((S1.trans S2).trans W.toStep).trans S4) Y
def Ϩ.xx(G:Gl X)(D:bB X){a c:Ĳ}{o:Obj}(y:X.T.get? a=À o)(E:o.data=.func fd)(f:X.T.CodeRec fd.code fd.qualname)(b:fd.body=.stmts (Þ<|Ê 10))
  (s:fd.closure=[]) (B:fd.globals=ż) (t:fd.builtins=br) (j:∀vals:Ã Ë,vals.length=2->lO fd ⟨vals,[]⟩=pure ((["a","n"]:Ã Str).zip vals)) (x:fd.scope.names=Ϗ.kinds) (p:fd.scope.kind=.function)
  (w:fd.scope.isCoroutine=false) (q:fd.scope.isGenerator=false) (hq:fd.qualname="_int2digits") (A:fd.code=.ref c) (C:jO X c Ke.a):Ϩ X (k+10) (.ref a) ĝ:=
 Ϩ.zU (sc:=Ϗ) (params:=["a","n"]) (n:=4) y E f b s B t j x p w q rfl λvs v m h=>
  iT Ú Ú (M:=λvs=>PV X (k+9) fd a Ϗ (Þ<|Ê 10) 4 2 vs v m) h λa n h=>Ϲ h λg h=>â h ⟨rfl,rfl,_,_,.ret,λL=>D9 G D b x hq A C g⟩
end
noncomputable def ny(n:Á)(l:Ã Á):Á:=l.foldr (λd r=>r*2^n+d) 0
def IK(n:Á):∀a l2:Ã Á,ny n (a++l2)=ny n l2*2^(n*a.length)+ny n a:=by
 intro r0
 induction r0 with
 |nil=>intro l2;simp[ny]
 |cons d a ih0=>
  intro l2;have ih:=ih0 l2;unfold ny at ih⊢;rw[ti,oY,ih,oY,kc,Ű,px,lI,j4,j3];exact(A3 2302238853250)
def Lw(n:Á):∀l:Ã Á,(∀d∈l,d<2^n)->ny n l<2^(n*l.length):=by
 intro r0
 induction r0 with
 |nil=>intro _;simp[ny]
 |cons d l ih0=>
  intro h;have ih:=ih0 λd a=>h d<|.tail _ a;unfold ny at ih⊢;rw[oY,kc,Ű,px,lI];have:(foldr (λd r=>r*2^n+d) 0 l+1)*2^n<=2^(n*l.length)*2^n:=ye _ ih;rw[j4,pM] at this;exact(A4 81206712031654422) (h d<|.head _) this
noncomputable def q2:Str:="_digits2int.<locals>.inner"
def dC:Sc:={kinds:=ŵ<|ah 11 0,δ:=[("L",0),("R",1),("mid",2),("shift",3),("digits",4),("n",5),("inner",6)],wr:=["L","R","mid","shift"]}
noncomputable def FP:Ã PS:=
 [.Ŗ (.cmp .Eq (.Õ .Add (.Æ 0)<|.c<|.int 1)<|.Æ 1) [.ret (.ä 4<|.Æ 0)] [],.î 2<|.Õ .RShift (.Õ .Add (.Æ 0)<|.Æ 1)<|.c<|.int 1,.î 3<|.Õ .Mult (.Õ .Sub (.Æ 2)<|.Æ 0)<|.Æ 5]
structure BD(X:Cx)(B:PB)(f:Ĳ)(cl:Ã (Str×Ĳ)):Prop where
 fo:∃o ct code pm,B f=À o/\o.data=.func (kM "inner" q2 (uo<|ah 11 0) (Þ<|ah 11 0) (iV<|ah 11 0) cl ct code pm)/\∀h:gk,ŀ B h.get?->h.CodeRec code q2
 ex:∀x,(x,Ő)∈ŵ (ah 11 0)->∃c,cl.lookup x=À c
def BD.mono(h:BD X B f cl)(hB:ŀ B B'):BD X B' f cl:=
 ⟨OV h.fo λo ct code pm a b c=>⟨o,ct,code,pm,hB _ _ a,b,λh k=>c h<|hB.trans k⟩,h.ex⟩
noncomputable def lM(ds:Ã Á):Ã V:=ds.map λ(d:Á)=>V.int (d:Â)
structure XC(X:Cx)(B:PB)(h:gk)(f:Ĳ)(cl:Ã (Str×Ĳ))(n:Á)(ds:Ã Á):Prop where
 st:BD X B f cl
 inj:∀x y c,cl.lookup x=À c->cl.lookup y=À c->x=y
 is:∀x c,cl.lookup x=À c->∃v,h.IsCell c v
 dig:∃c dv,cl.lookup ("digits":Str)=À c/\h.IsCell c (À dv)/\VR B (.Ñ<|lM ds) dv
 n:∃c t,cl.lookup ("n":Str)=À c/\h.IsCell c (À<|.int n t)
 inner:∃c,cl.lookup ("inner":Str)=À c/\h.IsCell c (À<|.ref f)
def AO(X:Cx)(d:Á):Prop:=
 ∀(A:q6)(B:PB)(s:ŕ)(f:Ĳ)(cl:Ã (Str×Ĳ))(n L R:Á)(ds:Ã Á)(tl tr:Tok),R-L<=2^d->L<R->R<=ds.length->ds.length<=1000->n*ds.length<=8000->n<=4000->(∀d∈ds,d<2^n)->
  ţ (d+1) A->(∀a o,X.T.get? a=À o->s.heap.get? a=À o)->ŀ B s.heap.get?->(∀a∈bS,cg B s.heap a/\X.T.get? a=Ä)->XC X B s.heap f cl n ds->
  Sx X A B s (call (.ref f) [.int L tl,.int R tr]) (.int (ny n ((ds.drop L).take<|R-L):Á)) 0
def De(X:Cx)(k:Á)(env:ey)(sc:Sc)(c:PB)(σ:St)(t:ŭ Ë)(v:V)(b:St):Prop:=
 ∀(P:Ĳ->Prop)(B:PB)(f:Á->Ã Ĳ)(A:q6)(s:ŕ)(Q:Ë->ŕ->Prop)(E:Ë->ŕ->Prop),ţ k A->ŀ c B->Ok X.T P B env sc.dl sc.wl σ f s.heap->
  (∀val s' B' a,Ķ env P s s' B B'->Ok X.T P B' env sc.dl sc.wl b a s'.heap->VR B' v val->Q val s')->wq X A t Q E s
section
variable{X:Cx}{k:Á}{sc:Sc}
def SE.X5(h:SE X k sc e pe)(f:env.scope.names=sc.kinds)(p:ß pe σ=À (v,m,ø)):De X k env sc B0 σ (eval e env) v ø:=
 λP B c A s Q E R _ K q=>(h env f σ v m ø p).é P B c A s Q E R K λt o j a g S1 b O _ _=>q t o j a S1 b O.vr
def De.Õ(t:De X k env sc B0 σ (eval l env) x Ø)(j:De X k env sc B0 Ø (eval r env) y dM)(h:ü op x y=À (v,0)):De X k env sc B0 σ (eval (.BinOp l op r p) env) v dM:=by
 intro P B o A s Q E R hB K q;exact wpAny_BinOp<|t P B o A s _ _ R hB K λH D C a S1 w g=>j P C a A D _ _ R (hB.trans S1.le) w λI L J b c f m=>(vL h (g.mono c.le) m f.base).use f λval s' B' as S K' O G fr=>q val s' B' b ((S1.trans c).trans S) K' O.vr
def HC(IH:AO X d)(he:env.scope.names=sc.kinds)
  {n L R:Á} (hA:sc.δ.lookup ("digits":Str)=À jd) (hf:sc.δ.lookup ("inner":Str)=À jf) (hn:sc.δ.lookup ("n":Str)=À jn)
  (hk:∀y:Str,y="digits"\/y="inner"\/y="n"->sc.kinds.lookup y≠À .local) (j:∀y c,cl.lookup y=À c->env.cells.lookup y=À c) (h:BD X B0 f cl)
  (H:eV X k sc (e::es) i6) (hp:ď i6 σ=À ([.int L,.int R],Ø)) (g0:σ.get jf=À (.fn f,0)) (ga:Ø.get jd=À (.Ñ<|lM ds,0)) (gf:Ø.get jf=À (.fn f,0)) (gn:Ø.get jn=À (.int n,0))
  (b1:R-L<=2^d) (b2:L<R) (b3:R<=ds.length) (b4:ds.length<=1000) (b5:n*ds.length<=8000) (b6:n<=4000) (b7:∀d∈ds,d<2^n) (Y:d+1<=k):
  De X k env sc B0 σ (eval (.Call (.Name "inner" p) (e::es) [] pos) env) (.int (ny n ((ds.drop L).take<|R-L):Á)) Ø:=by
 intro P B α A s Q E hR hB K q;refine K.Æ "inner" jf _ _ hf g0 λval Fo O _=>?_;obtain⟨rfl,o,fd,ho,hd⟩:=r7 O;apply gQ<|j5 (Fo.load K.kind ?_) rfl;have key:wq X A (jt (.ref f) true (ş pos<|ϧ (e::es) env) []) (λa m=>(m.heap.get? f=À o/\o.data=.func fd)/\wq X A (Î (.ref f) ([]++a.pos) a.kw) Q E m) E s:=
  H.args (H.spliced he pos hp P B α A s _ _ hR K λvals I B1 W S1 g lH=>⟨⟨g.base _ _<|S1.le _ _ ho,hd⟩,by
   refine g.Æ "digits" jd _ _ hA ga λv1 a1 O1 _=>?_;refine g.Æ "inner" jf _ _ hf gf λv2 a2 O2 _=>?_;refine g.Æ "n" jn _ _ hn gn λv3 a3 O3 _=>?_;have nl:∀y:Str,y="digits"\/y="inner"\/y="n"->env.kindOf y≠À .local:=λy D=>by unfold bC;exact Å he<|hk y D
   have b:∀(y:Str)(v:Ë),(y="digits"\/y="inner"\/y="n")->At I.heap env y v->(∃c,cl.lookup y=À c)->∃c,cl.lookup y=À c/\I.heap.IsCell c (À v):=λy v D ha hc=>by
    rcases ha with⟨kd,_⟩|⟨kd,c,J,M⟩
    .exact ó kd<|nl y D
    .refine å hc λc' t=>?_;obtain rfl:=à<|J.symm.trans<|j y c' t;exact⟨c,t,M⟩
   have e3:v2=.ref f:=(r7 O2).1;subst e3;obtain⟨t3,rfl⟩:=sU O3;have C:XC X B1 I.heap f cl n ds:=⟨h.mono<|hB.trans S1.le,λy z c x G=>g.cells y z c (j y c x)<|j z c G,λy c D=>g.Ė y c<|j y c D,(by obtain⟨c,x,G⟩:=b _ _ (.inl rfl) a1 (h.ex _<|by decide);exact⟨c,v1,x,G,O1.vr⟩),(by obtain⟨c,x,G⟩:=b _ _ (.inr<|.inr rfl) a3 (h.ex _<|by decide);exact⟨c,t3,x,G⟩),b _ _ (.inr<|.inl rfl) a2<|h.ex _<|by decide⟩
   apply Nv lH;intro _ _ w1 w2;apply ê w1;intro _;apply ê w2;intro _;exact(IH A B1 I f cl n L R ds _ _ b1 b2 b3 b4 b5 b6 b7 (hR.less Y) g.top g.base g.Se C).use g λval s' B' as S K' O _ _=>q val s' B' W (S1.trans S) K' O.vr⟩)
 exact lJ (o:=o) (fd:=fd) key
end
def CL(L R:Á)(ds:Ã Á)(n:Á)(f:Ĳ)(a b:Ï (V×Á)):St:=
 [À (.int L,0),À (.int R,0),a,b,À (.Ñ<|lM ds,0),À (.int n,0),À (.fn f,0)]
def Ie(h:i<ds.length):(lM ds)[i]?=À (.int (ds[i]:Á)):=by simp[lM,h]
def Bk(a:L+1=R)(h:L<ds.length)(v:ds.length<=1000000):
  ċ 50 FP (CL L R ds n f Ä Ä)=À (.ret<|.int (ds[L]:Á),CL L R ds n f Ä Ä):=by
 subst a;have ev:ō (.Ñ<|lM ds) (.int (L:Â))=À (.int (ds[L]:Á)):=by
  have p:place (lM ds).length (L:Â)=À L:=by unfold place lM;refine Å (É ..) (Å (ť v ..)<|Å (ť (by exact(A1 3571)) ..)<|Å (ť (by exact(A2 7798525974) h) ..) ?_);simp
  exact(fb (x:=place (lM ds).length (L:Â)) p (Ie h):yw (lM ds) L=_)▸rfl
 exact ra<|oW (Ă (Û (Ç rfl) ļ rfl) (Ç rfl)<|Ù À<|show((L:Â)+1==((L+1:Á):Â))=true by simp) rfl<|mK<|nO rfl (Ç rfl) rfl (by decide) ev
def BC(m:L+1≠R)(h:L<R)(b:n<=4000)(a:R<=1000):
  ċ 50 FP (CL L R ds n f Ä Ä)=À (.next,CL L R ds n f (À (.int ((L+R)/2:Á),0))<|À (.int (n*((L+R)/2-L):Á),0)):=by
 have e:((L:Â)+1==(R:Â))=false:=by simp;exact(A2 0x1de0d8591e08296) m
 have g:((L:Â)+(R:Â)).fdiv (2^(1:Â).toNat)=(((L+R)/2:Á):Â):=by
  simpa using(ir (L+R) 2)
 have p:(((L+R)/2-L:Á):Â)*(n:Â)=((n*((L+R)/2-L):Á):Â):=by refine Å (fY ..) ?_;simp
 have t:ü .RShift (.int<|(L:Â)+(R:Â)) (.int 1)=À (.int (((L+R)/2:Á):Â),0):=by show(if(0:Â)<=1 then À (V.int<|((L:Â)+(R:Â)).fdiv<|2^(1:Â).toNat,0) else Ä)=_;exact Å (ť<|by decide)<|Å g rfl
 have q:ü .Sub (.int (((L+R)/2:Á):Â)) (.int (L:Â))=À (.int (((L+R)/2-L:Á):Â),0):=Ù (λx=>À (V.int x,0))<|(A4 0x109d1d0d95f21722173182183021a82762116) h<|dm _ 2;have w:ü .Mult (.int (((L+R)/2-L:Á):Â)) (.int (n:Â))=À (.int ((n*((L+R)/2-L):Á):Â),0):=by
  exact((Å (bx<|dU (show(L+R)/2-L<=1000 by exact(A4 0x3e8373090f21722171182381021a82763e837206) a<|dm _ 2)<|ϱ (by decide:1000<2^10)<|a8 (by decide)<|by decide)<|Å (bx<|dU b<|ϱ (by decide:4000<2^12)<|a8 (by decide)<|by decide)<|Å p rfl):(if(Ĕ (((L+R)/2-L:Á):Â)&&Ĕ (n:Â))=true then À (V.int<|(((L+R)/2-L:Á):Â)*(n:Â),0) else Ä)=_)
 have t0:Ĥ .Eq (.int<|(L:Â)+1) (.int (R:Â))=À false:=Ù À e;exact pG (Ă (Û (Ç rfl) ļ rfl) (Ç rfl) t0) rfl ē<|aa (Û (Û (Ç rfl) (Ç rfl) rfl) ļ t)<|aa (Û (Û (Ç rfl) (Ç rfl) q) (Ç rfl) w) ē
section
variable{X:Cx}{k:Á}
def KP:SS X k dC 50 ((Þ<|ah 11 0).take 3) FP:=by
 refine SS.cons ?_ ?_
 .refine .Ŗ ?_ ?_ .nil
  .refine .cmp ?_<|.name rfl
   .refine .eR ?_ .mP
    .exact .name rfl
  .refine .cons ?_ .nil
   .refine .ret ?_;refine .ä rfl ?_
    .exact .name rfl
 .refine .cons ?_ ?_
  .refine .î rfl rfl ?_
   .refine .eR ?_ .mP
    .exact .eR (.name rfl)<|.name rfl
  .refine .cons ?_ .nil
   .refine .î rfl rfl ?_
    .refine .eR ?_<|.name rfl
     .exact .eR (.name rfl)<|.name rfl
def Ow:(Þ<|ah 11 0).drop 3=[.Return (À (.BinOp (.BinOp (.Call (.Name "inner" ⟨100,16,100,21⟩) [.Name "mid" ⟨100,22,100,25⟩,.Name "R" ⟨100,27,100,28⟩] [] ⟨100,16,100,29⟩) .LShift (.Name "shift" ⟨100,33,100,38⟩) ⟨100,16,100,38⟩) .Add
 (.Call (.Name "inner" ⟨100,42,100,47⟩) [.Name "L" ⟨100,48,100,49⟩,.Name "mid" ⟨100,51,100,54⟩] [] ⟨100,42,100,55⟩) ⟨100,15,100,55⟩)) ⟨100,8,100,55⟩]:=by rfl
def LM(g:sc.δ.lookup x=À a)(h:sc.δ.lookup y=À b)(f:(x==("__debug__":Str))=false:=by decide)(c:(y==("__debug__":Str))=false:=by decide):eV X k sc [.Name x p1,.Name y p2] [.Æ a,.Æ b]:=
 .cons rfl (.name g f) (.cons rfl (.name h c) .nil)
def Hb(d:Á)(ih:∀D,d=D+1->AO X D):AO X d:=by
 intro A B s f cl n L R ds tl tr b1 b2 b3 b4 b5 b6 b7 hR top hB hex C Q E q;refine OV C.st.fo λo ct code pm ho hd LX=>?_;refine oO (k:=d) (sc:=dC) (params:=["L","R"]) (cl:=cl) (vs:=[.int L,.int R]) (σ0:=CL L R ds n f Ä Ä) (α0:=λi=>[]) (own:=[]) ho hd (LX s.heap hB) rfl rfl rfl rfl rfl rfl rfl rfl rfl (by decide) (by decide) (by decide) rfl
  (λx hx=>?_) (by decide) hR top hB hex (.cons .int<|.cons .int .nil) C.inj C.is (λx hx=>C.st.ex x<|(show∀x,dC.kinds.lookup x=À .free->(x,Ő)∈ŵ (ah 11 0) from λx h=>mem_of_lookup h) x hx) (λy i v m hy I=>?_) (λi j Ap a ha hb=>by exact ϭ ha) (λa ha=>by exact ϭ ha) λenv H tk en ec eL W K keep=>?_
 .have:x∈dC.wr:=by simpa using hx
  simp[dC] at this;rcases this with rfl|rfl|rfl|rfl<;>decide
 .have hm:=mem_of_lookup hy;refine LF C.dig λcd dv RR Y ZW=>?_;refine wO C.n λcn t Na O=>?_;refine ì C.inner λci V9 J=>?_;simp[dC] at hm;rcases hm with⟨rfl,rfl⟩|⟨rfl,rfl⟩|⟨rfl,rfl⟩|⟨rfl,rfl⟩|⟨rfl,rfl⟩|⟨rfl,rfl⟩|⟨rfl,rfl⟩<;>simp[CL,St.get] at I
  .obtain⟨rfl,rfl⟩:=I;exact .inl ⟨rfl,rfl,rfl,rfl⟩
  .obtain⟨rfl,rfl⟩:=I;exact .inl ⟨rfl,rfl,rfl,rfl⟩
  .obtain⟨rfl,rfl⟩:=I;exact .inr ⟨cd,dv,by decide,by decide,RR,Y,.z ZW,by simp⟩
  .obtain⟨rfl,rfl⟩:=I;exact .inr ⟨cn,.int n t,by decide,by decide,Na,O,.z .int,by simp⟩
  .obtain⟨rfl,rfl⟩:=I;exact .inr ⟨ci,.ref f,by decide,by decide,V9,J,.z<|.fn ho hd,by simp⟩
 .have fin:∀P p g(dM:St)val,Step (λb=>s.heap.get? b=Ä\/b∈bS\/b∈([]:Ã Ĳ)) {s with heap:=H,toks:=tk} P B p->Ok X.T (λb=>s.heap.get? b=Ä\/b∈bS\/b∈([]:Ã Ĳ)) p env dC.dl dC.wl dM g P.heap->
    VR p (.int (ny n ((ds.drop L).take<|R-L):Á)) val->Q val P:=by
   intro P p g dM val S K2 I;obtain⟨h2,X2,rfl⟩:=S.eq;refine q val h2 X2 p [] ⟨λa o hm e=>S.kept a o (keep a o e) λh=>?_,S.le,K2.base,λa o e=>?_⟩ (λa ha=>(K2.ex a ha).2) (.z I) λ_ h=>by cases h
   .rcases h with h|h|h
    .exact gC<|e.symm.trans h
    .exact hm h
    .exact ϭ h
   .rcases S.new a o e with h|h|h|h
    .exact .inl h
    .exact .inr h
    .rw[(K2.ex a h).2.fresh] at e;exact ÿ e
    .exact ϭ h
  rw[(show Þ (ah 11 0)=(Þ<|ah 11 0).take 3++(Þ<|ah 11 0).drop 3 from(xM ..).symm),iH];by_cases G:L+1=R
  .refine Ü<|KP env en _ _ _ (Bk (n:=n) (f:=f) G (Nt ‹_› ‹_›:L<ds.length)<|ϴ ‹_› rfl) _ B _ _ {s with heap:=H,toks:=tk} _ _ W K λfl P p g S K2 hf=>?_;apply r5 hf;intro _ hr
   .refine õ<|fin P p g _ _ S K2 ?_;have e1:(ds.drop L).take (R-L)=[ds[L]'(Nt ‹_› ‹_›)]:=by
     rw[show R-L=1 by exact(A2 0xe10920e1826) G,fH<|by exact Nt ‹_› ‹_›];rfl
    rw[e1];simpa[ny] using hr
  .have d0:d≠0:=λh=>by subst h;simp at b1;exact(A2 0xe81091e082961016) b2 G b1
   obtain⟨D,rfl⟩:∃D,d=D+1:=⟨d-1,by exact(A1 0xee09802f0296) d0⟩
   have IH:=ih D rfl;refine Ü (KP env en _ _ _ (BC (n:=n) (ds:=ds) (f:=f) G b2 b6<|by exact UD ‹_› ‹_›) _ B _ _ {s with heap:=H,toks:=tk} _ _ W K λfl P p g S K2 hf=>?_);apply m9 hf;rw[Ow];generalize hM:(L+R)/2=M at*;have m1:L<M:=by exact(A5 0x411f21722173180183221a827642260e182960116) b2 G hM<|dm _ 2
   have m3:R-M<=2^D:=by rw[pC] at b1;exact(A6 0x5490f21722172184182321a82765326021b14906) b1 hM<|dm _ 2
   have m4:M-L<=2^D:=by rw[pC] at b1;exact(A6 0x4590f21722173181483221a82760519065226) hM m3<|dm _ 2
   have E1:De X (D+1) env dC p (CL L R ds n f (À (.int M,0))<|À (.int (n*(M-L):Á),0)) (eval (.Call (.Name "inner" ⟨100,16,100,21⟩) [.Name "mid" ⟨100,22,100,25⟩,.Name "R" ⟨100,27,100,28⟩] [] ⟨100,16,100,29⟩) env) (.int (ny n ((ds.drop M).take<|R-M):Á)) (CL L R ds n f (À (.int M,0))<|À (.int (n*(M-L):Á),0)):=
    HC (jd:=4) (jf:=6) (jn:=5) (cl:=cl) IH en rfl rfl rfl (λy hy=>by rcases hy with rfl|rfl|rfl<;>decide) (λy c h=>by rw[ec];exact h) (C.st.mono S.le) (LM (a:=2) (b:=1) rfl rfl) rfl rfl rfl rfl rfl m3 (by exact(A5 0x311f21722174183084221a827612263016) b2 hM<|dm _ 2) b3 b4 b5 b6 b7 (aj _)
   have E2:De X (D+1) env dC p (CL L R ds n f (À (.int M,0))<|À (.int (n*(M-L):Á),0)) (eval (.Call (.Name "inner" ⟨100,42,100,47⟩) [.Name "L" ⟨100,48,100,49⟩,.Name "mid" ⟨100,51,100,54⟩] [] ⟨100,42,100,55⟩) env) (.int (ny n ((ds.drop L).take<|M-L):Á)) (CL L R ds n f (À (.int M,0))<|À (.int (n*(M-L):Á),0)):=
    HC (jd:=4) (jf:=6) (jn:=5) (cl:=cl) IH en rfl rfl rfl (λy hy=>by rcases hy with rfl|rfl|rfl<;>decide) (λy c h=>by rw[ec];exact h) (C.st.mono S.le) (LM (a:=0) (b:=2) rfl rfl) rfl rfl rfl rfl rfl m4 m1 ((A6 0x300f21722175184185221a8276022634064116) b2 b3 hM<|dm _ 2) b4 b5 b6 b7 (aj _)
   have ES:De X (D+1) env dC p (CL L R ds n f (À (.int M,0))<|À (.int (n*(M-L):Á),0)) (eval (.Name "shift" ⟨100,33,100,38⟩) env) (.int (n*(M-L):Á)) (CL L R ds n f (À (.int M,0))<|À (.int (n*(M-L):Á),0)):=
    SE.X5 (pe:=.Æ 3) (.name rfl) en rfl
   have Y5:n*(M-L)<=8000:=ú (ϥ n (by exact(A6 0x4190f21722175182485321a827613260206) b3 hM (dm _ 2):M-L<=ds.length)) b5;have MQ:ny n ((ds.drop M).take<|R-M)<2^8000:=by
    refine ϱ (Lw n _ λd hd=>b7 d<|ta<|su hd) (a8 (by decide)<|ú (ϥ n ?_) b5);rw[eD,bO];exact(A6 0x1003190232931917329023193290786351634262e5829612062516) b2 b3 G hM m1<|Aj _ _
   have v1:ü .LShift (.int (ny n ((ds.drop M).take<|R-M):Á)) (.int (n*(M-L):Á))=À (.int ((ny n ((ds.drop M).take<|R-M)*2^(n*(M-L)):Á):Â),0):=by
    generalize ny n ((ds.drop M).take<|R-M)=w at*;generalize n*(M-L)=u at*;refine(?_:(if(0:Â)<=(u:Â)/\(u:Â)<=10000/\Ĕ ((w:Á):Â)=true then À (V.int<|((w:Á):Â)*2^((u:Â)).toNat,0) else Ä)=_);rw[ť ⟨by omega,by exact(A1 0x2710470d31f4047006) Y5,bx MQ⟩];simp
   have v2:ü .Add (.int ((ny n ((ds.drop M).take<|R-M)*2^(n*(M-L)):Á):Â)) (.int (ny n ((ds.drop L).take<|M-L):Á))=À (.int ((ny n ((ds.drop L).take<|R-L):Á):Â),0):=by
    have e:=IK n ((ds.drop L).take<|M-L)<|(ds.drop M).take<|R-M;have e1:(ds.drop L).take (M-L)++(ds.drop M).take (R-M)=(ds.drop L).take (R-L):=by
     have:ds.drop M=(ds.drop L).drop (M-L):=by rw[f3];congr 1;exact(A2 1138569117974) m1
     rw[this,show R-L=(M-L)+(R-M) by exact(A5 0x2910981292f21722174182184321a82760326) hM<|dm _ 2];exact(take_add ..).symm
    have e2:((ds.drop L).take<|M-L).length=M-L:=by rw[eD,bO];omega
    rw[e1,e2] at e;refine(?_:À (V.int _,0)=_);rw[e];simp
   exact mI<|xA<|((E1.Õ ES v1).Õ E2 v2) _ p g _ P _ _ W (.refl _) K2 λval s3 B3 NI S3 K3 I=>fin s3 B3 NI _ val (S.trans S3.toStep) K3 I
def Dc:∀d,AO X d
 |0=>Hb 0 λa h=>by omega
 |d+1=>Hb (d+1) λa h=>by
  have:a=d:=by omega
  subst this;exact Dc a
end
set_option tactic.hygienic true
def ao:Sc:={kinds:=ŵ<|Ê 11,δ:=[("digits",0),("n",1),("inner",2)],wr:=["digits","n","inner"]}
def yD(h:ϫ xs=À ns):xs=ns.map .int:=by
 induction xs generalizing ns with
 |nil=>exact à h▸rfl
 |cons x xs ih=>
  unfold ϫ at h;rw[gU] at h;refine ð h λi a h=>ð h λm b h=>?_;obtain rfl:=à h;cases Ú (a:=x) (x:=i) a;exact Ù (_::·)<|ih b
def M5:Þ (Ê 11)=[.FunctionDef "inner" (uo<|ah 11 0) (Þ<|ah 11 0) [] Ä [] (iV<|ah 11 0) Ä "inner" (KZ<|ah 11 0),.Return (À<|.IfExp (.Name "digits" ⟨101,36,101,42⟩) (.Call (.Name "inner" ⟨101,11,101,16⟩) [.Constant (.int 0) 0 ⟨101,17,101,18⟩,.Call (.Name "len" ⟨101,20,101,23⟩) [.Name "digits" ⟨101,24,101,30⟩] [] ⟨101,20,101,31⟩] [] ⟨101,11,101,32⟩) (.Constant (.int 0) 0 ⟨101,48,101,49⟩) ⟨101,11,101,49⟩) ⟨101,4,101,49⟩]:=by rfl
def I3(n:Á):∀ds:Ã Á,(ds.map λ(d:Á)=>(d:Â)).foldr (λd r=>r*2^((n:Á):Â).toNat+d) 0=((ny n ds:Á):Â):=by
 intro r0
 induction r0 with
 |nil=>exact rfl
 |cons d ds ih0=>
  refine Å mC<|Å oY<|Å (ih0) ?_;unfold ny;refine Å oY ?_;simp
section
variable{X:Cx}{k:Á}
def Fh(G:Gl X)(BI:bB X){fd:j1}{j:Â}(hk:fd.scope.names=ao.kinds)(hq:fd.qualname="_digits2int")(hc:fd.code=.ref c)(hC:jO X c ND.a)
  (KU:ϫ xs=À ns) (v:0<=j/\j<=4000/\xs.length<=256/\j*xs.length<=8000/\(∀d∈ns,0<=d/\d<2^j.toNat)):Ex X (k+9) (callEnvC fd L a) ao.dl ao.wl [À (.Ñ xs,0),À (.int j,0),Ä] (execs (Þ<|Ê 11)<|callEnvC fd L a)
   (.ret<|.int<|ns.foldr (λd r=>r*2^j.toNat+d) 0) [À (.Ñ xs,0),À (.int j,0),Ä]:=by
 generalize g:callEnvC fd L a=env;have en:env.scope.names=ao.kinds:=Đ g hk;obtain⟨c1,c2,C,c4,c5⟩:=v;obtain⟨n,rfl⟩:∃n:Á,j=(n:Â):=⟨j.toNat,((wo 0xd05f02f04700d50f37860f36) c1<|iY _)⟩
 obtain rfl:=yD KU;obtain⟨ds,rfl⟩:∃ds:Ã Á,ns=ds.map λ(d:Á)=>(d:Â):=⟨ns.map (·.toNat),by
  refine Å ſ ?_
  conv=>lhs;rw[<-map_id ns]
  refine ae λd hd=>?_;have:=(c5 d hd).1;exact((wo 0xd05f02f04700d50f37860f36) this (iY _):d=((d.toNat:Á):Â))⟩
 have e1:(ds.map λ(d:Á)=>(d:Â)).map V.int=lM ds:=by unfold lM;rw[ſ];rfl
 rw[I3];rw[e1] at C c4⊢;have b:(lM ds).length=ds.length:=by simp[lM]
 rw[b] at C c4;have W:n*ds.length<=8000:=by
  have h:((n*ds.length:Á):Â)<=8000:=by rw[xn];exact c4
  omega
 have b7:∀d∈ds,d<2^n:=λd hd=>by
  have:=(c5 d<|mem_map_of_mem hd).2;rw[Ě] at this;exact_mod_cast this
 intro P B α A s Q E S K q;rw[M5];refine mI<|qY (sc:=ao) (i:=2) ND (.tail _<|.head _) (Đ g hc) hC rfl rfl (λy H h=>J5 H (.inr rfl) h) ?_ rfl (by intro env;rfl) BI en rfl rfl (λy H=>?_) ⟨"n",by decide⟩ K λf fo cl ct code pm s2 B2 cR S2 K2 YR NM NC D x LX=>?_
 .unfold yi;have:(env.kindOf "inner"==À .globalExplicit)=false:=by unfold bC;rw[en];decide
  rw[this,(show env.qual="_digits2int"++".<locals>." from Đ g (Å hq rfl:fd.qualname++".<locals>."=_))];decide
 .exact(show∀p∈ŵ (ah 11 0),p.2=.free->ao.kinds.lookup p.1=À .cell\/ao.kinds.lookup p.1=À .free by decide) _ H rfl
 have ht:Ó (.Ñ<|lM ds)=À (!(lM ds).isEmpty):=by
  simp only[Ó];rw[ť (by rw[b];exact(A1 0xf4240570110037006) C)]
 apply mI<|xA<|Ep<|(show cG X (k+9) ao (.Name "digits" ⟨101,36,101,42⟩) (.Æ 0) from .val<|.name rfl) env en _ _ _ _ (!(lM ds).isEmpty) (show ß (.Æ 0) _=À (.Ñ<|lM ds,0,_) from rfl) ht P B2 cR A s2 _ _ S K2 λs3 I w S3 K3=>?_;by_cases hx:ds=[]
 .subst hx;refine(?_:ϛ _ _ (eval (.Constant (.int 0) 0 ⟨101,48,101,49⟩) env) _ _ _);have J:De X (k+9) env ao I [À (.Ñ<|lM [],0),À (.int (n:Â),0),À (.fn f,0)] (eval (.Constant (.int 0) 0 ⟨101,48,101,49⟩) env) (.int 0) [À (.Ñ<|lM [],0),À (.int (n:Â),0),À (.fn f,0)]:=SE.X5 (pe:=.c<|.int 0) .mP en rfl;exact J P I w A s3 _ _ S (.refl _) K3 λval Y B4 o S4 O M=>q (.ret val) Y B4 o (S2.trans<|S3.toStep.trans S4.toStep) (O.aaa [2])<|.ret M
 .rw[(show(!(lM ds).isEmpty)=true by cases ds with|nil=>exact ó rfl hx|cons d r=>rfl)];simp;have HS:eV X (k+9) ao [.Constant (.int 0) 0 ⟨101,17,101,18⟩,.Call (.Name "len" ⟨101,20,101,23⟩) [.Name "digits" ⟨101,24,101,30⟩] [] ⟨101,20,101,31⟩] [.c (.int 0),.č 0]:=
   .cons rfl .mP (.cons rfl (.č (G.bi (by decide) rfl rfl<|by decide) rfl) .nil)
  have J:De X (k+9) env ao I [À (.Ñ<|lM ds,0),À (.int (n:Â),0),À (.fn f,0)] (eval (.Call (.Name "inner" ⟨101,11,101,16⟩) [.Constant (.int 0) 0 ⟨101,17,101,18⟩,.Call (.Name "len" ⟨101,20,101,23⟩) [.Name "digits" ⟨101,24,101,30⟩] [] ⟨101,20,101,31⟩] [] ⟨101,11,101,32⟩) env) (.int (ny n ((ds.drop 0).take<|ds.length-0):Á)) [À (.Ñ<|lM ds,0),À (.int (n:Â),0),À (.fn f,0)]:=
   HC (d:=8) (jd:=0) (jf:=2) (jn:=1) (cl:=cl) (σ:=[À (.Ñ<|lM ds,0),À (.int (n:Â),0),À (.fn f,0)]) (L:=0) (R:=ds.length) (Dc 8) en rfl rfl rfl (λy H=>by rcases H with rfl|rfl|rfl<;>decide) D ((show BD X B2 f cl from⟨⟨fo,ct,code,pm,NM,NC,LX⟩,x⟩).mono S3.le) HS
    (by
     have hl:dD (.Ñ<|lM ds)=À (ds.length:Â):=by
      refine(?_:(if(lM ds).length<=1000000 then À ((lM ds).length:Â) else Ä)=_);rw[b,ť<|ú C<|by decide]
     exact Ð ļ<|Ð (xN rfl hl) Ą) rfl rfl rfl rfl (ú (Nat.sub_le _ _) C) (length_pos_iff.2 hx) (aj _) (ϴ ‹_› rfl) W ((A1 0xfa03700fa0370d36) c2) b7 (by exact(A1 39041143152))
  rw[List.drop_zero,tn,List.take_length] at J;exact J P I w A s3 _ _ S (.refl _) K3 λval Y B4 o S4 O M=>q (.ret val) Y B4 o (S2.trans<|S3.toStep.trans S4.toStep) (O.aaa [2])<|.ret M
def Ϩ.yJ(G:Gl X)(H:bB X){a c:Ĳ}{o:Obj}(B:X.T.get? a=À o)(I:o.data=.func fd)(f:X.T.CodeRec fd.code fd.qualname)(b:fd.body=.stmts (Þ<|Ê 11))
  (s:fd.closure=[]) (E:fd.globals=ż) (t:fd.builtins=br) (j:∀vals:Ã Ë,vals.length=2->lO fd ⟨vals,[]⟩=pure ((["digits","n"]:Ã Str).zip vals)) (A:fd.scope.names=ao.kinds) (p:fd.scope.kind=.function)
  (w:fd.scope.isCoroutine=false) (q:fd.scope.isGenerator=false) (hq:fd.qualname="_digits2int") (C:fd.code=.ref c) (D:jO X c ND.a):Ϩ X (k+10) (.ref a) ğ:=
 Ϩ.zU (sc:=ao) (params:=["digits","n"]) (n:=3) B I f b s E t j A p w q rfl λvs v m h=>
  iT Ğ Ú (M:=λvs=>PV X (k+9) fd a ao (Þ<|Ê 11) 3 2 vs v m) h λxs n h=>ð (x:=ϫ xs) h λJ y h=>Ϲ h λg h=>â h ⟨rfl,rfl,_,_,.ret,λL=>Fh G H A hq C D y g⟩
end
set_option tactic.hygienic false
def oN:VF:=HK ϐ ϐ λa b=>if b≠0/\Ĕ a=true then À (.ñ [.int (a.fdiv b),.int<|a.fmod b],0) else Ä
section
variable{X:Cx}{k:Á}
def ç.divmod:ç X k (.builtin "divmod") oN:=
 ç.of2 Ú Ú λh R hB hx y=>Ϲ h λb h=>â h (by
  apply ê hx;intro t;apply ê y;intro u;intro Q E q;exact divmod_int b.1 (q _ _ _ _ [] (kN hB _ rfl) (.z<|.ñ (PB.cS _ _ _) rfl rfl<|.cons .int<|.cons .int .nil) λ_ h=>ϭ h)<|.inl<|qi b.2)
def ei:Sc:={kinds:=ŵ<|Ê 8,δ:=[("a",0),("b",1),("n",2)],wr:=["a","b","n"]}
def Pw(G:Gl X):cG X k ei (.Compare (.BinOp (.Call (.Attribute (.Name "a" ⟨52,7,52,8⟩) "bit_length" ⟨52,7,52,19⟩) [] [] ⟨52,7,52,21⟩) .Sub (.Name "n" ⟨52,24,52,25⟩) ⟨52,7,52,25⟩) [.LtE] [.Name "_DIV_LIMIT" ⟨52,29,52,39⟩] ⟨52,7,52,39⟩)
  (.cmp .LtE (.Õ .Sub (.fn Ź [.Æ 0])<|.Æ 2)<|.c<|.int 4000):=by
 refine .cmp ?_<|.Bd rfl<|G.cI ("_DIV_LIMIT",4000)<|by decide
 .refine .eR ?_<|.name rfl
  .refine .vu (T:=?T) (id:=?i) ?_ ?_ ?_ ?_ ?_
   case T=>exact"int"
   case i=>exact"int.bit_length"
   .exact bY
   .exact .name rfl
   .exact .nil
   .exact .jG
   .exact bT
def QL(G:Gl X):SS X k ei 50 [.Return (À<|.Call (.Name "divmod" ⟨53,15,53,21⟩) [.Name "a" ⟨53,22,53,23⟩,.Name "b" ⟨53,25,53,26⟩] [] ⟨53,15,53,27⟩) ⟨53,8,53,27⟩] [.ret (.fn oN [.Æ 0,.Æ 1])]:=by
 apply SS.cons ?_ .nil
 .refine .ret ?_;refine .call (fv:=?fv) ?_ ?_ ?_
  case fv=>exact Et "divmod"
  .exact G.bi (by decide) rfl rfl<|by decide
  .exact LM rfl rfl
  .exact .divmod
def Qy:Þ (Ê 8)=.If (.Compare (.BinOp (.Call (.Attribute (.Name "a" ⟨52,7,52,8⟩) "bit_length" ⟨52,7,52,19⟩) [] [] ⟨52,7,52,21⟩) .Sub (.Name "n" ⟨52,24,52,25⟩) ⟨52,7,52,25⟩) [.LtE] [.Name "_DIV_LIMIT" ⟨52,29,52,39⟩] ⟨52,7,52,39⟩)
 [.Return (À<|.Call (.Name "divmod" ⟨53,15,53,21⟩) [.Name "a" ⟨53,22,53,23⟩,.Name "b" ⟨53,25,53,26⟩] [] ⟨53,15,53,27⟩) ⟨53,8,53,27⟩] [] ⟨52,4,53,27⟩::(Þ<|Ê 8).drop 1:=by rfl
def HV(G:Gl X)(en:env.scope.names=ei.kinds)(h:b≠0/\ϖ a.natAbs-n<=4000/\a.natAbs.log2<8000/\b.natAbs.log2<8000):Ex X k env ei.dl ei.wl [À (.int a,0),À (.int b,0),À (.int n,0)] (execs (Þ<|Ê 8) env) (.ret<|.ñ [.int (a.fdiv b),.int<|a.fmod b]) [À (.int a,0),À (.int b,0),À (.int n,0)]:=by
 intro P B m A s Q E R K q;rw[Qy,wK];have D:Ĥ .LtE (.int<|ϖ a.natAbs-n) (.int 4000)=À true:=by show À (decide<|ϖ a.natAbs-n<=4000)=_;exact Å (ix h.2.1) rfl
 have p:ß (.cmp .LtE (.Õ .Sub (.fn Ź [.Æ 0])<|.Æ 2)<|.c<|.int 4000) [À (.int a,0),À (.int b,0),À (.int n,0)]=À (.bool true,0,[À (.int a,0),À (.int b,0),À (.int n,0)]):=Ă (Û (dJ (Ð (Ç rfl) Ą) rfl) (Ç rfl) rfl) ļ D;apply Ü<|sE<|Pw G env en _ _ _ _ true p rfl P B m A s _ _ R K λH y f S1 j=>?_;simp;have v:Ĕ a=true:=by unfold Ĕ;simp;exact h.2.2.1
 have x:oN [.int a,.int b]=À (.ñ [.int (a.fdiv b),.int<|a.fmod b],0):=ť ⟨h.1,v⟩;refine QL G env en _ (.ret<|.ñ [.int (a.fdiv b),.int<|a.fmod b]) [À (.int a,0),À (.int b,0),À (.int n,0)] (mK<|dJ (Ð (Ç rfl)<|Ð (Ç rfl) Ą) x) P y f A H _ _ R j λfl o I g S w C=>?_;apply r5 C;intro _ t;exact õ<|q (.ret _) o I g (S1.toStep.trans S) w<|.ret t
def Ϩ.I5(G:Gl X)(w:X.T.get? a=À o)(C:o.data=.func fd)(c:X.T.CodeRec fd.code fd.qualname)(b:fd.body=.stmts (Þ<|Ê 8))
  (p:fd.closure=[]) (B:fd.globals=ż) (q:fd.builtins=br) (f:∀vals:Ã Ë,vals.length=3->lO fd ⟨vals,[]⟩=pure ((["a","b","n"]:Ã Str).zip vals)) (t:fd.scope.names=ei.kinds) (g:fd.scope.kind=.function)
  (s:fd.scope.isCoroutine=false) (j:fd.scope.isGenerator=false):Ϩ X (k+1) (.ref a) cU:=
 Ϩ.zU (sc:=ei) (params:=["a","b","n"]) (n:=3) w C c b p B q f t g s j rfl λvs v m h=>
  Ŀ (M:=λvs=>PV X k fd a ei (Þ<|Ê 8) 3 3 vs v m) h (λ_ h=>ÿ h) (λ_ _ h=>ÿ h) λ_ _ _ h=>
   iP Ú Ú Ú (M:=λx y z=>PV X k fd a ei (Þ<|Ê 8) 3 3 [x,y,z] v m) h λ_ _ _ h=>Ϲ h λA h=>â h ⟨rfl,rfl,_,_,.ret,λL=>HV G t A⟩
end
section
variable{X:Cx}{k:Á}{sc:Sc}{Fu:Á}
def SX.Mv:SX X k sc Fu (.Raise e c p) (.mO []<|.c .none):=by
 intro env h σ o a v;exact ÿ v
end
def ĸ:Sc:={kinds:=ŵ<|Ê 13,δ:=[("a",0),("b",1),("q",2),("r",3)],wr:=["a","b","q","r"]}
section
variable{X:Cx}{k Fu:Á}{sc:Sc}
def eV.co{e:Expr}{pe:PE}{es:Ã Expr}{i6:Ã PE}(h:SE X k sc e pe)(t:eV X k sc es i6)(hs:Ý e=false):eV X k sc (e::es) (pe::i6):=.cons hs h t
noncomputable def gI(G:Gl X)(x:Str)(i:Â):=G.cI (x,i)
noncomputable def gF(G:Gl X)(x:Str)(i:ā):=G.cF (x,i)
end
noncomputable def sC(n:Á)(l:Ã (Str×Á)):Sc:={kinds:=ŵ<|Ê n,δ:=l,wr:=l.map (·.1)}
noncomputable def ϟ:Sc:=sC 4 [("ch_a",0),("ch_b",1)]
noncomputable def Ŭ:Sc:=sC 5 [("a",0),("b",1),("max_cost",2),("pre",3),("post",4),("row",5),("result",6),("bindex",7),("bchar",8),("distance",9),("minimum",10),("index",11),("substitute",12),("insert_delete",13)]
noncomputable def eB:Sc:=sC 12 [("a",0),("b",1),("n",2),("a_digits",3),("r",4),("q_digits",5),("a_digit",6),("q_digit",7),("q",8)]
noncomputable def eg:Sc:=sC 18 [("r",0),("g",1),("b",2),("maxc",3),("minc",4),("sumc",5),("rangec",6),("l",7),("s",8),("rc",9),("gc",10),("bc",11),("h",12)]
noncomputable def eM:Sc:=sC 19 [("h",0),("l",1),("s",2),("m2",3),("m1",4)]
noncomputable def Mq:Sc:=sC 20 [("m1",0),("m2",1),("hue",2)]
noncomputable def d9:Sc:=sC 21 [("r",0),("g",1),("b",2),("maxc",3),("minc",4),("rangec",5),("v",6),("s",7),("rc",8),("gc",9),("bc",10),("h",11)]
noncomputable def ez:Sc:=sC 22 [("h",0),("s",1),("v",2),("i",3),("f",4),("p",5),("q",6),("t",7)]
noncomputable def ij:Sc:=sC 29 [("value",0),("size",1)]
noncomputable def hW:Sc:=sC 30 [("paint",0),("way",1),("hue",2),("share",3),("high",4),("low",5),("light",6)]
noncomputable def iw:Sc:=sC 31 [("spot",0),("high",1),("low",2),("laps",3),("aways",5),("due",7),("hue",8),("both",9),("paints",10),("told",13)]
noncomputable def il:Sc:=sC 32 [("names",0),("greats",1),("bits",2),("code",3),("signs",4),("text",7),("typed",8),("told",10),("kept",12)]
noncomputable def fW:Sc:=sC 33 [("words",0),("base",1),("table",3),("row",4),("column",5),("one",6),("other",7),("far",8)]
noncomputable def ay:Sc:=sC 34 [("table",0),("rows",2),("last",3),("sign",4),("step",5),("good",7),("first",8),("place",9),("head",10)]
noncomputable def ĺ:Sc:=sC 35<|.append [("script",0),("one",5),("two",6),("three",7),("four",8),("size",9),("stock",10),("letters",11),("ends",13),("starts",16),("names",18),("costs",20),("faces",22),("greats",26),("base",27),("high",28),("low",29),("laps",30),("spots",32)] [("words",33),("numbers",34),("turn",35),("spot",36),("told",37),("bits",39),("lines",41),("steps",43),("last",45),("more",46),("table",48),("value",49),("factors",51),("whole",52),("factor",53),("left",54),("turned",55),("pairs",58),("rest",61)]
def bP:(∀(X:Cx)(k:Á)(G:Gl X),SS X k ϟ 50 (Þ<|Ê 4) ũ)/\
 (∀(X:Cx)(k:Á)(G:Gl X)(_:Ā X k "_substitution_cost" þ),SS X k Ŭ 50 (Þ<|Ê 5) Ÿ)/\
 (∀(X:Cx)(k:Á)(G:Gl X)(_:Ā X k "_digits2int" ğ)(_:Ā X k "_div2n1n" cU)(_:Ā X k "_int2digits" ĝ),SS X k eB 50 (Þ<|Ê 12) fN)/\
 (∀(X:Cx)(k:Á)(G:Gl X),SS X k eg 50 (Þ<|Ê 18) fD)/\
 (∀(X:Cx)(k:Á)(G:Gl X)(_:Ā X k "_v" Km),SS X k eM 50 (Þ<|Ê 19) fG)/\
 (∀(X:Cx)(k:Á)(G:Gl X),SS X k Mq 50 (Þ<|Ê 20) RW)/\
 (∀(X:Cx)(k:Á)(G:Gl X),SS X k d9 50 (Þ<|Ê 21) fE)/\
 (∀(X:Cx)(k:Á)(G:Gl X),SS X k ez 50 (Þ<|Ê 22) fz)/\
 (∀(X:Cx)(k:Á)(G:Gl X),SS X k ij 50 (Þ<|Ê 29) j0)/\
 (∀(X:Cx)(k:Á)(G:Gl X)(_:Ā X k "_law_near" ħ)(_:Ā X k "rgb_to_hls" bh)(_:Ā X k "rgb_to_hsv" aR),SS X k hW 50 (Þ<|Ê 30) jN)/\
 (∀(X:Cx)(k:Á)(G:Gl X)(_:Ā X k "_law_near" ħ)(_:Ā X k "_law_read" bu)(_:Ā X k "hls_to_rgb" aW)(_:Ā X k "hsv_to_rgb" Ϯ),SS X k iw 50 (Þ<|Ê 31) jX)/\
 (∀(X:Cx)(k:Á)(G:Gl X)(_:Ā X k "in_table_b1" Ĺ)(_:Ā X k "map_table_b3" Ħ),SS X k il 50 (Þ<|Ê 32) j6)/\
 (∀(X:Cx)(k:Á)(G:Gl X)(_:Ā X k "_levenshtein_distance" Í),SS X k fW 50 (Þ<|Ê 33) gK)/\
 (∀(X:Cx)(k:Á)(G:Gl X),SS X k ay 50 (Þ<|Ê 34) aL)/\
 (∀(X:Cx)(k:Á)(G:Gl X)(_:Ā X k "_digits2int" ğ)(_:Ā X k "_int2digits" ĝ)(_:Ā X k "_law_determinant" Ĭ)(_:Ā X k "_law_seen" ax)(_:Ā X k "_law_table" Ϥ)(_:Ā X k "_law_text" ϣ)(_:Ā X k "_levenshtein_distance" Í)(_:Ā X k "int_divmod" Ņ),SS X k ĺ 50 ((Þ<|Ê 35).take 20)<|Į.take 20)/\
 (∀(X:Cx)(k:Á)(G:Gl X)(_:Ā X k "_digits2int" ğ)(_:Ā X k "_int2digits" ĝ)(_:Ā X k "_law_determinant" Ĭ)(_:Ā X k "_law_seen" ax)(_:Ā X k "_law_table" Ϥ)(_:Ā X k "_law_text" ϣ)(_:Ā X k "_levenshtein_distance" Í)(_:Ā X k "int_divmod" Ņ),SS X k ĺ 50 ((Þ<|Ê 35).drop 21)<|Į.drop 20)/\
 (∀(X:Cx)(k:Á)(G:Gl X){Fi:VF}(_:Ā X k "_divmod_pos" aS)(_:Ā X k "int_divmod" Fi),SS X k ĸ 50 (Þ<|Ê 13)<|cB Fi):=by
 refine⟨?_,?_,?_,?_,?_,?_,?_,?_,?_,?_,?_,?_,?_,?_,?_,?_,?_⟩<;>intros
 all_goals repeat' first
  |((with_reducible refine(?_:Eq _ _));first|with_reducible constructor|((with_reducible refine(?_:_=false));exact Hp false)|decide|rfl|with_reducible assumption|with_unfolding_all rfl)
  |((with_reducible show SS _ _ _ _ _ _);first|with_reducible exact .nil|refine .cons ?_ ?_|exact .nil)
  |with_reducible first|exact .mP|refine .name ?_ ?_|refine .eR ?_ ?_|exact .UJ|exact .Uz|refine .cmp ?_ ?_ ?_|refine .ä ?_ ?_ ?_ ?_|exact .NZ|exact .KD|refine .co ?_ ?_ ?_|refine .ñ ?_ ?_|refine .Ñ ?_ ?_|refine .sub ?_ ?_ ?_|refine .un ?_|refine .č ?_ ?_ ?_|refine .bp ?_ ?_ ?_|refine .seq ?_ ?_|refine .call ?_ ?_ .enum ?_|refine .call ?_ ?_ .zip ?_|refine .call ?_ ?_ (.range<|by constructor) ?_|refine .call ?_ ?_ (.rev<|by constructor) ?_|refine .N8 (by with_reducible assumption) ?_ ?_ ?_|refine .call ?_ ?_ (by with_reducible first|apply ç.len|apply ç.Uj|apply ç.UB|apply ç.abs|apply ç.sum|apply ç.sorted|apply ç.ord|apply ç.chr|apply ç.int|apply ç.type|apply ç.list) ?_|refine .tyName ?_ ?_|refine .vu (T:="str") (id:="str.lower") pU ?_ ?_ ç.lower pg ?_ ?_ ?_|refine .vu (T:="str") (id:="str.upper") yk ?_ ?_ ç.upper wQ ?_ ?_ ?_|refine .vu (T:="str") (id:="str.join") Bi ?_ ?_ ç.join BZ ?_ ?_ ?_|refine .vu (T:="list") (id:="list.index") yP ?_ ?_ ç.index yC ?_ ?_ ?_|refine .vu (T:="int") (id:="int.bit_length") bY ?_ ?_ ç.jG bT ?_ ?_ ?_|refine .gJ ?_ ?_ ?_ ?_ ?_ ?_|refine .of ?_|refine .bool ?_|refine .not ?_|refine .ite ?_ ?_ ?_|refine .uO ?_ ?_ ?_ ?_|refine .val ?_ ?_|refine .Yz ?_ ?_|refine .pop ?_ ?_ ?_ ?_ ?_ ?_|refine .BJ ?_ ?_ ?_|refine .PY ?_ ?_ ?_ ?_ ?_ ?_ ?_|refine .HY ?_ ?_ ?_ ?_ ?_ ?_ ?_ ?_|refine .Ld ?_ ?_ ?_ ?_ ?_ ?_ ?_ ?_ ?_ ?_|refine .and ?_ ?_|refine .or ?_ ?_|refine .one ?_
  |((with_reducible refine .I9 ?_ ?_ ?_ ?_);rotate_right;· first|with_unfolding_all rfl)
  |((with_reducible refine .par ?_ ?_ ?_ ?_);rotate_left 2;· first|with_unfolding_all rfl)
  |with_reducible first|refine .î ?_ ?_ ?_ ?_|refine .ret ?_|exact .Mv|refine .Ŗ ?_ ?_ ?_|refine .Ū ?_ ?_ ?_ ?_|refine .az ?_ ?_|refine .aug ?_ ?_ ?_|refine .app ?_ ?_ ?_ ?_ ?_ ?_|refine .ö ?_ ?_ ?_ ?_ ?_|refine .put2 ?_ ?_ ?_ ?_ ?_ ?_ ?_ ?_|refine .jJ ?_ ?_ ?_ ?_ ?_ ?_|refine .rev ?_ ?_ ?_ ?_|refine .mO ?_ ?_ ?_ ?_|refine .qt ?_ ?_ ?_ ?_|refine .mS ?_ ?_ ?_ ?_ ?_ ?_ ?_ ?_ ?_ ?_|refine .swap ?_ ?_ ?_ ?_ ?_ ?_ ?_ ?_|exact .nil
  |exact .one rfl rfl
  |exact .two rfl rfl rfl rfl
  |exact .three rfl rfl rfl rfl rfl rfl
  |refine .cons rfl rfl ?_
  |exact .no
  |refine .yes ?_
  |exact .nil
  |exact Gl.bi (by assumption) (by decide) (by decide) (by decide)<|by decide
  |exact Gl.ty (by assumption) (by decide) (by decide) (by decide)<|by decide
  |((with_reducible refine .Bd ?_ ?_ ?_);rotate_left;exact gI (by assumption) _ _<|by decide)
  |((with_reducible refine .IE ?_ ?_ ?_);rotate_left;exact gF (by assumption) _ _<|by decide)
  |((with_reducible refine .AY (names:=["a","b"]) ?_ ?_ ?_ ?_ ?_ ?_);· repeat' first|exact .nil|refine .cons rfl rfl ?_)
  |((with_reducible refine .AY (names:=["hue","both"]) ?_ ?_ ?_ ?_ ?_ ?_);· repeat' first|exact .nil|refine .cons rfl rfl ?_)
  |with_reducible constructor
  |((with_reducible refine(?_:Ý _=false));exact Hp false)
  |((with_reducible refine(?_:_=false));exact Hp false)
  |((with_reducible refine(?_:_=_));decide)
  |((with_reducible refine(?_:List.length _<=1000));exact Ϙ<|Hp true)
  |decide|(intros;rfl)|with_reducible assumption|(intro _ h;unfold oT;rw[h];rfl)
  |exact λ_ _ h=>PySem.Expr.noConfusion h
  |with_unfolding_all rfl
def jb{X:Cx}{k:Á}(G:Gl X):SS X k ϟ 50 (Þ<|Ê 4) ũ:=by with_reducible exact bP.1 X k G
def fT{X:Cx}{k:Á}(G:Gl X)(h1:Ā X k "_substitution_cost" þ):SS X k Ŭ 50 (Þ<|Ê 5) Ÿ:=by with_reducible exact bP.2.1 X k G h1
def rZ{X:Cx}{k:Á}(G:Gl X)(h1:Ā X k "_digits2int" ğ)(h2:Ā X k "_div2n1n" cU)(h3:Ā X k "_int2digits" ĝ):SS X k eB 50 (Þ<|Ê 12) fN:=by with_reducible exact bP.2.2.1 X k G h1 h2 h3
def sb{X:Cx}{k:Á}(G:Gl X):SS X k eg 50 (Þ<|Ê 18) fD:=by with_reducible exact bP.2.2.2.1 X k G
def sk{X:Cx}{k:Á}(G:Gl X)(h1:Ā X k "_v" Km):SS X k eM 50 (Þ<|Ê 19) fG:=by with_reducible exact bP.2.2.2.2.1 X k G h1
def YP{X:Cx}{k:Á}(G:Gl X):SS X k Mq 50 (Þ<|Ê 20) RW:=by with_reducible exact bP.2.2.2.2.2.1 X k G
def td{X:Cx}{k:Á}(G:Gl X):SS X k d9 50 (Þ<|Ê 21) fE:=by with_reducible exact bP.2.2.2.2.2.2.1 X k G
def tu{X:Cx}{k:Á}(G:Gl X):SS X k ez 50 (Þ<|Ê 22) fz:=by with_reducible exact bP.2.2.2.2.2.2.2.1 X k G
def zr{X:Cx}{k:Á}(G:Gl X):SS X k ij 50 (Þ<|Ê 29) j0:=by with_reducible exact bP.2.2.2.2.2.2.2.2.1 X k G
def yx{X:Cx}{k:Á}(G:Gl X)(h1:Ā X k "_law_near" ħ)(h2:Ā X k "rgb_to_hls" bh)(h3:Ā X k "rgb_to_hsv" aR):SS X k hW 50 (Þ<|Ê 30) jN:=by with_reducible exact bP.2.2.2.2.2.2.2.2.2.1 X k G h1 h2 h3
def xe{X:Cx}{k:Á}(G:Gl X)(h1:Ā X k "_law_near" ħ)(h2:Ā X k "_law_read" bu)(h3:Ā X k "hls_to_rgb" aW)(h4:Ā X k "hsv_to_rgb" Ϯ):SS X k iw 50 (Þ<|Ê 31) jX:=by with_reducible exact bP.2.2.2.2.2.2.2.2.2.2.1 X k G h1 h2 h3 h4
def wB{X:Cx}{k:Á}(G:Gl X)(h1:Ā X k "in_table_b1" Ĺ)(h2:Ā X k "map_table_b3" Ħ):SS X k il 50 (Þ<|Ê 32) j6:=by with_reducible exact bP.2.2.2.2.2.2.2.2.2.2.2.1 X k G h1 h2
def vi{X:Cx}{k:Á}(G:Gl X)(h1:Ā X k "_levenshtein_distance" Í):SS X k fW 50 (Þ<|Ê 33) gK:=by with_reducible exact bP.2.2.2.2.2.2.2.2.2.2.2.2.1 X k G h1
def ku{X:Cx}{k:Á}(G:Gl X):SS X k ay 50 (Þ<|Ê 34) aL:=by with_reducible exact bP.2.2.2.2.2.2.2.2.2.2.2.2.2.1 X k G
def BF{X:Cx}{k:Á}(G:Gl X)(h1:Ā X k "_digits2int" ğ)(h2:Ā X k "_int2digits" ĝ)(h3:Ā X k "_law_determinant" Ĭ)(h4:Ā X k "_law_seen" ax)(h5:Ā X k "_law_table" Ϥ)(h6:Ā X k "_law_text" ϣ)(h7:Ā X k "_levenshtein_distance" Í)(h8:Ā X k "int_divmod" Ņ):SS X k ĺ 50 ((Þ<|Ê 35).take 20) (Į.take 20):=by with_reducible exact bP.2.2.2.2.2.2.2.2.2.2.2.2.2.2.1 X k G h1 h2 h3 h4 h5 h6 h7 h8
def xi{X:Cx}{k:Á}(G:Gl X)(h1:Ā X k "_digits2int" ğ)(h2:Ā X k "_int2digits" ĝ)(h3:Ā X k "_law_determinant" Ĭ)(h4:Ā X k "_law_seen" ax)(h5:Ā X k "_law_table" Ϥ)(h6:Ā X k "_law_text" ϣ)(h7:Ā X k "_levenshtein_distance" Í)(h8:Ā X k "int_divmod" Ņ):SS X k ĺ 50 ((Þ<|Ê 35).drop 21) (Į.drop 20):=by with_reducible exact bP.2.2.2.2.2.2.2.2.2.2.2.2.2.2.2.1 X k G h1 h2 h3 h4 h5 h6 h7 h8
def sv{X:Cx}{k:Á}(G:Gl X){Fi:VF}(h1:Ā X k "_divmod_pos" aS)(h2:Ā X k "int_divmod" Fi):SS X k ĸ 50 (Þ<|Ê 13) (cB Fi):=by with_reducible exact bP.2.2.2.2.2.2.2.2.2.2.2.2.2.2.2.2 X k G h1 h2
section
variable{prog:lX}{w:dk}{A:q6}{E:Ë->ŕ->Prop}{s:ŕ}{env:ey}
def wI(h:k=.int dep tk)(hq:Q (.done<|.ret<|.bool true) s):
  ϛ (aT prog w) A (yX.«issubclass.nested» ⟨[.type "ZeroDivisionError",.type "ZeroDivisionError",k],[]⟩) Q E s:=by
 subst h
 repeat(any_goals(first|assumption|(rw[a sW.plainMeta])|(rw[Vu.sub])|wp_step))
def Cu(m:A.handled=Ä)
  (hx:ϛ (aT prog w) A (eval (.Name "ZeroDivisionError" np) env) (λv a=>v=.type "ZeroDivisionError"/\a=s) E s)
  (h:∀b e,Heap.MadeExc s.heap b e "ZeroDivisionError" []->E (.ref e) {s with heap:=b}):
  ϛ (aT prog w) A (exec (.Raise (À<|.Name "ZeroDivisionError" np) Ä pos) env) Q E s:=by
 show ϛ (aT prog w) A (do bc pos;raiseStmt env (À (do let v<-eval (.Name "ZeroDivisionError" np) env;bc pos;pure v)) Ä) Q E s;refine Ü<|ų ?_;unfold raiseStmt;dsimp only;refine Ü<|Ü<|mz hx (λv a c=>Ü<|ų<|õ ?_) λ_ _ e=>e;obtain⟨rfl,rfl⟩:=c;refine Ü<|õ ?_;refine Ü<|ϗ ?_;unfold excFromValue isExcClass;refine Ü<|Ü<|õ ?_;simp;rw[sW.isExc];refine õ ?_;simp;obtain⟨p,g,d,tk,os⟩:=a;refine Ü<|wpAny_call_exc Vu λb e f=>?_;refine ì f.there λt he _=>?_;have j:(⟨b,g,d,tk,os⟩:ŕ).TypeIs (.ref e) "ZeroDivisionError":=(show∃o,b.get? e=À o/\o.cls=.type "ZeroDivisionError" from⟨_,he,rfl⟩)
 refine Ü<|wpAny_isInstance j sW.isExc ?_;simp;refine õ ?_;refine Ü<|õ ?_;simp;refine Ü<|ϗ ?_;unfold raisedFor;refine Ü<|wpAny_typeOf j ?_;refine Ü<|call_issubclass (S:=λ_ R s=>R (.ok<|.ret<|.bool true) s) (λ_ _ _ _ _ k=>issubclass_outer<|wI rfl k) ?_;dsimp only[wants];refine Ü<|gX ?_;simp;refine õ ?_;unfold setFlight raiseNew;refine Ü<|Ü<|eK (i:=1) (x:=Value.none) he rfl rfl ?_;rw[È (by decide)];refine õ<|Ü<|wpAny_handled ?_;rw[m]
 first
  |exact wpAny_throw<|h b e f
  |exact Ü<|õ<|wpAny_throw<|h b e f
end
section
variable{T:gk}{P:Ĳ->Prop}{B:PB}{env:ey}{δ:Str->Ï Á}{wr:Str->Ò}{σ:St}{α:Á->Ã Ĳ}{h h':gk}{ws:Ã Ĳ}
def Ok.chg(K:Ok T P B env δ wr σ α h)(C:∀b o,b∉ws->b≠env.locals->h.get? b=À o->h'.get? b=À o)(w:∀b∈ws,P b/\B b=Ä/\∃m,h.Ns b m)
  (M:∀m,h.Ns env.locals m->∃x,h'.Ns env.locals x/\∀y,(δ y).isSome=true->x y=m y):Ok T P B env δ wr σ α h':=by
 have key:∀b o,b∉ws/\b≠env.locals->h.get? b=À o->h'.get? b=À o:=λb o n=>C b o n.1 n.2;have p:∀{c v},h.IsCell c v->h'.IsCell c v:=λ{c v}j=>let⟨o,ho,hd⟩:=j;⟨o,key _ _ ((show∀{c v},h.IsCell c v->c∉ws/\c≠env.locals from λ{c v}j=>⟨λf=>(let⟨_,_,m,g⟩:=w c f;bD g j rfl),λe=>(let⟨m,g⟩:=K.loc.1;bD g j e.symm)⟩) j) ho,hd⟩
 exact{
  top:=λa o e=>key a o ((show∀b,¬P b->b∉ws/\b≠env.locals from λb n=>⟨λf=>n (w b f).1,λe=>n<|e▸K.loc.2.1⟩) a λq=>by rw[K.low a q] at e;exact ÿ e) (K.top a o e)
  low:=K.low
  hi:=λa k=>by
   by_cases f:a∈ws
   .exact(w a f).1
   .by_cases t:a=env.locals
    .exact Å t K.loc.2.1
    .apply K.hi a;cases e:h.get? a with
     |none=>rfl
     |some o=>rw[C a o f t e] at k;exact gC k
  base:=λa o e=>key a o ⟨λf=>(by rw[(w a f).2.1] at e;exact ÿ e),λq=>(by rw[q,K.loc.2.2] at e;exact ÿ e)⟩ (K.base a o e)
  kind:=K.kind
  glob:=K.glob
  loc:=⟨let⟨m,g⟩:=K.loc.1;let⟨x,s,_⟩:=M m g;⟨x,s⟩,K.loc.2⟩
  cells:=K.cells
  ϓ:=K.ϓ
  Ė:=λy c A=>let⟨v,j⟩:=K.Ė y c A;⟨v,p j⟩
  wrs:=λy A=>by
   rcases K.wrs y A with q|⟨q,c,v,G,j,J,S⟩
   .exact .inl q
   .exact .inr ⟨q,c,v,G,p j,J,S⟩
  inj:=K.inj
  vars:=λy i v m hi R=>by
   refine K.Æ y i v m hi R λval G O J=>?_;refine⟨val,?_,O.uI (ws:=env.locals::ws) (λb o n e=>C b o (λf=>n<|zi _ f) (λq=>n<|q▸r4) e) λa k f=>?_,J⟩
   .rcases G with⟨L,W,g,e⟩|⟨L,c,t,j⟩
    .exact ì (M W g) λx s A=>.inl ⟨L,x,s,Å (A y<|Å hi rfl) e⟩
    .exact .inr ⟨L,c,t,p j⟩
   .refine ì (O.lists a k) λ_ t _=>?_;have:=(show∀{c items},IsL h c items->c∉ws/\c≠env.locals from λ{c v}j=>⟨λf=>(let⟨_,_,m,g⟩:=w c f;ī j g rfl),λe=>(let⟨m,g⟩:=K.loc.1;ī j g e)⟩) t;rcases ő.1 f with e|e
    .exact this.2 e
    .exact this.1 e
  apart:=K.apart
  ex:=λa k=>⟨(K.ex a k).1,(K.ex a k).2.go (λo e=>key a o ((show∀a∈bS,a∉ws/\a≠env.locals from λa k=>⟨λf=>(let⟨_,_,m,g⟩:=w a f;(K.ex a k).2.ne_ns g rfl),λe=>(let⟨m,g⟩:=K.loc.1;(K.ex a k).2.ne_ns g e)⟩) a k) e) (.refl _) (K.ex a k).2.fresh⟩}
end
section
variable{X:Cx}{k:Á}
structure MG(X:Cx)(P:Ĳ->Prop)(B:PB)(env:ey)(δ:Str->Ï Á)(wr:Str->Ò)(σ:St)(α:Á->Ã Ĳ)(h h':gk)(e:Ĳ):Prop where
 st:∃(h2:gk)(B':PB)(L' t:Ĳ),Ok X.T P B' env δ wr σ α h2/\(∀a o,¬P a->h.get? a=À o->h2.get? a=À o)/\ŀ B B'/\(∀a o,B' a=À o->B a=À o\/P a)/\
  (P L'/\B' L'=Ä/\∃m,h2.Ns L' m)/\Heap.FlyingW (hideAll h2 [L',env.locals]) [env] e (.type "ZeroDivisionError") (.ref t) h'/\h'.TupAt t []/\h2.UpToSlots h'
def Ci(G:Gl X)(hz:X.mg "ZeroDivisionError"=Ä)(ho:X.T.get? a=À o)(hd:o.data=.func fd)(H:X.T.CodeRec fd.code fd.qualname)(x:fd.body=.stmts (Þ<|Ê 13))
  (M:fd.closure=[]) (hg:fd.globals=ż) (L6:fd.builtins=br) (D:∀vals:Ã Ë,vals.length=2->lO fd ⟨vals,[]⟩=pure ((["a","b"]:Ã Str).zip vals)) (hk:fd.scope.names=ĸ.kinds) (j:fd.scope.kind=.function)
  (Y:fd.scope.isCoroutine=false) (I:fd.scope.isGenerator=false)
  (R:ţ (k+1) A) (Kx:A.frames=À [env]) (hf:env.frame=À env.locals) (K:Ok X.T P B env δ wr σ α s.heap) (lH:ě B [.int i,.int 0] vals)
  (hE:∀h' tk e,MG X P B env δ wr σ α s.heap h' e->E (.ref e) {s with heap:=h',toks:=tk}):wq X A (Î (.ref a) vals) Q E s:=by
 refine lC (n:=4) (sc:=ĸ) (params:=["a","b"]) ho hd H x M hg L6 D hk j Y I rfl rfl (by unfold sL;exact(A2 0x3e8370138437e180816) R.depth) K.top K.base K.Se lH λf g J C keep K'=>?_;have en:f.scope.names=ĸ.kinds:=Đ g hk;have TJ:f.scope.kind=.function:=Đ g j;have ef:f.frame=À f.locals:=Đ g rfl;obtain⟨l,p,eb⟩:∃l p,Þ (Ê 13)=[.If (.Compare (.Name "b" ⟨114,7,114,8⟩) [.Eq] [.Constant (.int 0) 0 ⟨114,12,114,13⟩] ⟨114,7,114,13⟩) [.Raise (À<|.Name "ZeroDivisionError" ⟨115,14,115,31⟩) Ä ⟨115,8,115,31⟩] l p]:=⟨_,_,rfl⟩
 refine Å eb ?_;refine mI<|sE ?_;have T:cG X k ĸ (.Compare (.Name "b" ⟨114,7,114,8⟩) [.Eq] [.Constant (.int 0) 0 ⟨114,12,114,13⟩] ⟨114,7,114,13⟩) (.cmp .Eq (.Æ 1)<|.c<|.int 0):=.cmp (.name rfl) .mP;refine T f en _ (.bool true) 0 _ true rfl rfl _ B _ _ {s with heap:=J,toks:=C} _ _ R.deeper K' λs2 B2 cR S v=>?_;simp;obtain⟨O,X2,rfl⟩:=S.eq;have W:Gp s.heap O B B2:=⟨λb o hx e=>S.kept b o (keep b o e) λm=>m.elim (λm=>by rw[e] at m;cases m) hx,S.le,v.base,λb o e=>by
   rcases S.new b o e with q|q|q
   .exact .inl q
   .exact .inr q
   .rw[(v.ex b q).2.fresh] at e;exact ÿ e⟩
 have KL:=K.Io W λb m=>(v.ex b m).2;refine å v.loc.1 λP4 y=>?_;refine å KL.loc.1 λmL hL=>?_;refine mI<|Cu R.hd (Callee.load (sc:=ĸ) (.type rfl hz rfl<|by decide) en v ⟨rfl,rfl⟩ rfl) λh3 e hm=>?_
 .have Ug:P f.locals:=K.hi _ (by
   rcases v.loc.2.1 with q|q
   .exact q
   .exact ó y λhn=>(v.ex _ q).2.ne_ns hn rfl)
  exact wpAny_leaves_madeW (base:=hideAll O [f.locals,env.locals]) (env:=f) (outer:=[env]) (L:=f.locals) (h:=O) (gc Kx) ef (λb o e=>of_hideAll _ e) (.cons (by refine Å TJ ?_;decide) ef y (F0 _<|.head _)<|.cons (by refine Å K.kind ?_;decide) hf hL (F0 _<|.tail _<|.head _) trivial) hm.of λh4 t F4 T4 _ U4=>hE h4 _ e ⟨O,B2,f.locals,t,KL,λb o hn e=>S.kept b o (keep b o e) λm=>hn<|m.elim (K.hi b) λq=>(K.ex b q).1,S.le,λb o e=>(W.new b o e).imp id<|K.hi b,⟨Ug,v.loc.2.2,P4,y⟩,F4,T4,(Heap.UpToSlots.of_keeps hm.keeps).trans U4⟩
end
noncomputable def Qw:Expr:=.BinOp (.Name "value" ⟨308,19,308,24⟩) .Add (.Name "two" ⟨308,27,308,30⟩) ⟨308,19,308,30⟩
noncomputable def Kp:Expr:=.Constant (.int 0) 0 ⟨308,32,308,33⟩
def Qs:Expr:=.Call (.Name "int_divmod" ⟨308,8,308,18⟩) [Qw,Kp] [] ⟨308,8,308,34⟩
noncomputable def TH:Expr:=.Call (.Name "str" ⟨311,11,311,14⟩) [.Name "error" ⟨311,15,311,20⟩] [] ⟨311,11,311,21⟩
noncomputable def V1:Expr:=.Constant (.str "") 0 ⟨311,25,311,27⟩
def XJ:DA:=.If (.Compare TH [.NotEq] [V1] ⟨311,11,311,27⟩) [.Return (À<|.Constant (.bool false) 0 ⟨312,19,312,24⟩) ⟨312,12,312,24⟩] [] ⟨311,8,312,24⟩
def Nh:DA:=.Try [.Expr Qs ⟨308,8,308,34⟩,.Return (À<|.Constant (.bool false) 0 ⟨309,15,309,20⟩) ⟨309,8,309,20⟩]
 [.ExceptHandler (À<|.Name "ZeroDivisionError" ⟨310,11,310,28⟩) (À "error") [XJ] ⟨310,4,312,24⟩] [] [] ⟨307,4,312,24⟩
def By:Þ (Ê 35)=(Þ<|Ê 35).take 20++Nh::(Þ<|Ê 35).drop 21:=by decide
section
variable{X:Cx}{k:Á}
def Qk(c:X.mg "str"=Ä)(g:A.units<9500)
  (en:env.scope.names=ĺ.kinds) (K:Ok X.T P B env δ wr σ α s.heap) (h:s.heap.Ns env.locals m) (a:m "error"=À (.ref e)) (hx:s.heap.ExcAt e "ZeroDivisionError" (.ref t)) (f:s.heap.TupAt t [])
  (q:∀tk,Q .next {s with toks:=tk}):wq X A (execs [XJ] env) Q E s:=by
 have b:∀y,env.kindOf y=ĺ.kinds.lookup y:=λy=>by unfold bC;exact Å en rfl
 refine mI<|sE<|Du ?_;refine gQ (Callee.load (sc:=ĺ) (.type rfl c rfl<|by decide) en K ?_ rfl);refine ϸ rfl ?_;refine(?_:ϛ _ _ (jt (.type "str") true [(false,eval (.Name "error" ⟨311,15,311,20⟩) env)] []) _ _ _);refine evalArgs_plain (ua<|j5 (Eo K.kind (by refine Å (b ..) ?_;decide) h a ?_) rfl);refine rD ?_;exact PySem.P.str_of_exc_none F.excStr_ZeroDivisionError (by unfold t6;exact(A1 0x26ac47217081251c47016) g) hx f<|Constant_str<|PySem.P.ne_str<|gX<|Å (È<|by decide)<|õ<|õ<|q _
def Heap.TupAt.Te{h a:gk}(b:Heap.FlyingW base l e (.type "ZeroDivisionError") (.ref t) h)(k:∀o,h.get? e=À o->a.get? e=À o):a.ExcAt e "ZeroDivisionError" (.ref t):=by
 exact H4 b.first λc vs g f j m=>⟨c,vs,k _ g,f,j,m⟩
def MZ(G:Gl X)(hz:X.mg "ZeroDivisionError"=Ä)(hs:X.mg "str"=Ä)(Zp:X.mg "int_divmod"=À (.ref a))(ho:X.T.get? a=À o)(hd:o.data=.func fd)(PK:X.T.CodeRec fd.code fd.qualname)(KS:fd.body=.stmts (Þ<|Ê 13))
  (GK:fd.closure=[]) (hg:fd.globals=ż) (L6:fd.builtins=br) (kC:∀vals:Ã Ë,vals.length=2->lO fd ⟨vals,[]⟩=pure ((["a","b"]:Ã Str).zip vals)) (hk:fd.scope.names=ĸ.kinds) (Av:fd.scope.kind=.function)
  (Qa:fd.scope.isCoroutine=false) (Ua:fd.scope.isGenerator=false)
  (hR:ţ (k+1) A) (Kx:A.frames=À [env]) (hf:env.frame=À env.locals) (en:env.scope.names=ĺ.kinds) (K:Ok X.T P B env ĺ.dl ĺ.wl σ α s.heap) (hi:σ[49]?=À (À (.int i,0))) (hj:σ[6]?=À (À (.int j,0)))
  (q:∀s' B' qr,Step P s s' B B'->Ok X.T P B' env ĺ.dl ĺ.wl σ qr s'.heap->Q .next s'):wq X A (exec Nh env) Q E s:=by
 have ek:∀y,env.kindOf y=ĺ.kinds.lookup y:=λy=>by unfold bC;exact Å en rfl
 have Wr:∀(n:Á)(x:V),σ[n]?=À (À (x,0))->σ.é n=σ:=λn x h=>by
  unfold St.é St.get;exact Å h rfl
 have H:eV X k ĺ [Qw,Kp] [.Õ .Add (.Æ 49) (.Æ 6),.c<|.int 0]:=
  .cons rfl (SE.eR (.name rfl)<|.name rfl) (.cons rfl .mP .nil)
 have ev:ď [.Õ .Add (.Æ 49) (.Æ 6),.c<|.int 0] σ=À ([.int (i+j),.int 0],σ):=by
  exact Ð (Û (Ç hi) (Ç hj) rfl)<|Ð ļ Ą
 unfold Nh;refine Å (arm_exec_Try ..) ?_;refine Ü<|ų<|wpAny_tryStmt_except ?_;refine mI (sq (gQ<|Callee.load (sc:=ĺ) (.func rfl Zp ho hd) en K ?_ rfl)<|by unfold oT;exact Å K.kind rfl);refine lJ (o:=o) (fd:=fd) ?_;refine H.args<|(H.spliced en _ ev) P B α A s _ _ (hR.less<|jW _) K λvals s1 B1 eI S1 K1 lH=>?_;refine⟨⟨K1.top _ _ ho,hd⟩,?_⟩;refine Ci G hz ho hd PK KS GK hg L6 kC hk Av Qa Ua hR Kx hf K1 lH λh4 Xi e Th=>?_;obtain⟨h2,B2,L',t,K2,PW,YM,VZ,⟨R7,TZ,P4,UK⟩,F4,T4,U4⟩:=Th.st;refine wpAny_looks_onW Kx hf F4 λh5 H5 U5=>wpAny_landsW H5 λh6 F6 U6=>?_;have XD:h2.UpToSlots h6:=(U4.trans U5).trans U6;refine wpAny_handleBy_builtin_as (X:="ZeroDivisionError") (T:="ZeroDivisionError") (b:=true) sW.isExc rfl Vu.sub ?_;have Qn:∀b o,b∉[L']->b≠env.locals->h2.get? b=À o->h6.get? b=À o:=λb o hb hl e=>F6.1 b o (ju _ e (by
  simp[not_or] at hb⊢;exact⟨hb,hl⟩))
 have K6:Ok X.T P B2 env ĺ.dl ĺ.wl σ eI h6:=K2.chg Qn (λb hb=>by
  rw[Ċ] at hb;subst hb;exact⟨R7,TZ,P4,UK⟩) λm hn=>⟨m,XD.ns hn,λ_ _=>rfl⟩
 refine Callee.load (sc:=ĺ) (.type rfl hz rfl<|by decide) en (s:={s1 with heap:=h6,toks:=Xi}) K6 ⟨rfl,?_,?_⟩ rfl
 .exact ì F6.there λob he hc=>⟨ob,he,hc⟩
 simp;refine lands_againW F6 λh7 F7 U7=>?_;have T7:=((T4.of_slots U5).of_slots U6).of_slots U7;have Ho:∀b o,b∉[L']->b≠env.locals->h2.get? b=À o->h7.get? b=À o:=λb o hb hl e=>F7.1 b o (ju _ e (by
  simp[not_or] at hb⊢;exact⟨hb,hl⟩))
 refine å K2.loc.1 λm2 n2=>?_;have n7:h7.Ns env.locals m2:=(XD.trans U7).ns n2;have kl:env.kindOf "error"=À .local:=by refine Å (ek ..) ?_;decide
 have hp:(env.scope.kind==.class||(env.scope.kind==.module&&env.locals !=env.globals))=false:=Å K.kind rfl;refine FT kl n7 (λh8 n8 s8=>?_) hp;have de:∀y:Str,(ĺ.dl y).isSome=true->y≠"error":=by
  rintro y hy rfl;revert hy;decide
 have K8:Ok X.T P B2 env ĺ.dl ĺ.wl σ eI h8:=K2.chg (λb o hb hl e=>Å (s8.2 b hl)<|Ho b o hb hl e) (λb hb=>by
  rw[Ċ] at hb;subst hb;exact⟨R7,TZ,P4,UK⟩) λm hn=>⟨_,n8,λy hy=>by
   exact Å (È<|de y hy)<|Tw n2 hn y⟩
 have Yk:e≠env.locals:=λq=>by
  refine H4 F7.first λoe vs he _ Lm _=>?_;refine CI n7 λo' es ep JH Nk _=>?_;rw[q,JH] at he;obtain rfl:=à he;injection Nk.symm.trans Lm
 have Zt:t≠env.locals:=λq=>by
  refine LF T7 λoe n' he _ Lm=>?_;refine CI n7 λo' es ep JH Nk _=>?_;rw[q,JH] at he;obtain rfl:=à he;injection Nk.symm.trans Lm
 refine Qk hs ((A2 0x251c4701232847e1881a0816) hR.units:A.units<9500) en (s:={s1 with heap:=h8,toks:=Xi+1}) K8 n8 rfl (Heap.TupAt.Te F7 λo e'=>Å (s8.2 _ Yk) e') (LF T7 λo' n' h1 Vq h3=>⟨o',n',by refine Å (s8.2 _ Zt) ?_;exact h1,Vq,h3⟩) λUh=>?_;refine wpAny_nameGoes_keeps kl n8 hp λh9 v n9 s9=>?_;refine q _ B2 eI ⟨⟨h9,Uh+1,by obtain⟨h1,Xm,rfl⟩:=S1.eq;rfl⟩,λb o e' hn=>?_,S1.le.trans YM,λb o e'=>(VZ b o e').elim (S1.new b o) .inr⟩ ?_
 .have hl:b≠env.locals:=λq=>hn<|q▸K.loc.2.1;exact(Å (s9.2 b hl) (Å (s8.2 b hl)<|Ho b o (λq=>hn<|by rw[Ċ] at q;subst q;exact R7) hl<|PW b o hn<|S1.kept b o e' hn):h9.get? b=À o)
 .exact K2.chg (λb o hb hl e=>Å (s9.2 b hl)<|Å (s8.2 b hl)<|Ho b o hb hl e) (λb hb=>by
   rw[Ċ] at hb;subst hb;exact⟨R7,TZ,P4,UK⟩) λm hn=>⟨_,n9,λy hy=>by
    exact Å (È<|de y hy)<|Å (È<|de y hy)<|Tw n2 hn y⟩
end
section
variable{X:Cx}{k:Á}{sc:Sc}
def rk(a:env.scope.names=sc.kinds)(h:sc.kinds.lookup x=À .globalImplicit)(m:X.mg x=À val)(K:Ok X.T P B env δ wr σ α s.heap)
  (q:Q val s) (c:(x==("__debug__":Str))=false):wq X A (eval (.Name x p) env) Q E s:=by
 have h:env.kindOf x=À .globalImplicit:=by unfold bC;exact Å a h
 exact yc K.kind h (xu (Å K.glob.1<|X.ng.keeps K.top) m q) c
def SE.inSet(J:SE X k sc l (.fn G i6))(D:sc.kinds.lookup x=À .globalImplicit)(hm:X.mg x=À (.ref a))(hS:X.T.SetOf (kZ X.prog X.w) a S n)
  (c:∀xs v m,F xs=À (v,m)->∃i,G xs=À (.int i,0)/\v=.bool (S i)/\m=0) (hd:(x==("__debug__":Str))=false:=by decide):SE X k sc (.Compare l [.In] [.Name x p'] p) (.fn F i6):=by
 intro env y σ v m H C;refine kq C λxs Ø r m1 Y h2=>?_;intro P B I A s Q E R K q;obtain⟨i,M,rfl,rfl⟩:=c _ _ _ h2;refine wpAny_Compare1 ((J env y σ (.int i) 0 Ø<|dJ Y M).é P B I A s _ _ R K λva j B1 b Ab S1 g O L Bo=>rk y D hm g ?_ hd) rfl;apply ê O.vr;intro _;exact wpAny_inSet_of (knd:=kZ X.prog X.w) (k:=i) (rK _ _ _ _) rfl (Yt hS λo es ep t ho r=>⟨o,es,ep,t,g.top _ _ ho,r⟩)<|q (.bool<|S i) {j with toks:=j.toks+1} B1 b [] (S1.trans<|.tok _) g (.z .bool) (λ_ h=>by cases h) λ_ _ _ _ _ h=>by cases h
def SE.Ti(hl:SE X k sc l (.fn G i6))(M:Ý l=false)(hk:sc.kinds.lookup x=À .globalImplicit)(hm:X.mg x=À (.ref d))(hS:X.T.MapOf (kZ X.prog X.w) d f)(C:(d==fC)=false)
  (I:∀xs v m,F xs=À (v,m)->m=0/\∃i,G xs=À (.int i,0)/\∀B:PB,VR B v<|(f i).getD .none) (c:∀env,attributeBase (.Name x p) "get" env (eval (.Name x p) env)=eval (.Name x p) env:=by intro _;rfl) (g:(p'.endLine==pos.line)=true:=by rfl) (hd:(x==("__debug__":Str))=false:=by decide):
  SE X k sc (.Call (.Attribute (.Name x p) "get" p') [l] [] pos) (.fn F i6):=by
 intro env O σ v m ø y;refine kq y λxs Ø r m1 h1 h2=>?_;intro P B α A s Q E Y K q;obtain⟨rfl,i,hG,y⟩:=I _ _ _ h2;have H:eV X k sc [l] [.fn G i6]:=.cons M hl .nil;refine pY (c env) (H.QA<|by decide) g<|rk O hk hm K ?_ hd;refine CI hS λo es ep j a D=>?_;refine⟨"dict","dict.get",PySem.F.plainAttrs_dict,xv,PySem.F.type_dict_get,⟨o,K.top _ _ j,a.1⟩,λb e=>by injection e with e;subst e;exact⟨o,K.top _ _ j,a.2.1⟩,?_⟩;refine gm (Ĝ H)<|eV.args H<|eV.spliced H O pos (Ð (dJ h1 hG) Ą) P B α A s _ _ Y K λvals S R t S2 L J=>?_;apply BN J;intro _ hy;apply ê hy;intro _;exact call_meetsIn xv ⟨o,L.top _ _ j,a.1⟩ PySem.F.entry_dict_get (PySem.F.args_dict_get_2 _ _) (meets_dict_get (kZ X.prog X.w) d (rK _ _ _ _) C) ⟨f,(⟨o,es,ep,L.top _ _ j,a,D⟩),(q _ {S with toks:=S.toks+1} R t [] (S2.trans<|.tok _) L (.z<|y R) (λ_ h=>ϭ h) λ_ _ _ _ _ h=>ϭ h)⟩
end
noncomputable def fx:Ã Á:=[102,105,107,108,115,116,70,73,75,76,83,84]
def fV(n:Á):Prop:=119808<=n/\n<119808+52*13/\[5,8,10,11,18,19].contains ((n-119808)%52)/\[0,1,2,4,6,7,8,9,10,11,12].contains ((n-119808)/52)
instance(n:Á):Gq (fV n):=by unfold fV;infer_instance
def Qx:VF:=uE uv λs=>if s.length=1 then(if fx.contains (s.cps.getD 0 0) then À (.none,0) else if fV (s.cps.getD 0 0) then À (.str ⟨#[97+(s.cps.getD 0 0-119808)%52]⟩,0) else Option.none) else Option.none
def mB:Sc:={kinds:=ŵ<|Ê 25,δ:=[("code",0)],wr:=["code"]}
def kr:Sc:={kinds:=ŵ<|Ê 27,δ:=[("code",0),("r",1)],wr:=["code","r"]}
section
variable{X:Cx}{k:Á}
def xO(G:Gl X){a:Ĳ}{n:Á}(c:X.mg "b1_set"=À (.ref a))(S:X.T.SetOf (kZ X.prog X.w) a (λi=>ŗ.contains i) n):SS X k mB 50 (Þ<|Ê 25) [.ret (.fn Ĺ [.Æ 0])]:=by
 refine .cons (.ret<|SE.inSet (G:=vV) (.call (.builtin rfl (G.no "ord"<|by decide) rfl<|by decide) (.cons rfl (.name rfl) .nil) ç.ord) rfl c S ?_) .nil
 .intro xs v m h;exact bJ į (M:=λxs=>∃i:Â,vV xs=À (.int i,0)/\v=.bool (ŗ.contains i)/\m=0) h λs h=>Ϲ h λb h=>by cases h;exact⟨_,ť b,rfl,rfl⟩
def Ai:Ã PS:=[.î 1 (.fn Qx [.Æ 0]),.Ŗ (.cmp .IsNot (.Æ 1)<|.c .none) [.ret (.Æ 1)] [],.ret<|.fn m_lower [.Æ 0]]
def vx(G:Gl X){d:Ĳ}{f:Â->Ï Ë}(p:X.mg "b3_exceptions"=À (.ref d))(S:X.T.MapOf (kZ X.prog X.w) d f)(a:(d==fC)=false)
  (j:∀n∈fx,f (n:Á)=Option.none) (g:∀n,fV n->∃t,f (n:Á)=À (.str ⟨#[97+(n-119808)%52]⟩ t)):SS X k kr 50 (Þ<|Ê 27) Ai:=by
 refine .cons ?_<|.cons ?_<|.cons ?_ .nil
 .refine .î rfl rfl ?_
  .refine SE.Ti (G:=vV) (.call (.builtin rfl (G.no "ord"<|by decide) rfl<|by decide) (.cons rfl (.name rfl) .nil) ç.ord) rfl rfl p S a ?_
   .intro xs v m h;refine bJ į (M:=λxs=>m=0/\∃i:Â,vV xs=À (.int i,0)/\∀B,VR B v<|(f i).getD .none) h λs h=>Ϲ h λb h=>?_;by_cases c:fx.contains (s.cps.getD 0 0)=true
    .cases(ť c).symm.trans h;exact⟨rfl,((s.cps.getD 0 0:Á):Â),ť b,λB=>Å (j _<|by simpa using c) .none⟩
    .refine Ϲ ((È c).symm.trans h) λc h=>?_;cases h;exact⟨rfl,((s.cps.getD 0 0:Á):Â),ť b,λB=>å (g _ c) λt o=>Å o .str⟩
 .refine .Ŗ ?_ (.cons (.ret<|.name rfl) .nil) .nil
  .refine .cmp ?_ .KD
   .refine .name ?_
    .rfl
 .refine .ret ?_;refine .vu (T:=?T) (id:=?id) ?_ ?_ ?_ ?_ ?_
  case T=>exact"str"
  case id=>exact"str.lower"
  .exact pU
  .exact .name rfl
  .exact .nil
  .exact ç.lower
  .exact pg
def JB(F:VF)(x v:V)(h:F [x]=À (v,0)):ė 50 1 1 [.ret (.fn F [.Æ 0])] [x]=À (v,0):=by
 exact kH rfl<|mK<|dJ (Ð (Ç rfl) Ą) h
def si:∀vs r,Ĺ vs=À r->ė 50 1 1 [.ret (.fn Ĺ [.Æ 0])] vs=À r:=by
 intro vs r h;obtain⟨s,rfl⟩:∃s,vs=[.str s]:=bJ į (M:=λvs=>∃s,vs=[V.str s]) h λs _=>⟨s,rfl⟩
 obtain⟨v,m⟩:=r;have:m=0:=Ϲ h λ_ h=>by cases h;rfl
 subst this;exact JB _ _ _ h
def qz:∀vs r,Ħ vs=À r->ė 50 2 1 Ai vs=À r:=by
 intro vs r h;obtain⟨s,rfl⟩:∃s,vs=[.str s]:=bJ į (M:=λvs=>∃s,vs=[V.str s]) h λs _=>⟨s,rfl⟩
 replace h:(if s.length=1 then(if fx.contains (s.cps.getD 0 0) then À (V.str<|pf s,0) else if fV (s.cps.getD 0 0) then À (V.str ⟨#[97+(s.cps.getD 0 0-119808)%52]⟩,0) else Option.none) else Option.none)=À r:=h;refine Ϲ h λf h=>?_;obtain⟨⟨c⟩⟩:=s;obtain⟨n,rfl⟩:∃n,c=[n]:=by
  exact bU.1 f
 by_cases b:fx.contains n=true
 .obtain rfl:=à<|(ť b).symm.trans h;exact dB<|(show∀n∈fx,mH (ė 50 2 1 Ai [.str ⟨#[n]⟩]) (pf ⟨#[n]⟩)=true by decide) n<|show n∈fx by simpa using b
 .refine Ϲ ((È b).symm.trans h) λg h=>?_;obtain rfl:=à h;have a:fV n:=g;have:=(show∀k:Fin 676,fV (119808+k.val)->mH (ė 50 2 1 Ai [.str ⟨#[119808+k.val]⟩]) ⟨#[97+(119808+k.val-119808)%52]⟩=true by decide) ⟨n-119808,by have:=a.1;have:=a.2.1;exact(A1 0x2a4371d400570911d6a457016) this⟩
  simp only[show 119808+(n-119808)=n by have:=a.1;exact(A1 0x1d40057091d400578201d4005706) this] at this;exact dB<|this a
end
def Oi:Ã (Ï yK):=match Ê 26 with
 |.Assign _ (.Dict k _ _) _=>k
 |_=>[]
def Py:Ã yK:=match Ê 26 with
 |.Assign _ (.Dict _ vs _) _=>vs
 |_=>[]
def ZK:Ã (Â×Str):=(Oi.zip Py).filterMap λx=>match x with
 |(À<|.Constant (.int i) _ _,.Constant (.str s) _ _)=>À (i,s)
 |_=>Ä
noncomputable def W6(j:Á):Ã (Â×Str):=(ZK.drop<|17*j).take 17
noncomputable def uw(d T:Á)(x:(Â×Str)×Á):bQ:=⟨x.1.1,.int x.1.1<|T+d*x.2,.str x.1.2<|T+d*x.2+1⟩
noncomputable def Cq(j:Á):Á:=459+51*j-39*(j/39)
noncomputable def dS(j:Á):Á:=if j<38 then 3 else 2
noncomputable def ce(j:Á):Ã bQ:=(W6 j).zipIdx.map<|uw (dS j)<|Cq j
noncomputable def gz(d T:Á)(L:Ã (Â×Str)):Obj:={cls:=.type "dict",data:=.dict (L.zipIdx.map<|uw d T).toArray L.length}
def yh(j:Á):Obj:=gz (dS j) (Cq j)<|W6 j
def qk(j:Á):Ã bQ:=(range<|j+1).flatMap ce
def nv(j:Á):Obj:={cls:=.type "dict",data:=.dict (qk j).toArray (qk j).length}
def Ml(n:Á):j1:=match Ê n with
 |.FunctionDef name args body _ _ _ scope _ _ _=>{name:=name,qualname:=name,params:=args,body:=.stmts body,scope:=scope,globals:=0,closure:=[],defaults:=.none,kwdefaults:=.none}
 |_=>{name:="",qualname:="",params:=⟨[],[],Ä,[],[],Ä,[]⟩,body:=.stmts [],scope:={kind:=.function,names:=[],isGenerator:=false,isCoroutine:=false},globals:=0,closure:=[],defaults:=.none,kwdefaults:=.none}
noncomputable def en(P:tM)(n:Str)(t:Á)(v:Ë):bQ:={hash:=PyData.keyHash P n,key:=.str n t,val:=v}
noncomputable def t0:Obj:={cls:=.type "tuple",data:=.seq #[]}
noncomputable def f0:Obj:={cls:=.none,data:=.fields #[]}
noncomputable def nt(t:Á)(l:Ã Str):Obj:={cls:=.type "tuple",data:=.seq ((l.zipIdx t).map λx=>Value.str x.1 x.2).toArray}
def qj(n:Á):Obj:={cls:=.none,data:=.func (Ml n)}
def fo(n:Á)(m:Str)(t c:Á):Obj:={cls:=.type "function",data:=.func {Ml n with globals:=3,pyModule:=.str m t,code:=.ref c}}
noncomputable def rn:Á->Ë
 |0=>.none
 |n+1=>.ref<|n+1
def co(n:Str)(t:Á)(l c:Â)(a v w f e:Á):Obj:={cls:=.type "code",data:=.fields #[.str n t,.str n<|t+1,.str "/claim/cut.py"<|t+2,.int l 0,.int c 0,.int 0 0,.int 0 0,.int 3 0,.ref a,.bool true,.int 181 0,.ref<|a+1,.none,rn v,rn w,.ref f,.int e 0,.int l 0,.str "/claim/cut.py"<|e+1]}
def Zz(P:tM):Ã bQ:=[en P "__doc__" 166 (.none),en P "__package__" 167<|.none,en P "__loader__" 168<|.builtin "__main__.__loader__#opaque",en P "__spec__" 169<|.none,en P "__annotations__" 170<|.ref 6,en P "__builtins__" 171<|.ref 4,en P "__file__" 173<|.str "/claim/cut.py" 172,en P "__cached__" 174<|.none,en P "_MAX_STRING_SIZE" 190<|.int 40 189,en P "_MOVE_COST" 192<|.int 2 191,en P "_CASE_COST" 194<|.int 1 193,en P "_substitution_cost" 202<|.ref 21,en P "_levenshtein_distance" 222<|.ref 28,en P "_DIV_LIMIT" 226<|.int 4000 225,en P "_div2n1n" 243<|.ref 35,en P "_div3n2n" 257<|.ref 42,en P "_int2digits" 268<|.ref 49,en P "_digits2int" 279<|.ref 56,en P "_divmod_pos" 294<|.ref 63,en P "int_divmod" 304<|.ref 70,en P "ONE_THIRD" 310<|.float 4599676419421066581 309,en P "ONE_SIXTH" 314<|.float 4595172819793696085 313,en P "TWO_THIRD" 318<|.float 4604180019048437077 317,en P "rgb_to_hls" 337<|.ref 77,en P "hls_to_rgb" 348<|.ref 84,en P "_v" 357<|.ref 91,en P "rgb_to_hsv" 375<|.ref 98,en P "hsv_to_rgb" 389<|.ref 105,en P "b1_set" 451<|.ref 113,en P "in_table_b1" 458<|.ref 123,en P "b3_exceptions" 2409<|.ref 124,en P "map_table_b3" 2417<|.ref 169,en P "_law_near" 2427<|.ref 176,en P "_law_read" 2440<|.ref 183,en P "_law_seen" 2446<|.ref 188,en P "_law_text" 2452<|.ref 193,en P "_law_table" 2458<|.ref 198,en P "_law_determinant" 2464<|.ref 203,en P "law" 2470<|.ref 208]
def Zw(P:tM):Ã bQ:=[en P "__name__" 165 (.str "cpy313.traceback" 187),en P "__name__" 165<|.str "cpy313._pylong" 223,en P "__name__" 165<|.str "cpy313.colorsys" 305,en P "__name__" 165<|.str "cpy313.stringprep" 390,en P "__name__" 165<|.str "law_wb0101_03" 2418]
def g3(P:tM)(i n:Á):Obj:={cls:=.type "dict",data:=.dict (((Zw P).drop i).take 1++(Zz P).take (n-1)).toArray n}
noncomputable def ZI:Ã (Â×Â×Á):=[(5,0,20),(11,0,27),(51,0,34),(67,0,41),(77,0,48),(93,0,55),(102,0,62),(113,0,69),(128,0,76),(151,0,83),(160,0,90),(169,0,97),(188,0,104),(211,0,122),(214,0,168),(220,0,175),(222,0,182),(231,0,187),(240,0,192),(249,0,197),(260,0,202),(274,0,207)]
noncomputable def RZ(n:Á):Obj:={cls:=.none,data:=.fields ((ZI.take n).flatMap λx=>[jT x.1 0,.int x.2.1 0,.ref x.2.2]).toArray}
noncomputable def ZZ:Obj:={cls:=.type "code",data:=.fields #[.str "<module>" 182,.str "<module>" 183,.str "/claim/cut.py" 184,.int 1 0,.int 0 0,.int 0 0,.int 0 0,.int 0 0,.ref 11,.bool false,.int 181 0,.ref 12,.none,.none,.none,.none,.int 185 0,.int 1 0,.str "/claim/cut.py" 186]}
noncomputable def ZO:Obj:={cls:=.type "frame",slots:=#[À (.ref 13),À<|.ref 3,À<|.ref 3,Ä,À<|.str "__main__" 164,Ä,À<|.ref 0]}
noncomputable def WG:Obj:={cls:=.type "list",data:=.seq #[.int 173 392,.int 847 393,.int 6150 394,.int 6155 395,.int 6156 396,.int 6157 397,.int 8203 398,.int 8204 399,.int 8205 400,.int 8288 401,.int 65279 402]}
noncomputable def TS:Obj:={cls:=.type "range",data:=.fields #[.int 65024 403,.int 65040 404,.int 1 405]}
noncomputable def VN:Obj:={cls:=.type "list",data:=.seq #[.int 65024 408,.int 65025 409,.int 65026 410,.int 65027 411,.int 65028 412,.int 65029 413,.int 65030 414,.int 65031 415,.int 65032 416,.int 65033 417,.int 65034 418,.int 65035 419,.int 65036 420,.int 65037 421,.int 65038 422,.int 65039 423] 18}
noncomputable def Vt:Obj:={cls:=.type "range_iterator",data:=.fields #[.int 65040 0,.int 0 0,.int 1 0]}
noncomputable def Wh:Obj:={cls:=.type "StopIteration",data:=.fields #[.ref 110,.none,.none,.none,.bool false,.none]}
noncomputable def SW:Obj:={cls:=.type "list_iterator",data:=.fields #[.none,.int 27 0]}
noncomputable def V0:Obj:={cls:=.type "StopIteration",data:=.fields #[.ref 115,.none,.none,.none,.bool false,.none]}
noncomputable def UO:Obj:={cls:=.type "list",data:=.seq #[.int 173 392,.int 847 393,.int 6150 394,.int 6155 395,.int 6156 396,.int 6157 397,.int 8203 398,.int 8204 399,.int 8205 400,.int 8288 401,.int 65279 402,.int 65024 408,.int 65025 409,.int 65026 410,.int 65027 411,.int 65028 412,.int 65029 413,.int 65030 414,.int 65031 415,.int 65032 416,.int 65033 417,.int 65034 418,.int 65035 419,.int 65036 420,.int 65037 421,.int 65038 422,.int 65039 423]}
noncomputable def Mp(P:tM):Obj:={cls:=.type "set",data:=.set #[(65024,.int 65024 408),(65025,.int 65025 409),(65026,.int 65026 410),(65027,.int 65027 411),(65028,.int 65028 412),(65029,.int 65029 413),(6150,.int 6150 394),(65030,.int 65030 414),(65031,.int 65031 415),(65032,.int 65032 416),(65033,.int 65033 417),(6155,.int 6155 395),(6156,.int 6156 396),(6157,.int 6157 397),(8203,.int 8203 398),(8204,.int 8204 399),(8205,.int 8205 400),(65034,.int 65034 418),(65035,.int 65035 419),(65036,.int 65036 420),(65037,.int 65037 421),(65038,.int 65038 422),(65039,.int 65039 423),(173,.int 173 392),(847,.int 847 393),(8288,.int 8288 401),(65279,.int 65279 402)] 29 {mask:=127,place:=#[0,1,2,3,4,5,6,7,8,9,10,11,12,13,14,15,16,17,18,19,20,21,22,45,79,96,127],dummies:=#[],finger:=0,led:=!P.followText "set-order",moves:=2,plain:=true}}
def Vv(P:tM):Ã Obj:=[t0,f0,nt 198 ["ch_a","ch_b"],t0,qj 4,co "_substitution_cost" 195 5 2 15 17 18 19 200,fo 4 "cpy313.traceback" 187 20,t0,f0,nt 206 ["a","b","max_cost","pre","post","row","result","bindex","bchar","distance","minimum","index","substitute","insert_delete"],t0,qj 5,co "_levenshtein_distance" 203 11 3 22 24 25 26 220,fo 5 "cpy313.traceback" 187 27,t0,f0,nt 230 ["a","b","n","pad","half_n","mask","b1","b2","q1","r","q2"],t0,qj 8,co "_div2n1n" 227 51 3 29 31 32 33 241,fo 8 "cpy313._pylong" 223 34,t0,f0,nt 247 ["a12","a3","b","b1","b2","n","q","r"],t0,qj 9,co "_div3n2n" 244 67 6 36 38 39 40 255,fo 9 "cpy313._pylong" 223 41,t0,f0,nt 261 ["a","n"],nt 263 ["n","a_digits","inner"],qj 10,co "_int2digits" 258 77 2 43 45 46 47 266,fo 10 "cpy313._pylong" 223 48,t0,f0,nt 272 ["digits","n"],nt 274 ["digits","n","inner"],qj 11,co "_digits2int" 269 93 2 50 52 53 54 277,fo 11 "cpy313._pylong" 223 55,t0,f0,nt 283 ["a","b","n","a_digits","r","q_digits","a_digit","q_digit","q"],t0,qj 12,co "_divmod_pos" 280 102 2 57 59 60 61 292,fo 12 "cpy313._pylong" 223 62,t0,f0,nt 298 ["a","b","q","r"],t0,qj 13,co "int_divmod" 295 113 2 64 66 67 68 302,fo 13 "cpy313._pylong" 223 69,t0,f0,nt 322 ["r","g","b","maxc","minc","sumc","rangec","l","s","rc","gc","bc","h"],t0,qj 18,co "rgb_to_hls" 319 128 3 71 73 74 75 335,fo 18 "cpy313.colorsys" 305 76,t0,f0,nt 341 ["h","l","s","m2","m1"],t0,qj 19,co "hls_to_rgb" 338 151 3 78 80 81 82 346,fo 19 "cpy313.colorsys" 305 83,t0,f0,nt 352 ["m1","m2","hue"],t0,qj 20,co "_v" 349 160 3 85 87 88 89 355,fo 20 "cpy313.colorsys" 305 90,t0,f0,nt 361 ["r","g","b","maxc","minc","rangec","v","s","rc","gc","bc","h"],t0,qj 21,co "rgb_to_hsv" 358 169 3 92 94 95 96 373,fo 21 "cpy313.colorsys" 305 97,t0,f0,nt 379 ["h","s","v","i","f","p","q","t"],t0,qj 22,co "hsv_to_rgb" 376 188 3 99 101 102 103 387,fo 22 "cpy313.colorsys" 305 104,WG,TS,VN,Vt,t0,Wh,UO,Mp P,SW,t0,V0,t0,f0,nt 455 ["code"],t0,qj 25,co "in_table_b1" 452 211 1 117 119 120 121 456,fo 25 "cpy313.stringprep" 390 122]++nv 38::(range 38).map (λi=>yh<|i+1)++[t0,f0,nt 2413 ["code","r"],t0,qj 27,co "map_table_b3" 2410 214 1 163 165 166 167 2415,fo 27 "cpy313.stringprep" 390 168,t0,f0,nt 2423 ["value","size"],t0,qj 29,co "_law_near" 2420 220 2 170 172 173 174 2425,fo 29 "law_wb0101_03" 2418 175,t0,f0,nt 2431 ["paint","way","hue","share","high","low","light"],t0,qj 30,co "_law_read" 2428 222 2 177 179 180 181 2438,fo 30 "law_wb0101_03" 2418 182,t0,f0,qj 31,co "_law_seen" 2441 231 4 184 0 0 186 2444,fo 31 "law_wb0101_03" 2418 187,t0,f0,qj 32,co "_law_text" 2447 240 4 189 0 0 191 2450,fo 32 "law_wb0101_03" 2418 192,t0,f0,qj 33,co "_law_table" 2453 249 2 194 0 0 196 2456,fo 33 "law_wb0101_03" 2418 197,t0,f0,qj 34,co "_law_determinant" 2459 260 1 199 0 0 201 2462,fo 34 "law_wb0101_03" 2418 202,t0,f0,qj 35,co "law" 2465 274 1 204 0 0 206 2468,fo 35 "law_wb0101_03" 2418 207]
def XF(P:tM)(a b:Obj)(n:Á):gk:=⟨([boot_o_0 P,boot_o_1 P,boot_o_2 P,a,boot_o_4 P,boot_o_5 P,boot_o_6 P,boot_o_7 P,boot_o_8 P,boot_o_9 P,boot_o_10 P,t0,b,ZZ,ZO]++(Vv P).take n).toArray,{}⟩
noncomputable def UP:Ã (Á×Á×Á×Á):=[(0,0,9,0),(0,0,10,0),(0,0,11,0),(0,0,12,0),(7,0,13,1),(14,0,14,2),(14,1,14,2),(14,1,15,2),(21,1,16,3),(28,1,17,4),(35,1,18,5),(42,1,19,6),(49,1,20,7),(56,1,21,8),(56,2,21,8),(56,2,22,8),(56,2,23,8),(56,2,24,8),(63,2,25,9),(70,2,26,10),(77,2,27,11),(84,2,28,12),(91,2,29,13),(91,3,29,13),(102,3,30,13),(109,3,31,14),(148,3,32,14),(155,3,33,15),(155,4,33,15),(162,4,34,16),(169,4,35,17),(174,4,36,18),(179,4,37,19),(184,4,38,20),(189,4,39,21),(194,4,40,22)]
def hq(n:Á)(P:tM):gk:=match n with
 |0=>XF P (boot_o_3 P) f0 0
 |n+1=>match UP.getD n (0,0,0,0) with
  |(s,f,k,q)=>XF P (g3 P f k) (RZ q) s
def ϒ(P:tM):gk:=hq 36 P
noncomputable abbrev jg:lX:=c9
noncomputable def i8:ey:={scope:=jg.main.scope,locals:=mainNs,globals:=mainNs,cells:=[],code:=.ref 13,frame:=À 14}
def Ϟ:Code:=.body (y0 jg) i8
noncomputable def p0:o6:={line:=0,col:=0,endLine:=0,endCol:=0}
noncomputable def Yp:Ã Á:=[187,189,191,193,195,203,223,225,227,244,258,269,280,295,305,307,311,315,319,338,349,358,376,390,392,452,459,2410,2418,2420,2428,2441,2447,2453,2459,2465,2471]
noncomputable def XE(n:Á):Á:=Yp.getD n 0
def RL:Á->o6
 |0=>p0
 |n+1=>match Ê n with
  |.Assign (t::_) _ _=>t.pos
  |s=>s.pos
noncomputable def WB(n:Á):Á:=if n=24 then 999 else 60
def Pc(w:dk)(n:Á):Prop:=∀o:dh,segRun hN jg w 11 (À<|.ref 6) 1 (WB n) ⟨hq n w.params,#[],{},XE n,o⟩ (pieceOf (Ê n) i8 Ϟ (RL n) [lu p0])=À (.next,⟨hq (n+1) w.params,#[],{},XE<|n+1,o⟩,Ϟ,RL<|n+1)
def VA(w:dk):Pc w 0:=λo=>by decide
def U1(w:dk):Pc w 1:=λo=>by decide
def TA(w:dk):Pc w 2:=λo=>by decide
def T1(w:dk):Pc w 3:=λo=>by decide
def Wf(w:dk):Pc w 4:=λo=>by decide
def TU(w:dk):Pc w 5:=λo=>by decide
def VL(w:dk):Pc w 6:=λo=>by decide
def TG(w:dk):Pc w 7:=λo=>by decide
def Uv(w:dk):Pc w 8:=λo=>by decide
def VV(w:dk):Pc w 9:=λo=>by decide
def OB(w:dk):Pc w 10:=λo=>by decide
def OO(w:dk):Pc w 11:=λo=>by decide
def Pz(w:dk):Pc w 12:=λo=>by decide
def PO(w:dk):Pc w 13:=λo=>by decide
def Oa(w:dk):Pc w 14:=λo=>by decide
def Qq(w:dk):Pc w 15:=λo=>by decide
def PF(w:dk):Pc w 16:=λo=>by decide
def OM(w:dk):Pc w 17:=λo=>by decide
def Qb(w:dk):Pc w 18:=λo=>by decide
def Oz(w:dk):Pc w 19:=λo=>by decide
def Rn(w:dk):Pc w 20:=λo=>by decide
def Oo(w:dk):Pc w 21:=λo=>by decide
def Ot(w:dk):Pc w 22:=λo=>by decide
def Pm(w:dk):Pc w 23:=λo=>by decide
def Of(w:dk):Pc w 25:=λo=>by decide
def Rb(w:dk):Pc w 27:=λo=>by decide
def Qr(w:dk):Pc w 28:=λo=>by decide
def P9(w:dk):Pc w 29:=λo=>by decide
def N2(w:dk):Pc w 30:=λo=>by decide
def QB(w:dk):Pc w 31:=λo=>by decide
def QE(w:dk):Pc w 32:=λo=>by decide
def QI(w:dk):Pc w 33:=λo=>by decide
def Ob(w:dk):Pc w 34:=λo=>by decide
def QN(w:dk):Pc w 35:=λo=>by decide
def aaN(w:dk):Pc (w.withFollow "special-get-raises" false) 24:=by intro os;rw[Gb,ý];decide
def aau(w:dk):Pc (w.withFollow "special-get-raises" true) 24:=by intro os;rw[Gb,ý];decide
def Jc:∀w:dk,(fencedOpening hN jg w 40000).map (λs=>(s.heap,s.gens,s.drawn,s.toks))=À (nR w.params,Array.mk [],Fn,boot_toks):=
 boot_open rfl rfl (λs=>by rfl)
def Jy:∀w:dk,((nR w.params).isNs ż&&(#[]:gS GenState).size==0,(nR w.params).objs.size,(nR w.params).nsMap ż "__annotations__")=(true,11,À<|.ref 6):=by
 intro w;decide
def LU(w:dk)(o:dh):topGo hN jg w 11 (À<|.ref 6) 12 ⟨nR w.params,#[],Fn,boot_toks,o⟩ (topStub jg)=À (⟨hq 0 w.params,#[],{},187,o⟩,⟨denote hN Ϟ,Ϟ,p0,[lu p0]⟩):=by decide
def E5(w:dk)(o:dh):segRun hN jg w 11 (À<|.ref 6) 1 1 ⟨hq 0 w.params,#[],{},187,o⟩ (blockOf (y0 jg) i8 Ϟ p0 [lu p0])=À (.next,⟨hq 0 w.params,#[],{},187,o⟩,Ϟ,p0):=by decide
def LP(w:dk)(o:dh):fJ hN jg w 11 (À<|.ref 6) 2 ⟨hq 36 w.params,#[],{},2471,o⟩ ⟨doneF .next,Ϟ,RL 36,[lu p0]⟩=À ⟨ϒ w.params,#[],{},2471,o⟩:=by decide
def qv:lX:={jg with main:={jg.main with body:=[Ê 1,Ê 2,Ê 3,Ê 4,Ê 5,Ê 7,Ê 8,Ê 9,Ê 10,Ê 11,Ê 12,Ê 13,Ê 15,Ê 16,Ê 17,Ê 18,Ê 19,Ê 20,Ê 21,Ê 22,Ê 25,Ê 27,Ê 29,Ê 30,Ê 31,Ê 32,Ê 33,Ê 34,Ê 35]}}
noncomputable def Sz:Ã Str:=["ONE_THIRD","ONE_SIXTH","TWO_THIRD","b1_set","b3_exceptions"]
def RE(w:dk)(o:dh):(staticsOk (zw jg.main.body) (nR w.params) (ϒ w.params)&&namesBound jg (ϒ w.params)&&gensDone ⟨ϒ w.params,#[],{},2471,o⟩&&laidKept (nR w.params) (ϒ w.params))=true:=by decide
def PT(w:dk)(o:dh):openSeen qv Sz (zw jg.main.body) (λ_=>true) true ⟨ϒ w.params,#[],{},2471,o⟩=openGood qv Sz:=by decide
def ű:o6:=match Ê 26 with
 |.Assign _ (.Dict _ _ p) _=>p
 |_=>p0
def od:Ã (Ï (ŭ Ë)×ŭ Ë):=(evalEachOpt Oi i8).zip ((evalEach Py i8).map λv=>do let x<-v;bc ű;pure x)
noncomputable def P7:Ã (ŭ Ë×ŭ Ë):=od.filterMap λx=>x.1.map λk=>(k,x.2)
noncomputable def ve(j:Á):Ã (ŭ Ë×ŭ Ë):=(P7.drop<|17*j).take 17
noncomputable def ϩ(run:Ã (ŭ Ë×ŭ Ë))(m:Ï Ĳ):ŭ (Ï Ĳ):=
 if run.isEmpty=true then pure m
 else
  match m with
  |none=>do
   let Cs<-xZ run
   pure (À Cs)
  |some d=>do
   let sub<-bF [aD d] (xZ run)
   (bF [aD d,aD sub]<|yr d (aD sub) false).onRaise λ(x:Ë)=>do
    let _<-bF [aD d,x] (runValue<|Code.builtin "proto.let_go" {})
    pure ()
   pure (À d)
def RS(n₀:Á)(m:ŭ α)(s:ŕ)(p:o6)(n:Á)(a:α)(s':ŕ)(p':o6):Prop:=∀P:ŭ α->ŕ->o6->Á->Prop,P (.pure a) s' p' 0->(∀{q k s n p},P (k ()) s q n->P (.at q k) s p (n+1))->
 (∀{c q k o s p n},s.heap.get? c=À o->P (k o) s p n->P (.load c q k) s p (n+1))->(∀{c q g k o s p n},s.heap.get? c=À o->aY n₀ c=true->P (k ()) {s with heap:=s.heap.update c g} p n->P (.update c q g k) s p (n+1))->P m s p n
section
variable{α β:Type}{n₀:Á}{a:α}
def RS.pure:RS n₀ (.pure a) s p 0 a s p:=λ_ h _ _ _=>h
def RS.at(h:RS n₀ (k ()) s q n a s' p'):RS n₀ (.at q k) s p (n+1) a s' p':=λP x y z w=>y<|h P x y z w
def RS.load(o:s.heap.get? c=À o')(h:RS n₀ (k o') s p n a s' p'):RS n₀ (.load c q k) s p (n+1) a s' p':=λP x y z w=>z o<|h P x y z w
def RS.update(o:s.heap.get? c=À o')(b:aY n₀ c=true)(h:RS n₀ (k ()) {s with heap:=s.heap.update c g} p n a s' p'):RS n₀ (.update c q g k) s p (n+1) a s' p':=λP x y z w=>w o b<|h P x y z w
def RS.bind{m:ŭ α}{f:α->ŭ β}(h:RS n₀ m s p n a s' p')(k:RS n₀ (f a) s' p' n' b Kq NJ):RS n₀ (m>>=f) s p (n'+n) b Kq NJ:=h (λm s p n=>RS n₀ (m>>=f) s p (n'+n) b Kq NJ) k (λh=>.at h) (λo h=>.load o h) λo b h=>.update o b h
def aaO{vs:Ã Ë}{m:ŭ α}{P:ŭ α->Prop}(h:P m)(k:∀l,P<|m.keep l):P (bF vs m):=by
 unfold bF;generalize vs.filter _=l;cases l
 .exact h
 exact k _
def RS.holding{m:ŭ α}(h:RS n₀ m s p n a s' p'):RS n₀ (bF vs m) s p n a s' p':=
 aaO (P:=λm=>RS n₀ m s p n a s' p') h λl=>h (λm s p n=>RS n₀ (Sem.keep l m) s p n a s' p') .pure (λh=>.at h) (λo h=>.load o h) λo b h=>.update o b h
def RS.onRaise{m:ŭ α}(h:RS n₀ m s p n a s' p'):RS n₀ (m.onRaise hd) s p n a s' p':=h (λm s p n=>RS n₀ (m.onRaise hd) s p n a s' p') .pure (λh=>.at h) (λo h=>.load o h) λo b h=>.update o b h
def RS.top{m:ŭ α}{K:α->ŭ Fin}(h:RS n₀ m s q n a s' q')(k:fJ tb p w n₀ Yh N s' ⟨K a,.body b env,q',B⟩=À r):
  fJ tb p w n₀ Yh (n+N) s ⟨m.wrap K H gd lv,.body b env,q,B⟩=À r:=by
 refine h (λm s q n=>fJ tb p w n₀ Yh (n+N) s ⟨m.wrap K H gd lv,.body b env,q,B⟩=À r) (Å (ů ..) k) ?_ ?_ ?_
 .intro _ _ _ _ _ k;refine Å (xJ ..) ?_;unfold fJ;simpa[through,stepOk,xQ,uc,DB,Fd,step] using k
 .intro _ _ _ _ _ _ _ o k;refine Å (xJ ..) ?_;unfold fJ;simpa[through,stepOk,xQ,uc,DB,Fd,step,o] using k
 .intro _ _ _ _ _ _ _ _ o c k;refine Å (xJ ..) ?_;unfold fJ;simpa[through,stepOk,xQ,uc,DB,Fd,step,o,c] using k
end
noncomputable abbrev CF(es:gS bQ)(n:Á):Obj:={cls:=.type "dict",data:=.dict es n}
def vg{es:gS bQ}(a:∀e∈es.toList,e.hash≠h):placesWithHash es.size (λi=>es[i]?.map (·.hash)) h=[]:=by
 unfold placesWithHash;refine filter_eq_nil_iff.2 λi hi (q:(es[i]?.map (·.hash)==À h)=true)=>?_;cases e:es[i]? with
 |none=>have q:=e▸q;cases q
 |some x=>exact a x (Array.mem_toList_iff.2<|tA e) (by have q:=e▸q;simpa using q)
def qC(o:s.heap.get? d=À (CF es n))(b:∀e∈es.toList,e.hash≠h):RS n₀ (dictFind d (.int i t) h) s p 1 Ä s p:=by
 unfold dictFind;refine RS.bind (n:=1) (n':=0) (m:=dictEntries d<|keyPart<|.int i t) (a:=es) (.load o .pure) ?_;dsimp only;exact Å (vg b) .pure
noncomputable def hx(A:Ã Obj)(x:Obj)(R:Ã Obj)(l:Life):gk:=⟨(A++x::R).toArray,l⟩
set_option backward.match.sparseCases true in
def OX(x:Obj):Prop:=(match À x with|some ⟨_,_,.freed,_⟩=>Ä|o=>o)=À x
def yl(h:OX x):(hx A x R l).get? A.length=À x:=by
 unfold hx Heap.get?;exact Å (show(A++x::R).toArray[A.length]?=À x by simp) h
def sY(hi:R[i]?=À o)(h:OX o):(hx A x R l).get? (A.length+1+i)=À o:=by
 unfold hx Heap.get?;rw[show(A++x::R).toArray[A.length+1+i]?=À o by
  exact Å (xB)<|Å (xq<|by omega)<|Å (show A.length+1+i-A.length=i+1 by exact(A2 0xe0810e18892))<|Å (y7)<|Å hi rfl]
 exact h
def BK:(hx A x R l).update A.length f=hx A (f x) R l:=by
 unfold hx Heap.update;simp only[Heap.mk.injEq,and_true];simp
 induction A with
 |nil=>rfl
 |cons a A ih=>rw[ti,kc,modify_succ_cons,ih];rfl
abbrev HH(sh:ŕ)(A:Ã Obj)(es:gS bQ)(n:Á)(R:Ã Obj)(l:Life):ŕ:={sh with heap:=hx A (CF es n) R l}
def aao(s:sh.heap=hx A (CF es n) R l)(j:aY n₀ A.length=true)(c:es.size<=ee):
  RS n₀ (updateDictKeys A.length (·.push ⟨h,.int i t,v⟩) q) sh p 3 () (HH sh A (es.push ⟨h,.int i t,v⟩) (n+1) R l) p:=by
 have g:sh.heap.get? A.length=À (CF es n):=Å s<|yl rfl;refine .load g<|.update g j ?_;refine Å s<|Å BK ?_;refine .load (yl rfl) ?_;rw[show∀(a:Obj)(f:Obj->ŭ Unit),(Sem.pure a).bind f=f a from λ_ _=>rfl];rw[(show(Obj.mapDictKeys (·.push ⟨h,.int i t,v⟩)<|CF es n).data.pastItsLine=Ä from È<|by rw[Array.size_push];omega)];exact .pure
def uK(s:sh.heap=hx A (CF es n) R l)(j:aY n₀ A.length=true)(b:∀e∈es.toList,e.hash≠h)(c:es.size<=ee):
  RS n₀ (dictPut A.length h (.int i t) v) sh p 4 () (HH sh A (es.push ⟨h,.int i t,v⟩) (n+1) R l) p:=by
 unfold dictPut;exact RS.bind (n:=1) (n':=3) (m:=dictFind A.length (.int i t) h) (qC (Å s<|yl rfl) b)<|aao s j c
def rR(e:bQ):Prop:=∃i t,e.key=.int i t
def DS{fs:gS bQ}
  (t:∀(i:Á)(e:bQ)(es:gS bQ)(n:Á)(sh:ŕ),sh.heap=hx A (CF es n) R l->fs[i]?=À e->rR e->(∀c∈es.toList,c.hash≠e.hash)->es.size<=ee->RS n₀ (body i ū) sh p 6 (.yield ū) (HH sh A (es.push e) (n+1) R l) p)
  (is:Ã Á):∀(L:Ã bQ)(es:Ã bQ)(n:Á)(sh:ŕ),sh.heap=hx A (CF es.toArray n) R l->is.map (λi=>fs[i]?)=L.map À->(∀e∈L,rR e)->((es++L).map (·.hash)).Nodup->(es++L).length<=ee->
  RS n₀ (forIn is ū body) sh p (6*L.length) ū (HH sh A (es++L).toArray (n+L.length) R l) p:=by
 induction is with
 |nil=>
  intro L es n sh s h _ _ _
  induction L with
  |cons=>injection h
  |nil=>
   have:HH sh A (es++[]).toArray (n+([]:Ã bQ).length) R l=sh:=by refine Å (pH ..) ?_;unfold HH;exact Đ (show sh.heap=hx A (CF es.toArray<|n+([]:Ã bQ).length) R l from s) rfl
   exact Å this .pure
 |cons i is ih=>
  intro L es n sh s m k b hz
  induction L with
  |nil=>injection m
  |cons e L=>
   have m:=(cons.injEq ..)▸(mC ..)▸(mC ..)▸m;refine Å (tp ..) ?_;have q:es++[e]++L=es++e::L:=by simp
   have ih:=ih L (es++[e]) (n+1) (HH sh A (es.toArray.push e) (n+1) R l) (by simp) m.2 (λx hx=>k x<|.tail _ hx) (q▸b)<|q▸hz;rw[bG,yN] at b;exact(t i e es.toArray n sh s m.1 (k e<|.head _) (λc a=>b.2.2 _ (mem_map_of_mem a) _<|.head _)<|by simp at hz⊢;omega).bind<|(show n+1+L.length=n+(L.length+1) by exact(A2 0xe18081e0882))▸q▸ih
def Dq(s:sh.heap=hx A (CF es.toArray n) R l)(C:aY n₀ A.length=true)(o:R[j]?=À (CF L.toArray m))(h:es≠[])(f:(A.length+1+j==fC)=false)
  (k:∀e∈L,rR e) (x:((es++L).map (·.hash)).Nodup) (hz:(es++L).length<=ee):
  RS n₀ (yr A.length (.ref<|A.length+1+j) false) sh p (6*L.length+5) () (HH sh A (es++L).toArray (n+L.length) R l) p:=by
 have g:sh.heap.get? (A.length+1+j)=À (CF L.toArray m):=Å s<|sY o rfl;have q:sh.heap.get? A.length=À (CF es.toArray n):=Å s<|yl rfl;unfold yr;refine RS.bind (n:=1) (n':=6*L.length+4) (a:=true) (s':=sh) (p':=p) ?_ ?_
 .unfold isInstance;refine RS.bind (n:=1) (n':=0) (a:=.type "dict") (s':=sh) (p':=p) (.load g .pure) ?_;exact Å isSubtype_dict_dict .pure
 refine Å (ť rfl) ?_;refine RS.bind (n:=1) (n':=6*L.length+3) (a:=À<|.builtin "dict.__iter__") (s':=sh) (p':=p) ?_ ?_
 .unfold CY;refine RS.bind (n:=1) (n':=0) (a:=.type "dict") (s':=sh) (p':=p) (.load g .pure) ?_;exact Å F.slot_dict_iter.lookup .pure
 refine(?_:RS n₀ (if(A.length+1+j==fC)=true then _ else _) sh p _ _ _ _);refine Å (È<|by refine Å f ?_;decide) ?_;refine RS.bind (n:=1) (n':=6*L.length+2) (a:=es.toArray) (s':=sh) (p':=p) (.load q .pure) ?_;refine Å (È (by cases es with|nil=>exact ó rfl h|cons a b=>simp)) ?_;refine RS.bind (n:=1) (n':=6*L.length+1) (a:=L.toArray) (s':=sh) (p':=p) (.load g .pure) ?_;refine RS.bind (n:=1) (n':=6*L.length) (a:=m) (s':=sh) (p':=p) (.load g .pure) ?_;refine Đ (ů<|6*L.length) ?_;refine RS.bind (n:=6*L.length) (n':=0) (a:=ū) (p':=p) (s':=HH sh A (es++L).toArray (n+L.length) R l) ?_ .pure;refine DS (fs:=L.toArray) ?_ (range L.length) L es n sh s (by
  apply ext_getElem
  .simp
  .intro i y D;simp at y D⊢) k x hz
 clear g q s h x hz;intro i e es n sh s hi k B c;refine zm k λw t0 k=>?_;refine RS.bind (n:=1) (n':=5) (a:=L.toArray) (s':=sh) (p':=p) (.load (Å s<|sY o rfl) .pure) ?_;simp only[hi];refine RS.bind (n:=4) (n':=1) (a:=()) (p':=p) (s':=HH sh A (es.push e) (n+1) R l) (RS.holding ?_) ?_
 .refine Å (È<|by decide) ?_;exact(k.symm▸((show e=⟨e.hash,.int w t0,e.val⟩ by exact Đ k rfl)).symm▸(uK (n₀:=n₀) (p:=p) (v:=e.val) (i:=w) (t:=t0) s C B c))
 refine RS.bind (n:=1) (n':=0) (a:=m) (p':=p) (s':=HH sh A (es.push e) (n+1) R l) (.load (sY o rfl) .pure) ?_;exact Å (È<|by simp) .pure
def tR(w:dk)(N:Á)(s:ŕ)(m:ŭ Fin)(p:o6)(r:ŕ):Prop:=fJ hN jg w 11 (À<|.ref 6) N s ⟨m,Ϟ,p,[lu p0]⟩=À r
def Ľ(w:dk)(n:Á)(m:ŭ α)(s:ŕ)(p:o6)(a:α)(s':ŕ)(p':o6):Prop:=
 ∀(lv:Ã Ë->Ã Ë)(K:α->ŭ Fin)(H:Ë->ŭ Fin)(N:Á)(r:ŕ),tR w N s' (K a) p' r->tR w (n+N) s (m.wrap K H id lv) p r
section
variable{α β:Type}{w:dk}
def Ľ.bind(h:Ľ w n m s p a s' p')(k:Ľ w n' (f a) s' p' b Kq NJ):Ľ w (n+n') (m>>=f) s p b Kq NJ:=by
 intro lv K H N r c;exact Å (Sem.bind_eq_wrap' ..)<|Å (Sem.wrap_wrap ..)<|Å (Nat.add_assoc ..)<|h lv (λa=>(f a).wrap K H id lv) _ _ _<|k lv K H N r c
def aaq{m:ŭ α}{K:α->ŭ Fin}:(m.keep l).wrap K H id lv=m.wrap K H id (λx=>lv<|l++x):=(Ù (λz=>z.wrap K H id lv)<|Sem.keep_eq_wrap ..).trans<|Sem.wrap_wrap ..
def Ľ.holding(h:Ľ w n m s p a s' p'):Ľ w n (bF vs m) s p a s' p':=
 aaO (P:=λm=>Ľ w n m s p a s' p') h λ_ _ K H N r c=>Å aaq<|h _ K H N r c
def Ľ.pure:Ľ w 0 (.pure a) s p a s p:=by
 intro _ K H N r h;exact Å (ů ..) h
def Ľ.Vl{n:Á}(h:RS 11 m s p n a s' p'):Ľ w n m s p a s' p':=λ_ _ _ _ _=>h.top
def Ľ.v8{m:ŭ α}{res:α->Flow}(b:∀x,res x=res a->x=a)(h:∀lv:Ã Ë->Ã Ë,segRun hN jg w 11 (À<|.ref 6) 1 n s ⟨m.wrap (λa=>.pure<|.done<|res a) deadEnd id lv,Ϟ,p,[lu p0]⟩=À (res a,s',Ϟ,p')):Ľ w n m s p a s' p':=by
 intro lv K H N r f;exact ì (seg_top (res:=res) (K':=K) (H':=H) (B:=[lu p0]) rfl n s ⟨m.wrap (λa=>.pure<|.done<|res a) deadEnd id lv,Ϟ,p,[lu p0]⟩ ⟨m.wrap K H id lv,Ϟ,p,[lu p0]⟩ _ _ _ _ ⟨rfl,rfl,.inl ⟨rfl,rfl,_,rfl,rfl⟩⟩<|h lv) λx hx c=>((b x hx)▸c) N r f
set_option backward.match.sparseCases true in
def Ľ.O7{a:DA}(h:Ľ w n (exec a i8) s p .next s' p')
  (k:fJ hN jg w 11 (À<|.ref 6) N s' (restOf aE i8 Ϟ p' [lu p0])=À r):fJ hN jg w 11 (À<|.ref 6) (n+N) s (restOf (a::aE) i8 Ϟ p [lu p0])=À r:=by
 unfold restOf;exact Å (execs_cons_wrap ..)<|h id (λf=>match f with|.next=>(execs aE i8).wrap doneF (leaveH i8) id id|f=>doneF f) _ N r k
end
noncomputable def ur(a:Ĳ):Flow:=.ret<|.ref a
def Su(P:tM):Ã Obj:=(hq 26 P).objs.toList
def wh(j:Á):Ã Obj:=(range j).map λi=>yh<|i+1
noncomputable def sT(h:gk)(tk:Á)(o:dh):ŕ:=⟨h,#[],{},tk,o⟩
def v9(j:Á)(P:tM):gk:=hx (Su P) (nv j) (wh j) {}
def SH(j:Á)(P:tM):gk:=hx (Su P) (nv j) (wh<|j+1) {}
noncomputable def gv(x:Â×Str):ŭ Ë×ŭ Ë:=(mkInt x.1,do let v<-mkText x.2;bc ű;pure v)
def aaM:P7=ZK.map gv:=by decide
def aat:ZK.all (λx=>kX x.1==x.1)=true:=by decide
noncomputable def aar:Ï Ë->Flow
 |some v=>.ret v
 |none=>.next
def aag(a:Ë)(x:Ï Ë)(h:aar x=.ret a):x=À a:=by
 cases x with
 |none=>exact Flow.noConfusion h
 |some v=>exact Ù À<|Flow.ret.inj h
def ky(a x:Ĳ)(h:ur x=ur a):x=a:=by
 simpa[ur] using h
section
variable{w:dk}{h:gk}{tk:Á}{o:dh}{p:o6}
def aas(x:Â)(t:Tok):Ľ w 0 (CY (.int x t) "__hash__") s p (À<|.builtin "int.__hash__") s p:=
 Å (show CY (.int x t) "__hash__"=Sem.pure (À<|Et "int.__hash__") by decide) .pure
def aaL(x:Â)(t:Tok)(R:ŭ Ë):∀w:dk,Ľ w 6 (Fq (.int x t) "__hash__" R) (sT h tk o) p (À<|.int (rawHash x) tk) (sT h (tk+1) o) p:=
 byRow2 "special-get-raises" (λw=>Ľ.v8 (res:=aar) (aag _) λlv=>by decide) (λw=>Ľ.v8 (res:=aar) (aag _) λlv=>by decide)
def aax(u:kX x=k)(w:dk)(t:Tok):Ľ w 6 (pyHash<|.int x t) (sT h tk o) p k (sT h (tk+1) o) p:=by
 refine(?_:Ľ w (0+6) (cRoomFor "hash" [jT x t]>>=_) _ _ _ _ _);refine Ľ.bind (a:=()) Ľ.pure ?_;refine(?_:Ľ w (0+6) (CY (jT x t) "__hash__">>=_) _ _ _ _ _);refine Ľ.bind (aas x t) ?_;refine(?_:Ľ w (0+6) (CY (jT x t) "__hash__">>=_) _ _ _ _ _);refine Ľ.bind (aas x t) ?_;refine(?_:Ľ w (6+0) (Fq (.int x t) "__hash__" _>>=_) _ _ _ _ _);refine Ľ.bind (aaL x t _ w) ?_;refine(?_:Ľ w 0 (if(decide (-(2:Â)^63<=rawHash x)&&decide (rawHash x<2^63))=true then _ else _) _ _ _ _ _);refine Å (ť<|jU.2 ⟨ix (rawHash_range x).1,ix (rawHash_range x).2⟩) ?_;subst u;exact Ľ.pure
def aal(t:pF):Ľ w 2 (rule t) (sT h tk o) p () (sT h tk o) p:=
 Ľ.v8 (res:=λ_=>.next) (λ_ _=>rfl) λlv=>by decide
def aaI(x:Â):Ľ w 2 (mkInt x) (sT h tk o) p (.int x tk) (sT h (tk+1) o) p:=
 Ľ.v8 (res:=.ret) (λ_ h=>by injection h) λlv=>by decide
def aaF(x:Str):Ľ w 3 (do let v<-mkText x;bc ű;pure v) (sT h tk o) p (.str x tk) (sT h (tk+1) o) ű:=
 Ľ.v8 (res:=.ret) (λ_ h=>by injection h) λlv=>by decide
def aap(x:Obj):Ľ w 2 (alloc x) (sT h tk o) p h.objs.size (sT (h.push x) tk o) p:=
 Ľ.v8 (res:=ur) (ky _) λlv=>by decide
noncomputable def sS(A:Ã Obj)(es:Ã bQ)(n tk:Á)(o:dh):ŕ:=sT (hx A (CF es.toArray n) [] {}) tk o
def aaJ(u:kX x=k)(w:dk)(j:aY 11 A.length=true)(b:∀e∈es,e.hash≠k)(c:es.length<=ee):
  Ľ w 12 (dictSet A.length (.int x t) v) (sS A es n tk o) p () (sS A (es++[⟨k,.int x t,v⟩]) (n+1) (tk+1) o) p:=by
 unfold dictSet;refine Ľ.holding<|Ľ.bind (n':=6) (aax u w t) ?_;unfold dictSetHashed;refine Ľ.holding<|Ľ.bind (n:=1) (n':=5) (Ľ.Vl<|qC (yl rfl) b) ?_;refine Ľ.bind (n':=3) (aal _)<|Ľ.Vl ?_;unfold sS;exact Đ (Dw ..)<|aao rfl j c
def aaG{body:ŭ Ë×ŭ Ë->PUnit->ŭ (ForInStep PUnit)}{S:Ã (Â×Str)->ŕ}(L:Ã (Â×Str)):∀q,(∀a x r,q++L=a++x::r->Ľ w 17 (body (gv x) ū) (S a) ű (.yield ū) (S<|a++[x]) ű)->
  Ľ w (17*L.length) (forIn (L.map gv) ū body) (S q) ű ū (S<|q++L) ű:=by
 induction L with
 |nil=>exact λq _=>Å (pH q) .pure
 |cons x L ih=>
  intro q h;have K:=ih (q++[x]) λa y r e=>h a y r<|(ak q [x] L).symm.trans e;rw[ak] at K;exact Å (tp ..)<|Å (show 17*(x::L).length=17+17*L.length from Nat.add_comm (17*L.length) 17)<|(h q x L rfl).bind K
noncomputable def sQ(A:Ã Obj)(T:Á)(o:dh)(q:Ã (Â×Str)):ŕ:=sS A (q.zipIdx.map<|uw 3 T) q.length (T+3*q.length) o
def aaA{L:Ã (Â×Str)}(d:L.length<=ee)(k:∀x∈L,kX x.1=x.1)(b:(L.map (·.1)).Nodup)(w:dk)(j:aY 11 A.length=true)(e:L=a++x::r):
  Ľ w 17 (do
   let kv<-mkInt x.1
   let vv<-bF [kv] (do let v<-mkText x.2;bc ű;pure v)
   bF [kv,vv] (dictSet A.length kv vv)
   pure (aq ū)) (sQ A T o a) ű (.yield ū) (sQ A T o<|a++[x]) ű:=by
 subst e;refine Ľ.bind (n:=2) (n':=15) (aaI _) ?_;refine Ľ.bind (n:=3) (n':=12) (Ľ.holding<|aaF _) ?_;refine Ľ.bind (n:=12) (n':=0) (a:=()) (Ľ.holding ?_) Ľ.pure;unfold sQ;rw[zipIdx_append,bG,eU,ů];exact aaJ (k x<|mem_append_right a<|.head r) w j (λe he=>by
  obtain⟨y,hy,rfl⟩:=dp.1 he;rw[bG] at b;exact(yN.1 b).2.2 _ (mem_map_of_mem<|zipIdx_map_fst 0 a▸mem_map_of_mem hy) _<|.head _) (ú (by simp) d)
def Ľ.mono(h:Ľ w n m s p a s' p')(b:n<=n'):Ľ w n' m s p a s' p':=by
 intro lv K H N r c;exact((show n+N+(n'-n)=n'+N by exact(A3 0x208109218820106) b)▸(topRun_mono (n'-n) _ _ _ _<|h lv K H N r c))
def aaE{L:Ã (Â×Str)}(c:15<L.length)(d:L.length<=17)(k:∀x∈L,kX x.1=x.1)(b:(L.map (·.1)).Nodup)(j:aY 11 A.length=true)(w:dk)(T:Á):
  Ľ w (4+17*L.length) (xZ<|L.map gv) (sT ⟨A.toArray,{}⟩ T o) ű A.length (sT ⟨(A++[gz 3 T L]).toArray,{}⟩ (T+3*L.length) o) ű:=by
 refine Å (Nat.add_assoc 2 2 _) ?_;unfold xZ;refine Ľ.bind (aap _)<|Ľ.bind (n:=2+17*L.length) (n':=0) (a:=()) (Ľ.holding ?_) Ľ.pure;refine Å (È<|by rw[É];exact Nat.not_le_of_lt c) ?_;refine Ľ.bind (aal _)<|Ľ.bind (n:=17*L.length) (n':=0) (a:=ū) ?_ Ľ.pure;refine Å (show(⟨A.toArray,{}⟩:gk).push {cls:=.type "dict",data:=.dict #[]}=hx A (CF #[] 0) [] {} from Ù (Heap.mk · {})<|Dw ..) ?_;exact aaG (S:=sQ A T o) L [] λa x r e=>aaA (ú d<|by decide) k b w j e
end
def aaH:ZK.length=650:=by decide
noncomputable def Cb:Ã Â->Ò
 |a::b::l=>decide (a<b)&&Cb (b::l)
 |_=>true
def I1(l:Ã Â):∀(a:Â),Cb (a::l)=true->∀x∈l,a<x:=by
 induction l with
 |nil=>exact λ_ _ _ h=>ϭ h
 |cons b l ih=>
  intro a h x hx;have h:=jU.1<|show(decide (a<b)&&Cb (b::l))=true from h;rw[ϻ] at h;rcases ő.1 hx with rfl|hx
  .exact h.1
  .exact Int.lt_trans h.1<|ih b h.2 x hx
def yA:∀l:Ã Â,Cb l=true->l.Nodup:=by
 intro r0
 induction r0 with
 |nil=>exact λ_=>nodup_nil
 |cons a l ih0=>
  intro h;rw[dg];refine⟨λm=>?_,ih0 ?_⟩
  .exact Int.lt_irrefl a<|I1 l a h a m
  .induction l with
   |nil=>rfl
   |cons b l=>exact(jU.1<|show(decide (a<b)&&Cb (b::l))=true from h).2
def aab(j:Á)(h:j<38):(W6 j).length=17:=by
 unfold W6;exact Å eD<|Å bO<|Å aaH<|(A2 0x1127120112a28a3791211270112a28a379171127120112a28a379112707862627016) h<|Aj _ _
def aaC(j:Á):ve j=(W6 j).map gv:=by unfold ve W6;rw[aaM,map_take,map_drop]
def aan(j:Á)(h:j<38)(b:aY 11 A.length=true)(w:dk)(o:dh):
  Ľ w 400 (xZ<|ve j) (sT ⟨A.toArray,{}⟩ (Cq j) o) ű A.length (sT ⟨(A++[yh j]).toArray,{}⟩ (Cq<|j+1) o) ű:=by
 have s:(W6 j).Sublist ZK:=(take_sublist ..).trans<|drop_sublist ..;have H:=aaE (o:=o) (Å (aab j h)<|by decide) (Å (aab j h)<|by decide) (λx hx=>ka.1<|all_eq_true.1 aat x<|s.subset hx)
  ((s.map _).nodup<|yA _<|show Cb (ZK.map (·.1))=true by decide) b w (Cq j)
 have g:Cq (j+1)=Cq j+3*(W6 j).length:=by
  unfold Cq;exact Å (aab j h)<|Å (wX<|Nat.succ_lt_succ h)<|Å (wX<|ic h) rfl
 have f:yh j=gz 3 (Cq j) (W6 j):=Ù (λd=>gz d (Cq j)<|W6 j)<|ť h;exact Å (aaC j)<|Å f<|Å g<|H.mono<|Å (aab j h)<|by decide
def YZ(j:Á)(w:dk):Prop:=∀o:dh,Ľ w 400 (bF [aD 124]<|xZ<|ve j) ⟨v9 (j-1) w.params,#[],{},Cq j,o⟩ ű (124+j) ⟨SH (j-1) w.params,#[],{},Cq<|j+1,o⟩ ű
def uq(P:tM):(Su P).length=124:=by decide
def u2(j:Á):(wh j).length=j:=by simp[wh]
def Ce(j:Á):wh (j+1)=wh j++[yh (j+1)]:=by
 simp[wh,sj]
def N3(w:dk)(o:dh):Ľ w 400 (xZ<|ve 0) ⟨hq 26 w.params,#[],{},459,o⟩ ű 124 ⟨v9 0 w.params,#[],{},510,o⟩ ű:=aan 0 (by decide) (A:=Su w.params) (by decide) w o
def aaK:∀w,YZ 38 w:=byRow2 "special-get-raises" (λw o=>Ľ.v8 (res:=ur) (ky _) λlv=>by decide) λw o=>Ľ.v8 (res:=ur) (ky _) λlv=>by decide
def Ys(j:Á)(h:j<38)(w:dk):YZ (j+1) w:=by
 by_cases e:j=37
 .subst e;exact aaK w
 intro o;have l:(Su w.params++nv j::wh j).length=124+(j+1):=by rw[eU,uq,kc,u2]
 have H:=aan (A:=Su w.params++nv j::wh j) (j+1) (ie h λq=>e<|eu q) (Å l<|Nat.ble_eq_true_of_le<|ú (by decide)<|wV 124 _) w o;rw[l,ak] at H;unfold SH hx;rw[Ce];exact H.holding
def hV(j:Á):qk (j+1)=qk j++ce (j+1):=by
 unfold qk;refine Å sj<|Å flatMap_append ?_;simp
def LW(j:Á):∀e∈ce j,rR e:=by
 intro e h;unfold ce at h;rw[dp] at h;obtain⟨x,_,rfl⟩:=h;exact⟨_,_,rfl⟩
def jS(j k:Á)(h:j<=k):qk j<+:qk k:=by
 induction k with
 |zero=>
    obtain rfl:j=0:=by omega
    exact prefix_rfl
 |succ k ih=>
  by_cases e:j=k+1
  .subst e;exact prefix_rfl
  .exact Å (hV ..)<|(ih<|(A2 0x100e180296e18006) h e).trans<|prefix_append _ _
def Em:Cb ((qk 38).map (·.hash))=true:=by decide
def Ii:(qk 38).length=650:=by decide
def Bu(j:Á)(h:j<=38):((qk j).map (·.hash)).Nodup:=
 ((jS j 38 h).sublist.map _).nodup (yA _ Em)
def LO(j:Á)(h:j<=38):(qk j).length<=ee:=
 ú (jS j 38 h).length_le (by refine Å Ii ?_;decide)
def MX(j:Á):qk j≠[]:=by
 intro e;have a:(qk 0).length=17:=by decide
 have h:=(jS 0 j<|Ϫ _).length_le;rw[e] at h;simp only[length_nil] at h;omega
def IM(j:Á):Á:=6*(ce<|j+1).length+5
def yS(j:Á)(f:j<38)(c:ve (j+1)≠[])(w:dk)(o:dh):
  Ľ w (400+(IM j+0)) (ϩ (ve<|j+1)<|À 124) ⟨v9 j w.params,#[],{},Cq<|j+1,o⟩ ű (À 124) ⟨v9 (j+1) w.params,#[],{},Cq<|j+2,o⟩ ű:=by
 unfold ϩ;refine Å (È (by cases h:ve (j+1) with|nil=>exact ó h c|cons a b=>simp)) ?_;refine Ľ.bind (Ys j f w o) ?_;refine Ľ.bind (n:=IM j) (s':=⟨v9 (j+1) w.params,#[],{},Cq<|j+2,o⟩) (p':=ű) (a:=()) (Ľ.Vl<|RS.onRaise<|RS.holding ?_) Ľ.pure;have:=Dq (n₀:=11) (p:=ű) (A:=Su w.params) (R:=wh<|j+1) (es:=qk j) (L:=ce<|j+1) (n:=(qk j).length) (m:=(W6<|j+1).length) (l:={}) (sh:=⟨SH j w.params,#[],{},Cq<|j+2,o⟩) (j:=j) rfl (Å (uq ..) rfl) (by refine Å (Ce ..) (Å (xq (by refine Å (u2 ..) ?_;omega) ..)<|Å (u2 ..)<|Å (Nat.sub_self ..) ?_);rfl) (MX j) (Å (uq ..)<|Š.2<|by unfold fC;omega) (LW _) (Đ (hV ..)<|Bu _<|(A1 0x2627e0802627016) f)<|Đ (hV ..)<|LO _<|(A1 0x2627e0802627016) f;rw[uq] at this;refine Å (show 124+(j+1)=124+1+j by omega) ?_;rw[<-hV,show(qk j).length+(ce<|j+1).length=(qk<|j+1).length by rw[hV,eU]] at this;exact this
def rQ:P7.length=650:=by decide
def vh:od.all (λx=>x.1.isSome)=true:=by decide
def Cc:od=P7.map λx=>(À x.1,x.2):=by
 have h:=vh;unfold P7;generalize od=l at h
 induction l with
 |nil=>rfl
 |cons x l ih=>
  rw[all_cons,è] at h;obtain⟨k,v⟩:=x
  induction k with
  |none=>cases h.1
  |some k=>
   exact Ù (cons (À k,v))<|ih h.2
def zX(j:Á)(h:j<38):(ve j).length=17:=
 Å (aaC j) (Å (É ..)<|aab j h)
def qQ:(ve 38).length=4:=by
 unfold ve;refine Å eD<|Å bO<|Å rQ ?_;omega
noncomputable def rq(j:Á):Ã (ŭ Ë×ŭ Ë):=P7.drop<|17*j
def IZ(j:Á):rq j=ve j++rq (j+1):=by
 unfold rq ve;rw[show 17*(j+1)=17*j+17 by omega,<-f3,xM]
def Jq:rq 39=[]:=by
 unfold rq;exact drop_eq_nil_of_le<|by refine Å rQ ?_;decide
noncomputable abbrev HF:=Ï Ĳ×Ã (ŭ Ë×ŭ Ë)
def o9(ps:Ã (ŭ Ë×ŭ Ë))
  (c:∀k v m run,(run++[(k,v)]).length≠17->body (À k,v) (m,run)=pure (.yield (m,run++[(k,v)])))
  (b:∀k v m run,(run++[(k,v)]).length=17->body (À k,v) (m,run)=ϩ (run++[(k,v)]) m>>=λm=>pure<|.yield (m,[])):
  ∀(run:Ã (ŭ Ë×ŭ Ë))(m:Ï Ĳ)(a:Ã (Ï (ŭ Ë)×ŭ Ë)),ps≠[]->(run++ps).length=17->
   forIn (ps.map (λx=>(À x.1,x.2))++a) (m,run) body=ϩ (run++ps) m>>=λm=>forIn a (m,([]:Ã (ŭ Ë×ŭ Ë))) body:=by
 induction ps with
 |nil=>exact λ_ _ _ h=>ó rfl h
 |cons x ps ih=>intro run m a _ h;obtain⟨k,v⟩:=x;induction ps with
  |nil=>
   show forIn ((À k,v)::a) _ _=_;exact Å (tp ..)<|Å (b k v m run h ..)<|zh ..
  |cons y ps=>
   show forIn ((À k,v)::((y::ps).map _++a)) _ _=_;refine Å (tp ..) (Å (c k v m run (by simp at h⊢;exact(A2 0x10271291127ee0881826) h) ..) ?_);refine(?_:forIn ((y::ps).map _++a) (m,run++[(k,v)]) body=_);exact Å (ih (run++[(k,v)]) m a (by decide)<|by simpa using h)<|Å (ak ..) rfl
def Cr(ps:Ã (ŭ Ë×ŭ Ë)){body:Ï (ŭ Ë)×ŭ Ë->HF->ŭ (ForInStep<|HF)}
  (a:∀k v m run,(run++[(k,v)]).length≠17->body (À k,v) (m,run)=pure (.yield (m,run++[(k,v)]))):
  ∀(run:Ã (ŭ Ë×ŭ Ë))(m:Ï Ĳ),(run++ps).length<17->
   forIn (ps.map λx=>(À x.1,x.2)) (m,run) body=pure ((m,run++ps)):=by
 induction ps with
 |nil=>exact λrun m _=>Å (pH ..) rfl
 |cons x ps ih=>
  intro run m h;obtain⟨k,v⟩:=x;show forIn ((À k,v)::(ps.map _)) _ _=_;refine Å (tp ..) (Å (a k v m run (by simp at h⊢;exact(A2 0x10271291127e081816) h) ..) ?_);refine(?_:forIn (ps.map _) (m,run++[(k,v)]) body=_);rw[ih (run++[(k,v)]) m (by simp at h⊢;assumption),ak];rfl
def Rk(items:Ã (Ï (ŭ Ë)×ŭ Ë)):∃body,dictDisplay items=(forIn items (Ä,([]:Ã (ŭ Ë×ŭ Ë))) body>>=λr=>ϩ r.2 r.1>>=λm=>match m with
  |some d=>pure<|.ref d
  |none=>newDict)/\(∀k v m run,(run++[(k,v)]).length≠17->body (À k,v) (m,run)=pure (.yield (m,run++[(k,v)])))/\(∀k v m run,(run++[(k,v)]).length=17->body (À k,v) (m,run)=ϩ (run++[(k,v)]) m>>=λm=>pure<|.yield (m,[])):=by
 unfold dictDisplay;refine⟨_,rfl,?_,?_⟩
 .intro k v m run h;exact(Å (È<|by simpa using h) rfl:(if((run++[(k,v)]).length==17)=true then _ else _)=_)
 .intro k v m run h;exact(Å (ť<|by simpa using h) rfl:(if((run++[(k,v)]).length==17)=true then _ else _)=_)
def IA(j:Á):IM j<=107:=by
 have:(ce<|j+1).length<=17:=by
  unfold ce;exact Å (É ..)<|Å (length_zipIdx ..)<|Å (eD ..)<|gY _ _
 unfold IM;exact(A1 0x6b27517061a801127006) this
def IW(j:Á)(b:j<38)(w:dk)(o:dh):
  Ľ w 510 (ϩ (ve<|j+1)<|À 124) ⟨v9 j w.params,#[],{},Cq<|j+1,o⟩ ű (À 124) ⟨v9 (j+1) w.params,#[],{},Cq<|j+2,o⟩ ű:=by
 refine(yS j b ?_ w o).mono<|(A1 0x1fe37f0819037806b27006)<|IA j;intro e;have a:(ve<|j+1).length=0:=by refine Å e ?_;rfl
 by_cases h:j+1<38
 .rw[zX _ h] at a;omega
 .obtain rfl:j=37:=((A1 0x2527022627e081962627016) b h)
  rw[qQ] at a;omega
noncomputable def Jp:Ï Ĳ->ŭ Ë:=λm=>match m with
 |some d=>pure<|.ref d
 |none=>newDict
def Bm(k:Á)
  (s:∀k v m run,(run++[(k,v)]).length≠17->body (À k,v) (m,run)=pure (.yield (m,run++[(k,v)])))
  (y:∀k v m run,(run++[(k,v)]).length=17->body (À k,v) (m,run)=ϩ (run++[(k,v)]) m>>=λm=>pure<|.yield (m,[])) (w:dk)
  {pc fr:Á->Ã (ŭ Ë×ŭ Ë)} (t:∀j,fr j=pc j++fr (j+1)) (h:∀j,j<38->(pc j).length=17) (o:(pc 38).length=4) (c:fr 39=[]) {S:Á->ŕ}
  (fl:∀j,j<38->Ľ w 510 (ϩ (pc<|j+1)<|À 124) (S j) ű (À 124) (S<|j+1) ű):
  ∀j:Á,j+k=37->Ľ w (510*(k+1)) (forIn ((fr<|j+1).map λx=>(À x.1,x.2)) ((À 124,[]):HF) body>>=λr=>ϩ r.2 r.1>>=Jp) (S j) ű (.ref 124) (S 38) ű:=by
 induction k with
 |zero=>
  intro j b;obtain rfl:j=37:=by omega
  have e:(fr 38).map (λx=>(À x.1,x.2))=(pc 38).map (λx=>(À x.1,x.2)):=by rw[t 38,c,pH]
  have q:forIn ((fr<|37+1).map λx=>(À x.1,x.2)) ((À 124,[]):HF) body=pure (À 124,pc 38):=by
   rw[show(37+1)=38 from rfl,e,Cr (pc 38) s [] (À 124)<|by rw[l9,o];decide,l9]
  rw[q];exact Ľ.bind (f:=Jp) (n':=0) (fl 37<|by decide) Ľ.pure
 |succ k ih=>
  intro j b;have h:=h (j+1)<|(A2 0x2627e0812527e180826) b;have q:forIn ((fr<|j+1).map λx=>(À x.1,x.2)) ((À 124,[]):HF) body=(ϩ (pc<|j+1) (À 124)>>=λm=>forIn ((fr<|j+2).map λx=>(À x.1,x.2)) ((m,[]):HF) body):=by
   rw[t (j+1),bG,o9 (pc<|j+1) s y [] (À 124) _ (by intro e;rw[e] at h;cases h)<|by rw[l9];exact h,l9]
  rw[q,show 510*(k+1+1)=510+510*(k+1) by exact(A1 0xe081fe3a1fe378ee0881fe3a2)];rw[(show∀{p β γ:Type}(m:ŭ p)(f:p->ŭ β)(g:β->ŭ γ),(m>>=f)>>=g=m>>=λa=>f a>>=g from λm f g=>zh m f g)];exact((fl j<|(A2 0x2627012527e180826) b).bind (f:=λm=>forIn ((fr<|j+2).map λx=>(À x.1,x.2)) ((m,[]):HF) body>>=λr=>ϩ r.2 r.1>>=Jp)<|ih (j+1)<|(A2 0x25271e08822527e180826) b)
def Hc(w:dk){items:Ã (Ï (ŭ Ë)×ŭ Ë)}
  {pc fr:Á->Ã (ŭ Ë×ŭ Ë)} (hi:items=(fr 0).map λx=>(À x.1,x.2)) (y:∀j,fr j=pc j++fr (j+1)) (t:∀j,j<38->(pc j).length=17) (o:(pc 38).length=4) (k:fr 39=[]) {S:Á->ŕ}
  (f0:Ľ w 400 (xZ<|pc 0) s ű 124 (S 0) ű)
  (fl:∀j,j<38->Ľ w 510 (ϩ (pc<|j+1)<|À 124) (S j) ű (À 124) (S<|j+1) ű):Ľ w 19890 (dictDisplay items) s ű (.ref 124) (S 38) ű:=by
 refine qJ (Rk items) λbody e v A=>?_;have c:=t 0 (by decide);have q:forIn items ((Ä,[]):HF) body=(ϩ (pc 0) Ä>>=λm=>forIn ((fr 1).map λx=>(À x.1,x.2)) ((m,[]):HF) body):=by
  rw[hi,y 0,bG,o9 (pc 0) v A [] Ä _ (by intro e;have c:=e▸c;cases c)<|by rw[l9];exact c,l9]
 rw[e,q];have a:∀{p β γ:Type}(m:ŭ p)(f:p->ŭ β)(g:β->ŭ γ),(m>>=f)>>=g=m>>=λa=>f a>>=g:=λm f g=>zh m f g;rw[a];have B:Ľ w 400 (ϩ (pc 0) Ä) s ű (À 124) (S 0) ű:=by
  unfold ϩ;rw[È (by cases h:pc 0 with|nil=>have c:=h▸c;cases c|cons a b=>simp)];exact f0.bind (n':=0) Ľ.pure
 exact Ľ.mono (B.bind (f:=λm=>forIn ((fr 1).map λx=>(À x.1,x.2)) ((m,[]):HF) body>>=λr=>ϩ r.2 r.1>>=Jp)<|Bm 37 v A w y t o k fl 0 rfl)<|show 400+510*(37+1)<=19890 by decide
def Ud(w:dk)(o:dh):Ľ w 19890 (dictDisplay od) ⟨hq 26 w.params,#[],{},459,o⟩ ű (.ref 124) ⟨v9 38 w.params,#[],{},2409,o⟩ ű:=
 Hc w (pc:=ve) (fr:=rq) (S:=λj=>⟨v9 j w.params,#[],{},Cq<|j+1,o⟩) Cc IZ zX qQ Jq (N3 w o) (λj h=>IW j h w o)
def Jd:Ã yK:=match Ê 26 with
 |.Assign t _ _=>t
 |_=>[]
def I7:o6:=match Ê 26 with
 |.Assign _ _ p=>p
 |_=>p0
def UX:Ê 26=.Assign Jd (.Dict Oi Py ű) I7:=by decide
def Uq:swapsWithSole Jd (.Dict Oi Py ű) I7.line i8=.pure false:=by decide
def Ws:swappedStores Jd (.Dict Oi Py ű) i8=.pure Ä:=by decide
def Uu:ŭ Flow:=assignStores i8 (.ref 124) Ä<|(nE Jd i8).map (·.2)
noncomputable def ME(f:Flow):Flow:=f
def Ri(w:dk)(o:dh)(lv:Ã Ë->Ã Ë):segRun hN jg w 11 (À<|.ref 6) 1 40 ⟨v9 38 w.params,#[],{},2409,o⟩ ⟨Uu.wrap (λa=>.pure<|.done<|ME a) deadEnd id lv,Ϟ,ű,[lu p0]⟩=À (ME .next,⟨hq 27 w.params,#[],{},2410,o⟩,Ϟ,{line:=213,col:=0,endLine:=213,endCol:=13}):=by decide
def Qp(w:dk)(o:dh)(p:o6):Ľ w 20000 (exec (Ê 26) i8) ⟨hq 26 w.params,#[],{},459,o⟩ p .next ⟨hq 27 w.params,#[],{},2410,o⟩ {line:=213,col:=0,endLine:=213,endCol:=13}:=by
 rw[UX,arm_exec_Assign,Uq];refine Ľ.mono (n:=1+(0+((1+19890)+(0+40)))) ?_ (by decide);refine Ľ.bind (n:=1) (a:=()) (s':=⟨hq 26 w.params,#[],{},459,o⟩) (p':=I7) (Ľ.Vl<|.at .pure) ?_;refine Ľ.bind (n:=0) (a:=false) (s':=⟨hq 26 w.params,#[],{},459,o⟩) (p':=I7) Ľ.pure ?_;rw[È (by decide),arm_eval_Dict,Ws];refine Ľ.bind (n:=1+19890) (a:=.ref 124) (s':=⟨v9 38 w.params,#[],{},2409,o⟩) (p':=ű) ?_ ?_
 .refine Ľ.bind (n:=1) (a:=()) (s':=⟨hq 26 w.params,#[],{},459,o⟩) (p':=ű) (Ľ.Vl<|.at .pure)<|Ud w o
 .exact Ľ.bind (n:=0) (a:=Ä) (s':=⟨v9 38 w.params,#[],{},2409,o⟩) (p':=ű) Ľ.pure<|Ľ.v8 (res:=ME) (λx h=>h)<|Ri w o
def wF(row:pF){P:dk->Prop}(w:dk)(f:P (w.withFollow row false))(t:P (w.withFollow row true)):P w:=by
 have h:∀b:Ò,P (w.withFollow row b):=λb=>by cases b;exact f;exact t
 have:=h<|w.params.followText row;rwa [World.withFollow_self] at this
def OL(w:dk):Pc w 24:=wF (P:=λw=>Pc w 24) "special-get-raises" w (aaN w)<|aau w
def BV(h:fJ hN jg w 11 (À<|.ref 6) n s t=À r)(a:aY n m=true):fJ hN jg w 11 (À<|.ref 6) m s t=À r:=by
 have:=topRun_mono (m-n) _ _ _ _ h;rw[show n+(m-n)=m by have:=Ϙ a;exact(A2 71160692998) this] at this;exact this
def YL:y0 jg=[Ê 0,Ê 1,Ê 2,Ê 3,Ê 4,Ê 5,Ê 6,Ê 7,Ê 8,Ê 9,Ê 10,Ê 11,Ê 12,Ê 13,Ê 14,Ê 15,Ê 16,Ê 17,Ê 18,Ê 19,Ê 20,Ê 21,Ê 22,Ê 23,Ê 24,Ê 25,Ê 26,Ê 27,Ê 28,Ê 29,Ê 30,Ê 31,Ê 32,Ê 33,Ê 34,Ê 35]:=by decide
def Nj(w:dk)(o:dh):fJ hN jg w 11 (À<|.ref 6) 30000 ⟨nR w.params,#[],Fn,boot_toks,o⟩ (topStub jg)=À ⟨ϒ w.params,#[],{},2471,o⟩:=by
 have y:=ϙ (P9 w o)<|ϙ (N2 w o)<|ϙ (QB w o)<|ϙ (QE w o)<|ϙ (QI w o)<|ϙ (Ob w o)<|ϙ (QN w o)<|piece_nil (env:=i8) (q:=p0)<|LP w o;have j:=ϙ (Oo w o)<|ϙ (Ot w o)<|ϙ (Pm w o)<|ϙ (OL w o)<|ϙ (Of w o)<|Ľ.O7 (Qp w o<|RL 26)<|ϙ (Rb w o)<|ϙ (Qr w o) y;have m:=ϙ (PO w o)<|ϙ (Oa w o)<|ϙ (Qq w o)<|ϙ (PF w o)<|ϙ (OM w o)<|ϙ (Qb w o)<|ϙ (Oz w o)<|ϙ (Rn w o) j;have b:=ϙ (TU w o)<|ϙ (VL w o)<|ϙ (TG w o)<|ϙ (Uv w o)<|ϙ (VV w o)<|ϙ (OB w o)<|ϙ (OO w o)<|ϙ (Pz w o) m;have f:=ϙ (VA w o)<|ϙ (U1 w o)<|ϙ (TA w o)<|ϙ (T1 w o)<|ϙ (Wf w o) b;exact BV (go_top (LU w o)<|piece_block (E5 w o)<|YL.symm▸f) rfl
def Sb:LeftO jg qv Sz (λ_=>true) Ei (λw=>ϒ w.params) 40000 true:=
 LeftO.of_pieces (H₀:=nR) (H₁:=ϒ) (gs₁:=#[]) (d₁:={}) (k₁:=2471) (M:=30000) Jc Jy Nj rfl λw=>funext λo=>Prod.ext (RE w o)<|Prod.ext (PT w o) rfl
def fnOf(o:Obj):j1:=match o.data with
 |.func fd=>fd
 |_=>Ml 0
def hI(P:tM):gS bQ:=match(g3 P 4 40).data with
 |.dict es _=>es
 |_=>#[]
def Behind(w:dk)(h:gk):Prop:=∀b o,(ϒ w.params).get? b=À o->h.get? b=À o
structure bj(w:dk)(h:gk)(mg mb:Str->Ï Ë):Prop where
 y:Behind w h
 g:h.Ns ż mg
 b:h.Ns br mb
 lim:h.NoLimit
 bl:∀x:Str,x≠"__name__"->mb x=lK x
def Eg(c:h.Ns a m)(b:a∉bS):(hideAll h bS).Ns a m:=c.at λo e=>ju _ e b
def XX(S:bj w h mg mb):Cx where
 prog:=jg
 w:=w
 T:=hideAll h bS
 mg:=mg
 mb:=mb
 ng:=Eg S.g (by decide)
 nb:=Eg S.b (by decide)
 bl:=S.bl
 lim:=S.lim.at λo e=>ju _ e<|by decide
section
variable{w:dk}{h:gk}{mg mb:Str->Ï Ë}
def bj.get(S:bj w h mg mb)(e:(ϒ w.params).get? a=À o)(b:a∉bS):(XX S).T.get? a=À o:=ju _ (S.y _ _ e) b
def bj.CE(S:bj w h mg mb)(e:nsFind (hI w.params) x=v):mg x=v:=by
 refine JW S.g λo es f a c k m=>?_;obtain rfl:=à ((S.y 3 _<|show(ϒ w.params).get? 3=À (g3 w.params 4 40) by decide)▸(show ż=3 from rfl)▸a);have b:es=hI w.params:=by
  unfold hI;exact Å c rfl
 exact Đ (m x)<|Å b<|Å e rfl
end
structure bW(X:Cx)(n:Á)(name:Str)(a c:Ĳ)(o:Obj)(params:Ã Str)(sc:Sc):Prop where
 mg:X.mg name=À (.ref a)
 ho:X.T.get? a=À o
 hd:o.data=.func (fnOf o)
 code:(fnOf o).code=.ref c
 yt:X.T.CodeRec (fnOf o).code (fnOf o).qualname
 body:(fnOf o).body=.stmts (Þ<|Ê n)
 Lv:(fnOf o).closure=[]
 gl:(fnOf o).globals=ż
 bi:(fnOf o).builtins=br
 kC:∀vals:Ã Ë,vals.length=params.length->lO (fnOf o) ⟨vals,[]⟩=pure (params.zip vals)
 names:(fnOf o).scope.names=sc.kinds
 kind:(fnOf o).scope.kind=.function
 co:(fnOf o).scope.isCoroutine=false
 gen:(fnOf o).scope.isGenerator=false
 q:(fnOf o).qualname=name
def bW.call(K:bW X n name a c o params sc)(b:uW sc params=true)(S:SS X k sc F (Þ<|Ê n) ps):Ā X (k+1) name (ė F m params.length ps):=
 ⟨a,o,fnOf o,K.mg,K.ho,K.hd,Ϩ.func K.ho K.hd K.yt K.body K.Lv K.gl K.bi K.kC K.names K.kind K.co K.gen b S⟩
section
variable{w:dk}{h:gk}{mg mb:Str->Ï Ë}
def Y0{P:Ã Ë->Prop}{l:Ã Ë}(e:l.length=0)(q:P []):P l:=by
 cases l with|nil=>exact q|cons=>injection e
def R4{P:Ã Ë->Prop}{l:Ã Ë}{n:Á}(e:l.length=n+1)(q:∀a t,t.length=n->P (a::t)):P l:=by
 cases l with|nil=>injection e|cons a t=>exact q a t<|eu e
def PC{P:Ã Ë->Prop}{ps:Ã Str}(h:ps.length=1)(q:∀a,P [a])(l:Ã Ë)(e:l.length=ps.length):P l:=
 R4 (e.trans h) λa _ e=>Y0 (P:=λt=>P (a::t)) e<|q a
def IS{P:Ã Ë->Prop}{ps:Ã Str}(h:ps.length=2)(q:∀a b,P [a,b])(l:Ã Ë)(e:l.length=ps.length):P l:=
 R4 (e.trans h) λa t e=>PC (P:=λt=>P (a::t)) (ps:=[""]) rfl (q a) t e
def J0{P:Ã Ë->Prop}{ps:Ã Str}(h:ps.length=3)(q:∀a b c,P [a,b,c])(l:Ã Ë)(e:l.length=ps.length):P l:=
 R4 (e.trans h) λa t e=>IS (P:=λt=>P (a::t)) (ps:=["",""]) rfl (q a) t e
def XS{P:Ã Ë->Prop}{ps:Ã Str}(h:ps.length=4)(q:∀a b c d,P [a,b,c,d])(l:Ã Ë)(e:l.length=ps.length):P l:=
 R4 (e.trans h) λa t e=>J0 (P:=λt=>P (a::t)) (ps:=["","",""]) rfl (q a) t e
noncomputable abbrev Iy(w:dk)(n:Á)(name:Str)(a c:Á)(m:Str)(g t:Á)(l ac:Â)(b v u f e:Á)(sc:Sc):Prop:=(nsFind (hI w.params) name,(ϒ w.params).get? a,(ϒ w.params).get? c,decide<|a∉bS,decide<|c∉bS,(fnOf<|fo n m g c).body,(fnOf<|fo n m g c).qualname,(fnOf<|fo n m g c).scope.names,(fnOf<|fo n m g c).scope.kind,(fnOf<|fo n m g c).scope.isCoroutine,(fnOf<|fo n m g c).scope.isGenerator,(fnOf<|fo n m g c).closure,(fnOf<|fo n m g c).builtins)=
 (À<|.ref a,À<|fo n m g c,À<|Mine.co name t l ac b v u f e,true,true,.stmts<|Þ<|Ê n,name,sc.kinds,.function,false,false,[],br)
def bW.go(S:bj w h mg mb){n a c:Á}(m:Str)(g t:Á)(l ac:Â)(b v u f e:Á)
  (T:Iy w n name a c m g t l ac b v u f e sc)
  (D:∀vals:Ã Ë,vals.length=params.length->lO (fnOf<|fo n m g c) ⟨vals,[]⟩=pure (params.zip vals)):bW (XX S) n name a c (fo n m g c) params sc where
 mg:=S.CE (Ù (·.1) T)
 ho:=S.get (Ù (·.2.1) T) (ma<|Ù (·.2.2.2.1) T)
 hd:=rfl
 code:=rfl
 yt:=⟨c,_,_,t+1,rfl,S.get (Ù (·.2.2.1) T)<|ma<|Ù (·.2.2.2.2.1) T,rfl,by refine Å (show(fnOf<|fo n m g c).qualname=name from Ù (·.2.2.2.2.2.2.1) T) ?_;rfl⟩
 body:=Ù (·.2.2.2.2.2.1) T
 Lv:=Ù (·.2.2.2.2.2.2.2.2.2.2.2.1) T
 gl:=rfl
 bi:=Ù (·.2.2.2.2.2.2.2.2.2.2.2.2) T
 kC:=D
 names:=Ù (·.2.2.2.2.2.2.2.1) T
 kind:=Ù (·.2.2.2.2.2.2.2.2.1) T
 co:=Ù (·.2.2.2.2.2.2.2.2.2.1) T
 gen:=Ù (·.2.2.2.2.2.2.2.2.2.2.1) T
 q:=Ù (·.2.2.2.2.2.2.1) T
def Zx(S:bj w h mg mb):bW (XX S) 4 "_substitution_cost" 21 20 (fo 4 "cpy313.traceback" 187 20) ["ch_a","ch_b"] ϟ:=.go S _ _ 195 5 2 15 17 18 19 200 (by decide)<|IS rfl λ_ _=>by decide
def Yl(S:bj w h mg mb):bW (XX S) 5 "_levenshtein_distance" 28 27 (fo 5 "cpy313.traceback" 187 27) ["a","b","max_cost"] Ŭ:=.go S _ _ 203 11 3 22 24 25 26 220 (by decide)<|J0 rfl λ_ _ _=>by decide
def Y6(S:bj w h mg mb):bW (XX S) 8 "_div2n1n" 35 34 (fo 8 "cpy313._pylong" 223 34) ["a","b","n"] ei:=.go S _ _ 227 51 3 29 31 32 33 241 (by decide)<|J0 rfl λ_ _ _=>by decide
def V7(S:bj w h mg mb):bW (XX S) 10 "_int2digits" 49 48 (fo 10 "cpy313._pylong" 223 48) ["a","n"] Ϗ:=.go S _ _ 258 77 2 43 45 46 47 266 (by decide)<|IS rfl λ_ _=>by decide
def T2(S:bj w h mg mb):bW (XX S) 11 "_digits2int" 56 55 (fo 11 "cpy313._pylong" 223 55) ["digits","n"] ao:=.go S _ _ 269 93 2 50 52 53 54 277 (by decide)<|IS rfl λ_ _=>by decide
def VD(S:bj w h mg mb):bW (XX S) 12 "_divmod_pos" 63 62 (fo 12 "cpy313._pylong" 223 62) ["a","b"] eB:=.go S _ _ 280 102 2 57 59 60 61 292 (by decide)<|IS rfl λ_ _=>by decide
def jE(S:bj w h mg mb):bW (XX S) 13 "int_divmod" 70 69 (fo 13 "cpy313._pylong" 223 69) ["a","b"] ĸ:=.go S _ _ 295 113 2 64 66 67 68 302 (by decide)<|IS rfl λ_ _=>by decide
def SY(S:bj w h mg mb):bW (XX S) 18 "rgb_to_hls" 77 76 (fo 18 "cpy313.colorsys" 305 76) ["r","g","b"] eg:=.go S _ _ 319 128 3 71 73 74 75 335 (by decide)<|J0 rfl λ_ _ _=>by decide
def SU(S:bj w h mg mb):bW (XX S) 19 "hls_to_rgb" 84 83 (fo 19 "cpy313.colorsys" 305 83) ["h","l","s"] eM:=.go S _ _ 338 151 3 78 80 81 82 346 (by decide)<|J0 rfl λ_ _ _=>by decide
def UN(S:bj w h mg mb):bW (XX S) 20 "_v" 91 90 (fo 20 "cpy313.colorsys" 305 90) ["m1","m2","hue"] Mq:=.go S _ _ 349 160 3 85 87 88 89 355 (by decide)<|J0 rfl λ_ _ _=>by decide
def WS(S:bj w h mg mb):bW (XX S) 21 "rgb_to_hsv" 98 97 (fo 21 "cpy313.colorsys" 305 97) ["r","g","b"] d9:=.go S _ _ 358 169 3 92 94 95 96 373 (by decide)<|J0 rfl λ_ _ _=>by decide
def TX(S:bj w h mg mb):bW (XX S) 22 "hsv_to_rgb" 105 104 (fo 22 "cpy313.colorsys" 305 104) ["h","s","v"] ez:=.go S _ _ 376 188 3 99 101 102 103 387 (by decide)<|J0 rfl λ_ _ _=>by decide
def Wx(S:bj w h mg mb):bW (XX S) 25 "in_table_b1" 123 122 (fo 25 "cpy313.stringprep" 390 122) ["code"] mB:=.go S _ _ 452 211 1 117 119 120 121 456 (by decide)<|PC rfl λ_=>by decide
def UC(S:bj w h mg mb):bW (XX S) 27 "map_table_b3" 169 168 (fo 27 "cpy313.stringprep" 390 168) ["code"] kr:=.go S _ _ 2410 214 1 163 165 166 167 2415 (by decide)<|PC rfl λ_=>by decide
def Tz(S:bj w h mg mb):bW (XX S) 29 "_law_near" 176 175 (fo 29 "law_wb0101_03" 2418 175) ["value","size"] ij:=.go S _ _ 2420 220 2 170 172 173 174 2425 (by decide)<|IS rfl λ_ _=>by decide
def Vz(S:bj w h mg mb):bW (XX S) 30 "_law_read" 183 182 (fo 30 "law_wb0101_03" 2418 182) ["paint","way"] hW:=.go S _ _ 2428 222 2 177 179 180 181 2438 (by decide)<|IS rfl λ_ _=>by decide
def Tu(S:bj w h mg mb):bW (XX S) 31 "_law_seen" 188 187 (fo 31 "law_wb0101_03" 2418 187) ["spot","high","low","laps"] iw:=.go S _ _ 2441 231 4 184 0 0 186 2444 (by decide)<|XS rfl λ_ _ _ _=>by decide
def TK(S:bj w h mg mb):bW (XX S) 32 "_law_text" 193 192 (fo 32 "law_wb0101_03" 2418 192) ["names","greats","bits","code"] il:=.go S _ _ 2447 240 4 189 0 0 191 2450 (by decide)<|XS rfl λ_ _ _ _=>by decide
def Wc(S:bj w h mg mb):bW (XX S) 33 "_law_table" 198 197 (fo 33 "law_wb0101_03" 2418 197) ["words","base"] fW:=.go S _ _ 2453 249 2 194 0 0 196 2456 (by decide)<|IS rfl λ_ _=>by decide
def Ui(S:bj w h mg mb):bW (XX S) 34 "_law_determinant" 203 202 (fo 34 "law_wb0101_03" 2418 202) ["table"] ay:=.go S _ _ 2459 260 1 199 0 0 201 2462 (by decide)<|PC rfl λ_=>by decide
def PJ(S:bj w h mg mb):bW (XX S) 35 "law" 208 207 (fo 35 "law_wb0101_03" 2418 207) ["script"] ĺ:=.go S _ _ 2465 274 1 204 0 0 206 2468 (by decide)<|PC rfl λ_=>by decide
end
set_option tactic.hygienic true
def zK(P:tM):gS (Â×Ë):=match(Mp P).data with
 |.set es _ _=>es
 |_=>#[]
noncomputable def vI:Ë->Ï Â
 |.int i _=>À i
 |_=>Ä
def wJ(h:vI v=À i):∃t,v=.int i t:=by
 cases v with
 |int x t=>exact⟨t,Ù (jT · t)<|à h⟩
 |_=>exact ÿ h
noncomputable def wM(e:Â×Ë):Ò:=(vI e.2).any λi=>decide (e.1=kX i)&&e.2.scannable
noncomputable def nh(e:Â×Ë):Â:=(vI e.2).getD 0
def Ft{prog:lX}{w:dk}(h:l.all wM=true):ElemsOf (kZ prog w) l:=by
 intro e a;rw[ę] at h;have:=h e a;obtain⟨i,c,this⟩:=(lg ..).1 this;obtain⟨t,hi⟩:=wJ c
 .rw[è,ϻ] at this;exact⟨⟨i,by refine Å hi ?_;exact rK _ _ _ _,this.1⟩,this.2⟩
def Cv{l:Ã (Â×Ë)}(h:l.all wM=true)(k:Â):(∃e∈l,tD k e.2=true)↔k∈l.map nh:=by
 rw[ę] at h;constructor
 .rintro⟨e,a,b⟩;refine Å (pI<|dp ..) ?_;refine⟨e,a,?_⟩;refine å (Value.isInt_shape b) λt c=>?_;unfold nh;exact Å c rfl
 .intro b;rw[dp] at b;obtain⟨e,a,rfl⟩:=b;refine⟨e,a,?_⟩;have:=h e a;obtain⟨i,c,_⟩:=(lg ..).1 this;obtain⟨t,hi⟩:=wJ c;unfold nh;exact Å hi (eE i:tD i (.int i t)=true)
section
variable{w:dk}{h:gk}{mg mb:Str->Ï Ë}
def H0(w:dk):(zK w.params).size=27:=by decide
def DY:Ã Â:=[65024,65025,65026,65027,65028,65029,6150,65030,65031,65032,65033,6155,6156,6157,8203,8204,8205,65034,65035,65036,65037,65038,65039,173,847,8288,65279]
def G5:(∀x∈ŗ,x∈DY)/\∀x∈DY,x∈ŗ:=by decide
def Lp(S:bj w h mg mb):(XX S).T.SetOf (kZ (XX S).prog (XX S).w) 113 (λi=>ŗ.contains i) 27:=by
 have a:(zK w.params).toList.all wM=true:=by decide
 exact⟨Mp w.params,zK w.params,29,_,S.get rfl<|by decide,⟨rfl,rfl,rfl⟩,rfl,Ft a,λk=>Iff.trans (Å (show(zK w.params).toList.map nh=DY from by decide)<|⟨λh=>G5.1 k<|contains_iff_mem.1 h,λh=>contains_iff_mem.2<|G5.2 k h⟩) (Cv a k).symm,(H0 w).symm▸(by decide),by decide,by decide⟩
def GQ(k:Â):Ï Ë:=findBy tD (qk 38).toArray k
noncomputable def NY(e:bQ):Ò:=(vI e.key).any λi=>decide<|e.hash=kX i
def Ir:(qk 38).all NY=true:=by decide
def Ly(S:bj w h mg mb):(XX S).T.MapOf (kZ (XX S).prog (XX S).w) 124 GQ:=by
 refine⟨nv 38,(qk 38).toArray,(qk 38).length,S.get rfl<|by decide,⟨rfl,rfl,rfl⟩,rfl,λe a=>?_,λk=>rfl⟩;have:=Ir;rw[ę] at this;have:=this e (by simpa using a);obtain⟨i,c,this⟩:=(lg ..).1 this;exact(wJ c).elim λt hi=>⟨i,by refine Å hi ?_;exact rK _ _ _ _,ma this⟩
def Pn(k:Â):Ï Ë:=((qk 38).find? λe=>tD k e.key).map (·.val)
def JX(k:Â):GQ k=Pn k:=by
 unfold GQ Pn findBy;exact Å (List.find?_toArray ..) rfl
def JO:∀n∈fx,GQ (n:Á)=Ä:=by
 have:fx.all (λn=>(Pn (n:Á)).isNone)=true:=by decide
 rw[ę] at this;intro n a;exact Å (JX ..)<|nX.1<|this n a
noncomputable def vS:Ë->Ï Str
 |.str s _=>À s
 |_=>Ä
def M9(h:vS v=À s):∃t,v=.str s t:=by
 cases v with
 |str x t=>exact⟨t,Ù (Value.str · t)<|à h⟩
 |_=>exact ÿ h
def WJ(n:Á):Ò:=(Pn (n:Á)).bind vS==À ⟨#[97+(n-119808)%52]⟩
def IF:∀n,fV n->∃t,GQ (n:Á)=À (.str ⟨#[97+(n-119808)%52]⟩ t):=by
 have key:(range 676).all (λk=>!decide (fV<|119808+k)||WJ (119808+k))=true:=by decide
 rw[ę] at key;intro n a;have:=key (n-119808)<|Å (pI<|gh ..)<|(A1 0x2a4371d400570911d6a457016) a.2.1;rw[show 119808+(n-119808)=n by exact(A1 0x1d40057091d400578201d4005706) a.1,ix a,aam,Bool.false_or] at this;exact ð (x:=Pn n) (ka.1 this) λv e h=>(M9 h).elim λt h=>⟨t,(JX ..).trans<|h▸e⟩
end
set_option tactic.hygienic false
section
variable{w:dk}{h:gk}{mg mb:Str->Ï Ë}
def Gg(w:dk):(["int","len","min","max","abs","sum","sorted","ord","chr","type","list","range","enumerate","zip","reversed","divmod","ZeroDivisionError","str"]:Ã Str).all (λx=>(nsFind (hI w.params) x).isNone)=true:=by decide
def Gu(S:bj w h mg mb)(hx:x∈(["int","len","min","max","abs","sum","sorted","ord","chr","type","list","range","enumerate","zip","reversed","divmod","ZeroDivisionError","str"]:Ã Str)):mg x=Ä:=by
 have:=Gg w;have this:=ę.1 this;exact S.CE<|nX.1<|this x hx
def gl(S:bj w h mg mb):Gl (XX S) where
 no:=λx hx=>Gu S (yT (["ZeroDivisionError","str"]:Ã Str) hx)
 cI:=by
  intro p a;simp at a;rcases a with rfl|rfl|rfl|rfl
  .exact⟨189,S.CE<|by decide⟩
  .exact⟨191,S.CE<|by decide⟩
  .exact⟨193,S.CE<|by decide⟩
  .exact⟨225,S.CE<|by decide⟩
 cF:=by
  intro p a;simp at a;rcases a with rfl|rfl|rfl
  .exact⟨309,S.CE<|by decide⟩
  .exact⟨313,S.CE<|by decide⟩
  .exact⟨317,S.CE<|by decide⟩
def Õ(S:bj w h mg mb):bB (XX S):=⟨4,boot_o_4 w.params,S.CE rfl,by decide,S.get rfl<|by decide,rfl,rfl,rfl⟩
def PU(S:bj w h mg mb):jO (XX S) 48 Ke.a:=⟨co "_int2digits" 258 77 2 43 45 46 47 266,_,"/claim/cut.py",267,3,0,true,181,0,S.get rfl<|by decide,rfl,by decide,by decide,by decide,by decide,by decide,by decide,rfl,by decide⟩
def OU(S:bj w h mg mb):jO (XX S) 55 ND.a:=⟨co "_digits2int" 269 93 2 50 52 53 54 277,_,"/claim/cut.py",278,3,0,true,181,0,S.get rfl<|by decide,rfl,by decide,by decide,by decide,by decide,by decide,by decide,rfl,by decide⟩
def Ā.mono(h:Ā X k f F')(b:∀vs r,F vs=À r->F' vs=À r):Ā X k f F:=
 JW h λa o fd h1 h2 h3 h4=>⟨a,o,fd,h1,h2,h3,h4.mono b⟩
def ZG(S:bj w h mg mb)(k:Á):Ā (XX S) (k+1) "_substitution_cost" þ:=(Zx S).call rfl<|jb<|gl S
def S9(S:bj w h mg mb)(k:Á):Ā (XX S) (k+2) "_levenshtein_distance" Í:=(Yl S).call rfl<|fT (gl S)<|ZG S k
def Yx(S:bj w h mg mb)(k:Á):Ā (XX S) (k+1) "_div2n1n" cU:=
 let K:=Y6 S
 ⟨_,_,_,K.mg,K.ho,K.hd,Ϩ.I5 (gl S) K.ho K.hd K.yt K.body K.Lv K.gl K.bi K.kC K.names K.kind K.co K.gen⟩
def Nc(S:bj w h mg mb)(k:Á):Ā (XX S) (k+10) "_int2digits" ĝ:=
 let K:=V7 S
 ⟨_,_,_,K.mg,K.ho,K.hd,Ϩ.xx (gl S) (Õ S) K.ho K.hd K.yt K.body K.Lv K.gl K.bi K.kC K.names K.kind K.co K.gen K.q K.code<|PU S⟩
def MA(S:bj w h mg mb)(k:Á):Ā (XX S) (k+10) "_digits2int" ğ:=
 let K:=T2 S
 ⟨_,_,_,K.mg,K.ho,K.hd,Ϩ.yJ (gl S) (Õ S) K.ho K.hd K.yt K.body K.Lv K.gl K.bi K.kC K.names K.kind K.co K.gen K.q K.code<|OU S⟩
def QH(S:bj w h mg mb)(k:Á):Ā (XX S) (k+11) "_divmod_pos" aS:=(VD S).call rfl<|rZ (gl S) (MA S k) (Yx S<|k+9)<|Nc S k
def Pf(S:bj w h mg mb)(d:Á):∀k,Ā (XX S) (k+12+d) "int_divmod" (NG d):=by
 induction d with
 |zero=>
  intro k;refine(QH S k).casesOn λ_ _=>?_
  let K:=jE S
  exact⟨_,_,_,K.mg,K.ho,K.hd,λA B s vs v m vals h=>ÿ h⟩
 |succ d ih=>
  intro k;have a:=QH S<|k+1+d;rw[show k+1+d+11=k+12+d by exact(A2 0x1c17088b171e08882)] at a;exact(jE S).call rfl<|sv (gl S) a<|ih k
def WD(S:bj w h mg mb)(k:Á):Ā (XX S) (k+1) "rgb_to_hls" bh:=(SY S).call rfl<|sb<|gl S
def Vj(S:bj w h mg mb)(k:Á):Ā (XX S) (k+1) "_v" Km:=(UN S).call rfl<|YP<|gl S
def UU(S:bj w h mg mb)(k:Á):Ā (XX S) (k+2) "hls_to_rgb" aW:=(SU S).call rfl<|sk (gl S)<|Vj S k
def Vd(S:bj w h mg mb)(k:Á):Ā (XX S) (k+1) "rgb_to_hsv" aR:=(WS S).call rfl<|td<|gl S
def UZ(S:bj w h mg mb)(k:Á):Ā (XX S) (k+1) "hsv_to_rgb" Ϯ:=(TX S).call rfl<|tu<|gl S
def Tb(S:bj w h mg mb)(k:Á):Ā (XX S) (k+1) "in_table_b1" Ĺ:=
 ((Wx S).call rfl<|xO (gl S) (S.CE<|by decide)<|Lp S).mono si
def TR(S:bj w h mg mb)(k:Á):Ā (XX S) (k+1) "map_table_b3" Ħ:=
 ((UC S).call rfl<|vx (gl S) (S.CE<|by decide) (Ly S) rfl JO IF).mono qz
def NT(S:bj w h mg mb)(k:Á):Ā (XX S) (k+1) "_law_near" ħ:=(Tz S).call rfl<|zr<|gl S
def Wo(S:bj w h mg mb)(k:Á):Ā (XX S) (k+2) "_law_read" bu:=(Vz S).call rfl<|yx (gl S) (NT S k) (WD S k)<|Vd S k
def Oe(S:bj w h mg mb)(k:Á):Ā (XX S) (k+3) "_law_seen" ax:=(Tu S).call rfl<|xe (gl S) (NT S<|k+1) (Wo S k) (UU S k)<|UZ S<|k+1
def QW(S:bj w h mg mb)(k:Á):Ā (XX S) (k+2) "_law_text" ϣ:=by
 have s:=@wB (XX S) (k+1) (gl S) (Tb S k)<|TR S k;have K:=TK S;generalize 32=n at s K;exact K.call rfl s
def Pr(S:bj w h mg mb)(k:Á):Ā (XX S) (k+3) "_law_table" Ϥ:=(Wc S).call rfl<|vi (gl S)<|S9 S k
def Qm(S:bj w h mg mb)(k:Á):Ā (XX S) (k+1) "_law_determinant" Ĭ:=(Ui S).call rfl<|ku<|gl S
def I0(S:bj w h mg mb):SS (XX S) 15 ĺ 50 ((Þ<|Ê 35).take 20) (Į.take 20):=BF (gl S) (MA S 5) (Nc S 5) (Qm S 14) (Oe S 12) (Pr S 12) (QW S 13) (S9 S 13)<|Pf S 3 0
def C0(S:bj w h mg mb):SS (XX S) 15 ĺ 50 ((Þ<|Ê 35).drop 21) (Į.drop 20):=xi (gl S) (MA S 5) (Nc S 5) (Qm S 14) (Oe S 12) (Pr S 12) (QW S 13) (S9 S 13)<|Pf S 3 0
end
section
open PySem.Float64
def mS(n:Á)(h:n<2^1086):∃t,d8 t<=n/\n<d8 t+2^1033:=by
 by_cases b:n<2^53
 .refine⟨0*2^52+n,?_⟩;refine Å (V_at (M6 ‹_›)<|.inr rfl) ?_;have:0<2^1033:=ϑ _
  (and_intros;exact(A1 4528);omega)
 .have a:n≠0:=by intro e;subst e;exact b (ϑ _)
  have c:53<=n.log2:=(Nat.le_log2 a).2<|M4 ‹_›;have p:n.log2<1086:=(Wy a).2 h;have g:=Nat.log2_self_le a;have m:=@yU n;generalize n.log2=l at*;have f:2^l=2^52*2^(l-52):=by refine Đ (lI ..) ?_;congr 1;exact(A1 0x34270934278020352706) c
  have j:2^(l+1)=2^53*2^(l-52):=by refine Đ (lI ..) ?_;congr 1;omega
  have k:0<2^(l-52):=ϑ _;have q1:2^52<=n/2^(l-52):=Å (pI<|Nat.le_div_iff_mul_le k ..)<|Đ (f ..) g;have q2:n/2^(l-52)<2^53:=Å (pI<|om k ..)<|Đ (j ..) m;refine⟨(l-52)*2^52+n/2^(l-52),?_⟩;refine Å (V_at (M6 ‹_›)<|.inl q1) ?_;have o:=ł n<|2^(l-52);have q:=ϊ n k;have s:2^(l-52)<=2^1033:=a8 (by decide)<|(A1 0x40937342709043e37016) p;have o:=(fY ..)▸o
  (and_intros<;>omega)
def nP{f:Ò}(h:Right r f W D)(p:0<D)(A:W<D*2^1086):∃m e t,decode r=.fin f m e/\val r=sgn f (d8 t)/\W<=D*d8 t+D*2^1033/\D*d8 t<=W+D*2^1033/\(∀g,W<=D*d8 g->d8 t<=d8 g):=by
 obtain⟨t,rfl,J,H,E⟩:=h;have o:t<infMag:=by
  refine ie J λe=>?_;have a:=H.1 e;have b:D*2^1087<=D*((2^54-1)*2^2045):=ϥ _ (by
   refine ú (a8 (by decide)<|show 1087<=2045 by decide)<|ly _<|by decide)
  have c:2*W<D*2^1087:=by
   have:D*2^1087=2*(D*2^1086):=by rw[show 1087=1086+1 from rfl,pC];generalize 2^1086=z;rw[fY z,Nat.mul_left_comm]
   omega
  omega
 have x:W/D<2^1086:=Å (pI<|om p ..)<|Å (fY ..) A;refine ì (mS _ x) λg I G=>?_;have s:=(E o g).1;refine wO (decode_pack f o) λm e L M=>?_;have w:=ł W D;have C:=ϊ W p;have m1:D*d8 g<=D*(W/D):=ϥ _ I;have m2:D*(W/D+1)<=D*(d8 g+2^1033):=ϥ _ G;rw[Ű,Ű,px] at m2;clear A x G H;generalize(2:Á)^1033=Z at*;refine⟨m,e,t,L,val_pack f o,?_,?_,λk j=>?_⟩
 .unfold dist at s;generalize D*Z=z at*;generalize D*(W/D)=y at*;generalize D*d8 g=q at*;generalize D*d8 t=K at*;exact(A7 0x183032923983191398060284668066620635668264516) C w m1 m2 s
 .unfold dist at s;generalize D*Z=z at*;generalize D*(W/D)=y at*;generalize D*d8 g=q at*;generalize D*d8 t=K at*;exact(A7 0x3810329239831913980602856680666206346682654165f16) p C w m1 m2 s
 .have B:=(E o k).1;unfold dist at B;refine yo λv=>?_;have:D*d8 k<D*d8 t:=Nat.mul_lt_mul_of_pos_left v p;exact((A3 0x11921912982090298061206) j B this).elim
noncomputable def KN:Á:=2^1074
def rH:0<KN:=ϑ _
def KK:Rat:=(KN:Rat)
def ώ:(0:Rat)<KK:=by unfold KK;exact_mod_cast rH
noncomputable def U:Rat:=1/2199023255552
def rv(x:ā):Rat:=(val x:Rat)/KK
def Ň(x:ā):Prop:=∃a m e,decode x=.fin a m e
structure ã(x:ā)(a n:Rat):Prop where
 fin:Ň x
 lo:a-n*U<=rv x
 hi:rv x<=a+n*U
def ã.mono(h:ã x a n)(k:n<=m):ã x a m:=⟨h.fin,by have:=h.lo;unfold U at*;exact(Q6 0x45290f20000000000b72111a520000000000ba286f20000000000b72011a320000000000ba2864329061006) k this (dr _ 1 2199023255552)<|dr _ 1 2199023255552,by unfold U at*;exact(Q6 0x10850f20000000000b72211a120000000000ba286f20000000000b72411a320000000000ba2863085062406) k h.hi (dr _ 1 2199023255552)<|dr _ 1 2199023255552⟩
def zI:(2:Á)^1033*2199023255552=KN:=by
 unfold KN;rw[show(2199023255552:Á)=2^41 by decide,<-lI]
def Bc:(2:Á)^1086=4096*KN:=by
 unfold KN;rw[show(4096:Á)=2^12 by decide,<-lI]
def Dz(v:Rat):v/KK*KK=v:=cw<|(Q1 4029222678) ώ
def MM(g:a*KK<=v+U*KK):a-1*U<=v/KK:=by
 refine ŝ (c:=KK) ?_ ώ;rw[Dz];grind
def Md{a v:Rat}(g:v<=a*KK+U*KK):v/KK<=a+1*U:=by
 refine ŝ (c:=KK) ?_ ώ;refine Å (Dz ..) ?_;grind
def iJ{neg:Ò}(h:Right r neg W D)(p:0<D)(k:a*(D*KK)=if neg then -(W:Rat) else(W:Rat))(s:-4096<a/\a<4096):ã r a 1:=by
 have b:(0:Rat)<(D:Rat):=by exact_mod_cast p
 have c:(0:Rat)<D*KK:=Rat.mul_pos b ώ;have o:(W:Rat)<((D*2^1086:Á):Rat):=by
  have e:((D*2^1086:Á):Rat)=4096*(D*KK):=by
   rw[Bc,cy,cy];unfold KK;grind
  refine Å e ?_;cases neg
  .simp at k;exact Đ k<|aZ s.2 c
  .simp at k;have:(W:Rat)=(-a)*(D*KK):=by grind
   exact Å this<|aZ ((Q1 0x1000470c1100047010100047c176) s) c
 obtain⟨m,e,t,hd,w,y,A,_⟩:=nP h p (by exact_mod_cast o);have g:(W:Rat)<=D*(d8 t:Rat)+D*((2^1033:Á):Rat):=by exact_mod_cast y
 have j:(D:Rat)*(d8 t:Rat)<=W+D*((2^1033:Á):Rat):=by exact_mod_cast A
 have x:((2^1033:Á):Rat)=U*KK:=by
  have:=Ù (λn:Á=>(n:Rat)) zI;simp only[cy] at this;unfold KK U;refine Đ this ?_;generalize((2^1033:Á):Rat)=z;have:((2199023255552:Á):Rat)=2199023255552:=rfl;exact(Q2 0x12f20000000000b72120000000000bb11a020000000000ba286)<|dl _ 1 2199023255552
 rw[x] at g j;have f:(val r:Rat)=if neg then -(d8 t:Rat) else(d8 t:Rat):=by
  refine Å w ?_;unfold sgn;cases neg<;>simp[ń]
 have key:∀(v:Rat),rv r=v/KK->D*v<=a*(D*KK)+D*(U*KK)->a*(D*KK)<=D*v+D*(U*KK)->ã r a 1:=by
  intro v q B C;exact⟨⟨_,_,_,hd⟩,(Å q<|MM<|Hq (show D*(a*KK)<=D*(v+U*KK) by grind) b),(Å q<|Md<|Hq (show D*v<=D*(a*KK+U*KK) by grind) b)⟩
 refine key (val r) rfl ?_ ?_<;>refine Å f (Å k ?_)<;>cases neg<;>simp;exact(Q3 2302104666118) j;grind;exact(Q3 2302104666118) g;grind
end
set_option tactic.hygienic true
section
open PySem.Float64
def Ae:(2:Á)^1074=KN:=rfl
def IT:KK≠0:=(Q1 4029222678) ώ
def Ř(x:ā):rv x*KK=val x:=Dz _
def jC(s:Â):((s.natAbs:Á):Rat)=if s<0 then -(s:Rat) else(s:Rat):=by
 split
 .have:((s.natAbs:Á):Â)=-s:=by omega
  have:=Ù (λi:Â=>(i:Rat)) this;simpa[ń] using this
 .simpa[ń] using(Ù (λi:Â=>(i:Rat))<|show((s.natAbs:Á):Â)=s by omega)
def Ct(b:Ò):ã (zero b) 0 1:=by
 refine wO (decode_pack b (t:=0)<|by decide) λ_ _ h _=>?_;have v:rv (zero b)=0:=by
  unfold rv zero;refine Å (val_pack b<|by decide)<|Å V_zero ?_;cases b<;>simp[sgn]<;>grind
 exact⟨⟨_,_,_,h⟩,by refine Å v ?_;decide,by refine Å v ?_;decide⟩
def u4(hx:Ň x)(c:Ň y)(h:-4096<rv x+rv y/\rv x+rv y<4096):ã (add x y) (rv x+rv y) 1:=by
 refine tW hx λa m e hx=>?_;refine tW c λb k f c=>?_;have s:(rv x+rv y)*KK=((val x+val y:Â):Rat):=Å (nH ..)<|Å (Ř ..)<|Å (Ř ..)<|Å (l6 ..) rfl;refine Ö (λj o=>?_)<|add_right hx c;by_cases h0:val x+val y=0
 .refine Å (j h0) ?_;rw[h0] at s;have:rv x+rv y=0:=by
   rcases GA.1 s with h|h
   .exact h
   .exact ó h IT
  exact Å this<|Ct _
 .refine iJ (o h0) (by decide) ?_ h;refine Å (jC<|val x+val y) (Å (show(((1:Á):Rat)*KK)=KK by exact(Q1 4514))<|Å s ?_);by_cases g:val x+val y<0<;>simp[g]
def iW(a:Ò)(n:Á):((sgn a n:Â):Rat)=if a then -(n:Rat) else(n:Rat):=by
 unfold sgn;cases a<;>simp[ń]
def CX(hx:Ň x)(c:Ň y)(h:-4096<rv x*rv y/\rv x*rv y<4096):ã (mul x y) (rv x*rv y) 1:=by
 refine tW hx λa m e hx=>?_;refine tW c λb k f c=>?_;refine iJ (mul_right hx c) (ϑ _) ?_ h;refine Å Ae<|Å (show((KN:Á):Rat)=KK from rfl) ?_;have j:rv x*rv y*(KK*KK)=(val x:Rat)*(val y:Rat):=by refine Đ (Ř x)<|Đ (Ř y) ?_;grind
 have ex:=iW a<|m*2^(e+1074).toNat;have g:=iW b<|k*2^(f+1074).toNat;rw[<-val_eq hx] at ex;rw[<-val_eq c] at g;refine Å j<|Å (val_natAbs hx)<|Å (val_natAbs c)<|Å ex<|Å g ?_;generalize m*2^(e+1074).toNat=p';generalize k*2^(f+1074).toNat=o;refine Å (cy ..) ?_;generalize(p':Rat)=p;generalize(o:Rat)=q;cases a<;>cases b<;>simp<;>grind
def zc(h:rv y≠0):isZero y=false:=by
 unfold isZero;cases c:decode y with
 |fin b m f=>cases m with
  |zero=>
   exfalso;apply h;unfold rv;refine Å (val_eq c) ?_;cases b<;>simp[sgn]<;>grind
  |succ=>rfl
 |nan=>rfl
 |inf=>rfl
def DG(hx:Ň x)(c:Ň y)(j:rv y≠0)(h:-4096<rv x/rv y/\rv x/rv y<4096):ã (div x y) (rv x/rv y) 1:=by
 refine tW hx λa m e hx=>?_;refine tW c λb k f c=>?_;have B:k≠0:=by
  rintro rfl;apply j;unfold rv;refine Å (val_eq c) ?_;cases b<;>simp[sgn]<;>grind
 refine iJ (div_right hx c B) (Å (val_natAbs c)<|Nat.mul_pos (Xy ‹_›)<|ϑ _) ?_ h;have A:rv x/rv y*rv y=rv x:=cw j;have ex:=iW a<|m*2^(e+1074).toNat;have o:=iW b<|k*2^(f+1074).toNat;rw[<-val_eq hx] at ex;rw[<-val_eq c] at o;refine Å (val_natAbs hx)<|Å (val_natAbs c) ?_;have s:=Ř x;have v:=Ř y;rw[ex] at s;rw[o] at v;generalize m*2^(e+1074).toNat=p' at*;generalize k*2^(f+1074).toNat=C at*;refine Å (cy ..)<|Å (Ae ..)<|Å (show((KN:Á):Rat)=KK from rfl ..) ?_;generalize(p':Rat)=p at*;generalize(C:Rat)=q at*;generalize rv x/rv y=w at*;have t:w*(rv y*KK)=rv x*KK:=by refine Đ A ?_;grind
 rw[s,v] at t;cases a<;>cases b<;>simp at t⊢<;>grind
def G9{y:ā}(h:Ň y):Ň (neg y)/\rv (neg y)=-rv y:=by
 refine tW h λb k f h=>?_;refine⟨⟨_,_,_,neg_decode h⟩,?_⟩;unfold rv;rw[neg_val h,pD];grind
def ã.RF(h:ã r c 1)(j:a-n*U<=c)(f:c<=a+n*U){p:Rat}(g:n+1<=p):ã r a p:=by
 have:=h.lo;have:=h.hi;exact .mono ⟨h.fin,by unfold U at*;grind,by unfold U at*;exact(Q7 0x23810f20000000000b72e66811a220000000000ba286f20000000000b72e020000000000ba286f20000000000b726611a520000000000ba286011a48106538406) f this (dr _ 1 2199023255552) (dq _ 2199023255552)<|dr _ 1 2199023255552⟩ g
variable{x y:ā}{a b n m p:Rat}
def ã.add(hx:ã x a n)(h:ã y b m)(o:-4000<=a+b/\a+b<=4000)(s:n+m<=1000000000)(k:n+m+1<=p):ã (C4 x y) (a+b) p:=by
 have f:=hx.lo;have j:=hx.hi;have c:=h.lo;have g:=h.hi;refine(u4 hx.fin h.fin ?_).RF (n:=n+m) ?_ ?_ k<;>unfold U at*;exact(Q8 0x1000470281028100047c17f20000000000b72111a320000000000ba286f20000000000b726611a420000000000ba286376800603769064582062459063b9aca0087166806fa037765807658fa037c076) o s f j c g (dr _ 1 2199023255552)<|dr _ 1 2199023255552;exact(Q9 0x4668501890f20000000000b727686811a520000000000ba286f20000000000b727611a320000000000ba286f20000000000b728611a220000000000ba2864309066621906) f c (dr _ 1 2199023255552) (dr _ 1 2199023255552)<|dr _ 1 2199023255552;exact(Q9 0x6654882380f20000000000b727686811a6620000000000ba286f20000000000b727611a020000000000ba286f20000000000b728611a120000000000ba286058206148306) j g (dr _ 1 2199023255552) (dr _ 1 2199023255552)<|dr _ 1 2199023255552
def ã.sub(hx:ã x a n)(h:ã y b m)(c:-4000<=a-b/\a-b<=4000)(s:n+m<=1000000000)(g:n+m+1<=p):ã (l4 x y) (a-b) p:=by
 refine Ö (λf e=>?_)<|G9 h.fin;rw[tU] at c⊢;unfold l4;exact hx.add (⟨f,by have:=h.hi;refine Å e ?_;exact(Q3 0xc21c90218006) this,by refine Å e ?_;exact(Q3 295230685382918) h.lo⟩) c s g
def Dy{x y a b d e A B:Rat}(j:a-d<=x)(w:x<=a+d)(s:b-e<=y)(o:y<=b+e)(k:-A<=a/\a<=A)(h:-B<=b/\b<=B)(L:0<=d)(J:0<=e):
  a*b-(A*e+B*d+d*e)<=x*y/\x*y<=a*b+(A*e+B*d+d*e):=by
 have key:∀u v c f:Rat,-c<=u->u<=c->-f<=v->v<=f->-(c*f)<=u*v/\u*v<=c*f:=by
  intro u v c f q C t g;have G:=Ž (show(0:Rat)<=c-u by exact(Q2 435163142) C) (show(0:Rat)<=f-v by exact(Q2 435163142) g);have O:=Ž (show(0:Rat)<=c+u by exact(Q2 71118687238) q) (show(0:Rat)<=f+v by exact(Q2 71118687238) t);have R:=Ž (show(0:Rat)<=c-u by exact(Q2 435163142) C) (show(0:Rat)<=f+v by exact(Q2 71118687238) t);have K:=Ž (show(0:Rat)<=c+u by exact(Q2 71118687238) q) (show(0:Rat)<=f-v by exact(Q2 435163142) g);clear q C t g j w s o k h L J;grind
 refine Ö (λM H=>?_)<|key a (y-b) A e k.1 k.2 ((Q3 2825016903942) s)<|(Q3 2270160846854) o;refine Ö (λP E=>?_)<|key b (x-a) B d h.1 h.2 ((Q3 2825016903942) j)<|(Q3 2270160846854) w;refine Ö (λI D=>?_)<|key (x-a) (y-b) d e ((Q3 2825016903942) j) ((Q3 2270160846854) w) ((Q3 2825016903942) s)<|(Q3 2270160846854) o;have q:x*y=a*b+a*(y-b)+b*(x-a)+(x-a)*(y-b):=by grind
 rw[q];generalize a*(y-b)=p at M H⊢;generalize b*(x-a)=u at P E⊢;generalize(x-a)*(y-b)=r at I D⊢;clear key q j w s o k h L J;grind
def ã.nonneg(hx:ã x a n):0<=n:=by
 have h:=hx.hi;unfold U at*;exact(Q4 0xf0f20000000000b72011a120000000000ba286128306312906) hx.lo h<|dr _ 1 2199023255552
def ã.mul(A B:Rat)(hx:ã x a n)(h:ã y b m)(q:-A<=a/\a<=A)(s:-B<=b/\b<=B)(t:-4000<=a*b/\a*b<=4000)(k:n<=1000000)(G:m<=1000000)(C:A*m+B*n<=1000000000)(o:A*m+B*n+2<=p):ã (wL x y) (a*b) p:=by
 have g:=h.nonneg;have c:(0:Rat)<=U:=by unfold U;decide
 refine Ö (λE v=>?_)<|Dy hx.lo hx.hi h.lo h.hi q s (Ž hx.nonneg c)<|Ž g c;have f:n*m<=1000000000000:=by
  have D:=Ž (show(0:Rat)<=1000000-n by exact(Q1 0xf4240579f0f424057006) k) g;grind
 have w:n*U*(m*U)<=U:=by
  refine Å (show n*U*(m*U)=(n*m)*(U*U) by grind) ?_;have j:=Ž (show(0:Rat)<=1000000000000-n*m by exact(Q1 0xe8d4a51000a79f0e8d4a51000a7006) f)<|Ž c c;unfold U at*;grind
 refine(CX hx.fin h.fin ?_).RF (n:=A*m+B*n+1) ?_ ?_ ((Q3 0x2ee1088802217108806) o)<;>unfold U at*<;>grind
end
set_option tactic.hygienic false
section
open PySem.Float64
variable{x y:ā}{a b n m p:Rat}
def MR:(0:Rat)<U:=by unfold U;decide
def ã.div(β C:Rat)(hx:ã x a n)(q:ã y b m)(f:0<β)(o:β<=b)(P:-(C*b)<=a/\a<=C*b)(j:0<=C/\C<=1000)(X:2*m*U<=β)(K:2*(n+C*m)<=1000000*β)(R:2*(n+C*m)<=(p-1)*β):ã (xk x y) (a/b) p/\isZero y=false:=by
 have M:=hx.nonneg;have S:=hx.lo;have Y:=hx.hi;have I:=q.lo;have H:=q.hi;have k:0<rv y:=by grind
 have g:rv y≠0:=by exact(Q1 4029222678) k
 have G:rv x/rv y*rv y=rv x:=cw g;have s:a/b*b=a:=cw (show b≠0 by exact(Q2 0xf12910060f16) f o);have hq:-C<=a/b/\a/b<=C:=by
  constructor
  .refine ŝ (c:=b) ?_<|(Q2 2134867578646) f o;refine Å s ?_;grind
  .refine ŝ (c:=b) ?_<|(Q2 2134867578646) f o;refine Å s ?_;exact(Q2 1099781161078) P
 generalize a/b=w at*;subst s;obtain⟨W,O⟩:=Dy (x:=w) (y:=rv y) (a:=w) (b:=b) (d:=0) (e:=m*U) (A:=C) (B:=b) (by exact(Q1 61584)) (by exact(Q1 985088)) I H hq ((Q2 0xc0701061f16) f o) (by grind)<|(Q3 0x1f0108206210906) I H;have hz:∀N:Rat,2*(n+C*m)<=N*β->(n+C*m)*U<=N*U*rv y:=by
  intro N D;have v:0<=N:=by
   have:=Ž j.1 q.nonneg;by_cases h:N<0
   .have:=aZ h f;grind
   .exact(Q1 252641686) h
  have i3:=Dm (show 2*(n+C*m)<=N*(2*rv y) by exact(Q4 0x12821a00306312821a06) D<|Rat.mul_le_mul_of_nonneg_left (show β<=2*rv y by grind) v)<|dx MR;grind
 have J:∀N:Rat,2*(n+C*m)<=N*β->w-N*U<=rv x/rv y/\rv x/rv y<=w+N*U:=by
  intro N D;have z:=hz N D;constructor
  .refine ŝ (c:=rv y) ?_ k;refine Å G ?_;grind
  .refine ŝ (c:=rv y) ?_ k;refine Å G ?_;grind
 have E:=J 1000000 (by exact(Q3 0x2f42405a10821a02f42405a10821a06) K);have l2:=J (p-1) (by exact(Q3 0x210821a0210821a06) R);refine⟨(DG hx.fin q.fin g ?_).RF (n:=p-1) l2.1 l2.2<|by exact(Q1 15600000),zc g⟩;unfold U at E;exact(Q4 0x100047111100047c17f20000000000b72e020000000000ba2860f42405a381010f42405a3907623032c0763e837202f076) j hq E<|dq _ 2199023255552
def p9(hx:Ň x)(h:Ň y):cmp x y=À (compare (val x)<|val y):=by
 exact tW hx λ_ _ _ f=>tW h λ_ _ _ c=>cmp_right f c
def AQ(x y:ā):rv x<rv y↔val x<val y:=by
 have:=ώ;constructor
 .intro h;have:=aZ h this;rw[Ř,Ř] at this;exact_mod_cast this
 .intro h;have c:(val x:Rat)<val y:=by exact_mod_cast h
  rw[<-Ř x,<-Ř y] at c;exact aK c<|dx this
def uu(hx:Ň x)(h:Ň y):(cmp x y==À dZ)=decide (rv x<rv y):=by
 rw[p9 hx h,bL,ϻ,ka,dy,eo,AQ]
def LS(hx:Ň x)(h:Ň y):(cmp x y==À rT)=decide (rv y<rv x):=by
 rw[p9 hx h,bL,ϻ,ka,dy,U0,AQ]
def Hy(hx:Ň x)(g:Ň y):(cmp x y==À pA)=decide (rv x=rv y):=by
 rw[p9 hx g,bL,ϻ,ka,dy,Int.compare_eq_eq];constructor
 .intro h;unfold rv;rw[h]
 .intro h;have f:¬rv x<rv y:=by exact(Q2 270077990) h
  have c:¬rv y<rv x:=by exact(Q2 18419750) h
  rw[AQ] at f c;exact(qU 286978060911766) f c
def vB{n d:Á}(g:0<d)(h:n<4096*d):ã (ofFrac false n d) ((n:Rat)/d) 1:=by
 have f:(0:Rat)<(d:Rat):=by exact_mod_cast g
 have e:(n:Rat)/d*d=n:=cw (by exact(Q1 4029222678) f);refine iJ (ofFrac_right g rfl g) g ?_ ?_
 .refine Å (cy ..)<|Å (Ae ..)<|Å (show((KN:Á):Rat)=KK from rfl ..) ?_;simp;grind
 .have k:(n:Rat)<4096*d:=by exact_mod_cast h
  have j:(0:Rat)<=n:=by exact_mod_cast Ϫ n
  constructor
  .refine aK (c:=(d:Rat)) ?_<|dx f;refine Å e ?_;grind
  .refine aK (c:=(d:Rat)) ?_<|dx f;refine Å e ?_;exact(Q2 0x110004a01110004a016) k
def bE(i:Â)(h:-4096<i/\i<4096):ã (ofInt i) (i:Rat) 1:=by
 refine iJ (ofInt_right i) (by decide) ?_ ?_
 .refine Å (cy ..)<|Å (Ae ..)<|Å (show((KN:Á):Rat)=KK from rfl ..)<|Å (jC i ..) ?_;by_cases hi:i<0<;>simp[hi]<;>grind
 .constructor
  .exact Å (show(-4096:Rat)=((-4096:Â):Rat) from rfl)<|jr.2 h.1
  .exact Å (show(4096:Rat)=((4096:Â):Rat) from rfl)<|jr.2 h.2
def q0(hx:Ň x)(i:Â):(cmpInt x i==À dZ)=decide (rv x<i):=by
 refine tW hx λ_ _ _ c=>?_;rw[cmpInt_right c,bL,ϻ,ka,dy,eo];have K:=ώ;have e:((i*2^1074:Â):Rat)=i*KK:=by
  rw[gy];unfold KK KN;congr 1
 constructor
 .intro h;have:(val x:Rat)<((i*2^1074:Â):Rat):=by exact_mod_cast h
  rw[e,<-Ř x] at this;exact aK this<|dx K
 .intro h;have:=aZ h K;rw[<-e,Ř] at this;exact_mod_cast this
def q4(hx:Ň x)(i:Â):(cmpInt x i==À rT)=decide ((i:Rat)<rv x):=by
 refine tW hx λ_ _ _ c=>?_;rw[cmpInt_right c,bL,ϻ,ka,dy,U0];have K:=ώ;have e:((i*2^1074:Â):Rat)=i*KK:=by
  rw[gy];unfold KK KN;congr 1
 constructor
 .intro h;have:((i*2^1074:Â):Rat)<(val x:Rat):=by exact_mod_cast h
  rw[e,<-Ř x] at this;exact aK this<|dx K
 .intro h;have:=aZ h K;rw[<-e,Ř] at this;exact_mod_cast this
def rd(hx:Ň x)(i:Â):(cmpInt x i==À pA)=decide (rv x=i):=by
 have c:=q0 hx i;have h:=q4 hx i;refine tW hx λ_ _ _ f=>?_;rw[cmpInt_right f] at c h⊢;generalize compare (val x) (i*2^1074)=o at*;cases o<;>simp at c h⊢;exact(Q2 271126550) c;exact(Q2 283678720721302) c h;exact(Q2 19468310) h
end
set_option tactic.hygienic true
section
open PySem.Float64
variable{x y z:ā}{a b n m p:Rat}
def Hj(hz:Ň z)(D:0<rv z):∃t:Â,t4 [.á z]=À (.int t,0)/\(t:Rat)<=rv z/\rv z<t+1:=by
 refine tW hz λsg m e k=>?_;have K:=ώ;have j:0<val z:=by
  have:rv (zero false)<rv z:=by
   have:rv (zero false)=0:=by unfold rv zero;rw[val_pack false (by decide),V_zero];simp[sgn];grind
   rw[this];exact D
  have:=(AQ _ _).1 this;have B:val (zero false)=0:=by unfold zero;rw[val_pack false (by decide),V_zero];rfl
  exact(qU 2151515820102) this B
 have s:sg=false:=by
  cases sg
  .rfl
  .rw[val_eq k] at j;unfold sgn at j;simp only[sJ] at j;exact((A1 905033) j).elim
 subst s;have v:val z=((m*2^(e+1074).toNat:Á):Â):=by rw[val_eq k];rfl
 have key:∀t:Á,t*KN<=m*2^(e+1074).toNat->m*2^(e+1074).toNat<(t+1)*KN->((t:Â):Rat)<=rv z/\rv z<((t:Â):Rat)+1:=by
  intro t A C;have r:=Ř z;rw[v,ń] at r;clear v;generalize m*2^(e+1074).toNat=m at*;have g:((t*KN:Á):Rat)<=(m:Rat):=dw.2 A;have c:(m:Rat)<(((t+1)*KN:Á):Rat):=ub.2 C;rw[cy,<-r,show((KN:Á):Rat)=KK from rfl] at g c;rw[fB] at c;rw[ń];exact⟨ŝ g K,aK c<|dx K⟩
 have q:t4 [.á z]=À (.int<|truncOf false m e,0):=by
  show(match wZ z with|.fin sg m e=>À (V.int<|truncOf sg m e,0)|_=>Ä)=_;rw[k]
 by_cases h:e>=0
 .have o:truncOf false m e=((m*2^e.toNat:Á):Â):=by unfold truncOf floorOf sgn;simp[h]
  have f:m*2^(e+1074).toNat=m*2^e.toNat*KN:=by unfold KN;rw[show(e+1074).toNat=e.toNat+1074 by exact(Jw 0x432371802f12f04701d50f3786f02f43237084743237080d54323708f37860f36) h (iY _)<|iY _,lI,j3]
  exact⟨_,q,by rw[o];exact key _ (by rw[f];exact aj _)<|by rw[f];exact EZ (jZ _) rH⟩
 .have o:truncOf false m e=((m/2^(-e).toNat:Á):Â):=by
   unfold truncOf floorOf sgn;simp[h];rw[mu _ (by exact_mod_cast Ϫ _)]
  have f:KN=2^(-e).toNat*2^(e+1074).toNat:=by unfold KN;rw[<-lI];congr 1;exact(Jw 0x108432372f12f43237084743237081d54323708f3786f02f0c470c0d50cf37860f396043237c36) (decode_ge k) h (iY _)<|iY _
  have:=key (m/2^(-e).toNat) ?_ ?_
  .exact⟨_,q,by rw[o];exact this⟩
  .rw[f,<-j3];exact ye _<|Nat.div_mul_le_self _ _
  .rw[f,<-j3];refine EZ ?_<|ϑ _;rw[j4,pM];exact(Nat.lt_div_mul_add (a:=m)<|show 0<2^(-e).toNat from ϑ _)
def sR(hx:Ň x)(h:Ň y):mG x y=decide (rv y<rv x):=LS hx h
def aaj(hx:Ň x)(h:Ň y):mM x y=decide (rv x<rv y):=uu hx h
def Dp(hx:Ň x)(c:Ň y)(hz:Ň z):∃w,GU [.á x,.á y,.á z]=À (.á w,0)/\(w=x\/w=y\/w=z)/\rv x<=rv w/\rv y<=rv w/\rv z<=rv w:=by
 show∃w,À (V.á<|if mG z (if mG y x then y else x) then z else if mG y x then y else x,0)=À (.á w,0)/\_;simp only[sR c hx];by_cases h:rv x<rv y
 .simp only[h,oD,sJ,sR hz c];by_cases k:rv y<rv z
  .simp only[k,oD,sJ];exact⟨z,rfl,by simp,by exact(Q3 2199578349590) h k,by exact(Q2 16781334) k,by exact(Q1 0)⟩
  .simp only[k,og];exact⟨y,rfl,by simp,by exact(Q2 16781334) h,by exact(Q1 0),by exact(Q2 16843158) k⟩
 .simp only[h,og,aX,jz,sR hz hx];by_cases k:rv x<rv z
  .simp only[k,oD,sJ];exact⟨z,rfl,by simp,by exact(Q2 16781334) k,(Q3 36292496785814) h k,by exact(Q1 0)⟩
  .simp only[k,og];exact⟨x,rfl,by simp,by exact(Q1 0),by exact(Q2 16843158) h,by exact(Q2 16843158) k⟩
def Dg(hx:Ň x)(c:Ň y)(hz:Ň z):∃w,bz [.á x,.á y,.á z]=À (.á w,0)/\(w=x\/w=y\/w=z)/\rv w<=rv x/\rv w<=rv y/\rv w<=rv z:=by
 show∃w,À (V.á<|if mM z (if mM y x then y else x) then z else if mM y x then y else x,0)=À (.á w,0)/\_;simp only[aaj c hx];by_cases h:rv y<rv x
 .simp only[h,oD,sJ,aaj hz c];by_cases k:rv z<rv y
  .simp only[k,oD,sJ];exact⟨z,rfl,by simp,by exact(Q3 1236985581590) h k,by exact(Q2 16781334) k,by exact(Q1 0)⟩
  .simp only[k,og];exact⟨y,rfl,by simp,by exact(Q2 16781334) h,by exact(Q1 0),by exact(Q2 16843158) k⟩
 .simp only[h,og,aX,jz,aaj hz hx];by_cases k:rv z<rv x
  .simp only[k,oD,sJ];exact⟨z,rfl,by simp,by exact(Q2 16781334) k,(Q3 2203878228374) h k,by exact(Q1 0)⟩
  .simp only[k,og];exact⟨x,rfl,by simp,by exact(Q1 0),by exact(Q2 16843158) h,by exact(Q2 16843158) k⟩
noncomputable abbrev ı:ā:=4607182418800017408
def mX:val ı=(KN:Â):=by decide
def nk:Ň ı:=by
 unfold Ň;cases h:decode ı with
 |fin a m e=>exact⟨_,_,_,rfl⟩
 |nan=>
  have:isFinite ı=true:=by decide
  unfold isFinite at this;have this:=h▸this;cases this
 |inf=>
  have:isFinite ı=true:=by decide
  unfold isFinite at this;cases(h▸this)
def t5:rv ı=1:=by
 unfold rv;rw[mX,ń,show((KN:Á):Rat)=KK from rfl,Rat.div_def];exact E6 _ IT
def gV:ã ı 1 0:=⟨nk,by refine Å t5 ?_;exact(Q1 3758206608),by refine Å t5 ?_;exact(Q1 1763552)⟩
def iN(b:Ò):rv (zero b)=0:=by
 unfold rv zero;refine Å (val_pack b<|by decide)<|Å V_zero ?_;cases b<;>simp[sgn]<;>grind
def Hz(hx:Ň x)(h:-1<rv x/\rv x<1):∃j t,fmod x ı=pack j t/\t<infMag/\ã (fmod x ı) (rv x) 1/\d8 t<=KN:=by
 refine tW hx λa m e g=>?_;refine tW nk λb k f A=>?_;have E:=decode_ge g;have D:=decode_ge A;have B:=val_natAbs A;have G:(val x).natAbs<KN:=by
  have H:=aZ h.1 ώ;have l2:=aZ h.2 ώ;rw[Ř] at H l2;have o:((-(KN:Â):Â):Rat)<((val x:Â):Rat):=by rw[pD,ń,show((KN:Á):Rat)=KK from rfl];grind
  have q:((val x:Â):Rat)<(((KN:Â):Â):Rat):=by rw[ń,show((KN:Á):Rat)=KK from rfl];exact(Q2 69005844502) l2
  have:=jr.1 o;have:=jr.1 q;omega
 have I:k≠0:=by
  rintro rfl;rw[Nat.zero_mul,mX,rp] at B;have:=rH;exact((A1 253358118) B this).elim
 rw[mX,rp] at B;have C:m*2^(e-min e f).toNat*2^(min e f+1074).toNat=(val x).natAbs:=by
  rw[(val_natAbs g),j3,<-lI];congr 2;exact(UM 0x12820251047125013786f02f43237184743237180d54323718f3786f12f43237284743237281d54323728f3786f22f219472192d5219f3786043237c36) D (iY _) (iY _) (iY _)<|MI _ _
 have J:k*2^(f-min e f).toNat*2^(min e f+1074).toNat=KN:=by
  rw[B,j3,<-lI];congr 2;exact(UM 0x12821250147025103786f02f43237184743237180d54323718f3786f12f43237284743237281d54323728f3786f22f219472192d5219f3786043237c36) E (iY _) (iY _) (iY _)<|MI _ _
 have s:m*2^(e-min e f).toNat<k*2^(f-min e f).toNat:=by
  refine Nat.lt_of_mul_lt_mul_right (a:=2^(min e f+1074).toNat) ?_;rw[C,J];exact G
 have w:fmod x ı=ofBin a (m*2^(e-min e f).toNat) (min e f):=by
  unfold fmod;refine Å g<|Å A ?_;simp only[align,sgn,aX,jz];rw[È (by simpa using I),Ě,Ě,bR s]
 have R:Right (fmod x ı) a (val x).natAbs 1:=by
  rw[w];unfold ofBin;refine ofFrac_right (shift_pos _ _ _<|by decide) ?_ (by decide);have:=shift_one (m*2^(e-min e f).toNat) (min e f) 1074<|(W8 0x43237dc32051247105213786243237c36143237c36) E D<|MI _ _;rw[show(min e f+((1074:Á):Â)).toNat=(min e f+1074).toNat from rfl,C] at this;exact(px _).trans this
 have O:ã (fmod x ı) (rv x) 1:=by
  refine iJ R (by decide) ?_ (by exact(Q1 0x100047010100047c17e010ec176) h);rw[show(((1:Á):Rat)*KK)=KK by grind,Ř,jC];have v:=val_eq g;generalize m*2^(e+1074).toNat=M at*;unfold sgn at v;cases a
  .simp only[aX,jz] at v⊢;rw[È (by omega)]
  .simp at v⊢;split
   .grind
   .have:val x=0:=by omega
    rw[this];rfl
 refine HG R λt K P L S=>?_;have c:t<infMag:=by
  refine ie P λe=>?_;have i:=L.1 e;have:(KN:Á)<=(2^54-1)*2^2045:=by unfold KN;refine ú (a8 (by decide)<|show 1074<=2045 by decide)<|ly _<|by decide
  have:2*KN<=(2^54-1)*2^2045:=by unfold KN;rw[<-Nat.pow_succ'];refine ú (a8 (by decide)<|show 1075<=2045 by decide)<|ly _<|by decide
  rw[pM] at i;omega
 refine⟨a,t,K,c,O,?_⟩;have:=(S c<|1023*2^52).1;rw[(show d8 (1023*2^52)=KN by decide)] at this;unfold dist at this;omega
def ã.to(h:ã x a n)(c:Ň y)(e:rv y=rv x):ã y a n:=⟨c,by rw[e];exact h.lo,by rw[e];exact h.hi⟩
def kF(b:Ò):Ň (zero b):=by
 exact wO (decode_pack b (t:=0)<|by decide) λ_ _ h _=>⟨_,_,_,h⟩
def Cm(h:isZero x=true):Ň x/\rv x=0:=by
 unfold isZero at h;cases c:decode x with
 |fin s m e=>cases m with
  |zero=>clear h;refine⟨⟨_,_,_,c⟩,?_⟩;unfold rv;refine Å (val_eq c) ?_;cases s<;>simp[sgn]<;>grind
  |succ=>cases(c▸h)
 |nan=>cases(c▸h)
 |inf=>cases(c▸h)
def JV(hx:Ň x)(h:-1<rv x/\rv x<1):Ň (divmod x ı).2/\0<=rv (divmod x ı).2/\rv (divmod x ı).2<=1/\(ã (divmod x ı).2 (rv x) 1\/ã (divmod x ı).2 (rv x+1) 2):=by
 refine H4 (Hz hx h) λneg t M S g O=>?_;have I:((d8 t:Á):Rat)<=KK:=dw.2 O;have L:(0:Rat)<=((d8 t:Á):Rat):=pd;have B:-1<=rv (fmod x ı)/\rv (fmod x ı)<=1:=by
  have e:=iW neg<|d8 t;rw[<-(show val (fmod x ı)=sgn neg (d8 t) by exact Å M<|val_pack neg S),<-Ř] at e;constructor
  .refine ŝ (c:=KK) ?_ ώ;refine Å e ?_;split<;>grind
  .refine ŝ (c:=KK) ?_ ώ;refine Å e ?_;split;exact(Q2 77019415388229638) I L;exact(Q2 73450655750) I
 have s:(divmod x ı).2=if isZero (fmod x ı)=true then zero false else if lt (fmod x ı) (zero false)=true then add (fmod x ı) ı else fmod x ı:=by
  unfold divmod;simp only[(show copysign (zero false) ı=zero false by decide),(show lt ı (zero false)=false by decide)];by_cases q:isZero (fmod x ı)=true
  .simp[q]
  .simp only[zx _|>.mp q,aX,jz];cases lt (fmod x ı) (zero false)<;>rfl
 refine Å s ?_;generalize fmod x ı=w at*;split
 .rename_i hz;exact Ö (λ_ hw=>⟨kF _,by refine Å (iN ..) ?_;decide,by refine Å (iN ..) ?_;decide,.inl<|g.to (kF _)<|by exact Å (iN ..)<|Å (hw ..) rfl⟩)<|Cm hz
 .split
  .rename_i f;unfold lt at f;rw[uu g.fin (kF _),ϻ,iN] at f;have o:=u4 g.fin nk (by refine Å t5 ?_;exact(Q1 0x100047e081e08100047c17e000ec076) B);rw[t5] at o;refine tW g.fin λW m1 e1 J=>?_;refine tW nk λb2 m2 X P=>?_;refine Ö (λH K=>?_)<|add_right J P;have D:(rv w+1)*KK=((val w+val ı:Â):Rat):=by refine Å (nH ..)<|Å (Ř ..)<|Å (l6 ..)<|Å (mX ..)<|Å (ń ..) ?_;unfold KK;exact(Q2 70884892802)
   have k:((0:Â):Rat)<=((val w+val ı:Â):Rat):=by exact Đ D<|Ž (by exact(Q1 0xe08f0e000ec076) B)<|dx ώ
   have j:((val w+val ı:Â):Rat)<((KN:Â):Rat):=by rw[<-D,ń,show((KN:Á):Rat)=1*KK by unfold KK;exact(Q1 72194)];exact aZ (by exact(Q1 63896154134) f) ώ
   have k:=mJ.1 k;have j:=jr.1 j;have C:0<=rv (add w ı)/\rv (add w ı)<=1:=by
    by_cases h0:val w+val ı=0
    .rw[H h0,iN];decide
    .have R:=K h0;rw[mE (by exact(qU 0xf10849108f36) k)] at R;obtain⟨_,_,A,_,v,_,_,hm⟩:=nP R (by decide) (by
      have:KN<1*2^1086:=by rw[Bc,pM];have:=rH;omega
      omega)
     have E:d8 (1023*2^52)=KN:=by decide
     have:=hm (1023*2^52) (by rw[E];omega);have e:=iW false<|d8 A;rw[<-v,<-Ř] at e;simp at e;have i1:((d8 A:Á):Rat)<=KK:=dw.2<|E▸this;have Y:(0:Rat)<=((d8 A:Á):Rat):=pd;constructor
     .refine ŝ (c:=KK) ?_ ώ;rw[e];grind
     .refine ŝ (c:=KK) ?_ ώ;rw[e];grind
   exact⟨o.fin,C.1,C.2,.inr<|o.RF (n:=1) (by have:=g.lo;grind) (by have:=g.hi;grind)<|by decide⟩
  .rename_i f;unfold lt at f;rw[uu g.fin (kF _),ϻ,iN] at f;exact⟨g.fin,by grind,B.2,.inl g⟩
end
set_option tactic.hygienic false
section
open PySem.Float64
def lL(i:Â)(h:-4096<i/\i<4096):dX i=true:=by
 refine tW ((bE i h).fin) λ_ _ _ a=>?_;unfold dX isInf;exact Å a rfl
def m8{i:Â}(h:i.natAbs<=10^2000):Ĕ i=true:=by
 unfold Ĕ;rw[ϻ];by_cases a:i.natAbs=0
 .rw[a];decide
 .rw[Wy a];exact dU h<|by decide
def rG(i:Â)(h:-(10:Â)^2000<=i/\i<=10^2000):Ĕ i=true:=by
 refine m8 ?_;rw[<-(show((10^2000:Á):Â)=(10:Â)^2000 by norm_cast)] at h;generalize(10:Á)^2000=z at*;omega
def I2{k size:Á}(h:ã x ((k:Rat)/size) 400000)(s:0<size/\size<=1024)(D:k<=2*size)(v:k<=1100):ħ [.á x,.int size]=À (.int k,0):=by
 have f:(0:Rat)<size:=ya.2 s.1;have A:(size:Rat)<=1024:=dw (a:=size) (b:=1024)|>.2 s.2
 have B:(0:Rat)<=k:=pd;have G:(k:Rat)<=1100:=dw (a:=k) (b:=1100)|>.2 v
 have H:(k:Rat)<=2*size:=by have:=dw (a:=k) (b:=2*size)|>.2 D;rwa [cy] at this
 have C:(k:Rat)/size*size=k:=cw<|(Q1 4029222678) f;have hw:0<=(k:Rat)/size/\(k:Rat)/size<=2:=by
  constructor
  .refine ŝ (c:=(size:Rat)) ?_ f;refine Å C ?_;exact(Q2 4322234118) B
  .refine ŝ (c:=(size:Rat)) ?_ f;refine Å C ?_;exact(Q2 318446074175494) H
 generalize(k:Rat)/size=w at*;have E:=ã.mul (p:=900000000) 4 1024 (ã.mul (x:=x) (y:=ofInt 2) (a:=w) (b:=2) (p:=800006) 2 2 h (bE 2<|by decide) ((Q1 0x217000217c07217000f076) hw) (by decide) ((Q1 0xfa037021b0021bfa037c07217000f076) hw) rfl rfl (by decide)<|by decide) (bE size ⟨(A1 56103028676),(A1 0x1000470d440037000f176) s⟩) ((Q1 0x417021b0021b417c07217000f076) hw) (Å (ń ..)<|(Q1 0x4003700040037c07400370060f16) f A) (by refine Å (ń ..) ?_;grind) rfl rfl (by decide) (by decide);have o:=ã.add (p:=900000002) E (bE 1<|by decide) (by refine Å (ń ..)<|Å (show((1:Â):Rat)=1 from rfl ..) ?_;grind) (by decide) (by decide);have o:=(show w*2*size+1=2*k+1 by grind)▸(show((1:Â):Rat)=1 from rfl)▸(ń ..)▸o;have g:=o.lo;have j:=o.hi;refine qJ (Hj o.fin<|by unfold U at g;exact(Q3 0x2f1f20000000000b72e120000000000ba2862135a4e9028ae021a89060f06) B g<|dq _ 2199023255552) λt J t1 I=>?_;have q:((2*(k:Â)-1:Â):Rat)<t:=by refine Å (tS ..)<|Å (gy ..)<|Å (ń ..) ?_;unfold U at g;simp;exact(Q4 0x1e221a91f20000000000b72e320000000000ba286e180160335a4e9028ae221a8906) g I<|dq _ 2199023255552
 have l2:(t:Rat)<((2*(k:Â)+2:Â):Rat):=by refine Å (l6 ..)<|Å (gy ..)<|Å (ń ..) ?_;unfold U at j;simp;exact(Q4 0x217321a811f20000000000b72e020000000000ba2862106035a4e9028ae321a88206) j t1<|dq _ 2199023255552
 have q:=jr.1 q;have l2:=jr.1 l2;refine kH rfl<|mK<|Û (dJ (Ð (Û (Û (Û (Ç rfl) ļ (r:=.á<|mul x<|ofInt 2) (m:=0)<|ť<|lL 2<|by decide) (Ç rfl) (r:=.á<|mul (mul x<|ofInt 2)<|ofInt size) (m:=0)<|ť<|lL size ⟨(A1 56103028676),(A1 0x1000470d440037000f176) s⟩) ļ (r:=.á<|add (mul (mul x<|ofInt 2)<|ofInt size)<|ofInt 1) (m:=0)<|ť<|lL 1<|by decide) Ą) J) ļ (m:=0) ?_
 .rw[show ü .FloorDiv (.int t) (.int 2)=if(2:Â)≠0/\Ĕ t=true then À (.int<|t.fdiv 2,0) else Ä from rfl,ť ⟨by decide,rG t (by
   have:(10000:Â)<=10^2000:=by decide
   generalize(10:Â)^2000=z at*;exact⟨(RP 0x1c31271047360e0d21a946) q this,(U8 0x1031271047362171d21a8046021a10640037000f176) s D l2 this⟩)⟩]
  refine Å (mu _<|by decide) ?_;congr 3;exact(Zb 0xd05f2172217242f37812021a85762170d21a81461e0d21a946) q l2<|dz _ 2
end
set_option tactic.hygienic true
section
open PySem.Float64
def wN(h:isFinite x=true):Ň x:=by
 unfold isFinite at h;cases c:decode x with
 |fin=>exact⟨_,_,_,c⟩
 |nan=>cases(c▸h)
 |inf=>cases(c▸h)
def aaf(h:isFinite x=true)(v:val x=k*(KN:Â)):ã x (k:Rat) 0:=by
 have e:rv x=k:=by
  unfold rv;rw[v,gy,ń,show((KN:Á):Rat)=KK from rfl,Rat.div_def,l5,E6 _ IT,Rat.mul_one]
 exact⟨wN h,by rw[e];exact(Q2 16883856),by rw[e];exact(Q2 270141440)⟩
noncomputable abbrev uS:ā:=4611686018427387904
noncomputable abbrev KW:ā:=4616189618054758400
noncomputable abbrev lU:ā:=4618441417868443648
def ki:ã uS 2 0:=aaf (k:=2) (by decide)<|by decide
def BQ:ã KW 4 0:=aaf (k:=4) (by decide)<|by decide
def vd:ã lU 6 0:=aaf (k:=6) (by decide)<|by decide
noncomputable def ch(L D:Rat)(w:Á):Rat:=(16*L+D*w)/1024
structure ϵ(L D:Rat):Prop where
 l0:0<=L
 l1:L<=31
 d:2<=D
 h0:33<=L+D
 h1:L+D<=64
structure jj(L D:Rat)(r g b:ā)(wr wg wb:Á):Prop where
 r:ã r (ch L D wr) 200
 g:ã g (ch L D wg) 200
 b:ã b (ch L D wb) 200
 hr:wr<=16
 hg:wg<=16
 hb:wb<=16
 hi:wr=16\/wg=16\/wb=16
 lo:wr=0\/wg=0\/wb=0
variable{L D:Rat}{r g b:ā}{wr wg wb:Á}
def wY{w:Á}(h:w<=16):(0:Rat)<=w/\(w:Rat)<=16:=⟨pd,dw (a:=w) (b:=16)|>.2 h⟩
def gR(H:ϵ L D){w:Á}(h:w<=16):L/64<=ch L D w/\ch L D w<=(L+D)/64:=by
 refine Ö (λf w1=>?_)<|wY h;have a:=H.d;have j:=Ž (show(0:Rat)<=D by exact(Q1 4026668806) a) (show(0:Rat)<=16-(w:Rat) by exact(Q1 4547163497590790) w1);unfold ch;constructor;exact(Q4 0x10f40037223102a804003a286f4027231402a2862f06) (Ž (show(0:Rat)<=D by exact(Q1 4026668806) a) f) (dq _ 64)<|dq _ 1024;grind
def jj.max(H:ϵ L D)(P:jj L D r g b wr wg wb)(h:z=r\/z=g\/z=b)(q:rv r<=rv z)(m:rv g<=rv z)(s:rv b<=rv z):ã z ((L+D)/64) 200:=by
 have u:=MR;have v:Ň z:=by rcases h with rfl|rfl|rfl;exact P.r.fin;exact P.g.fin;exact P.b.fin
 refine⟨v,?_,?_⟩
 .rcases P.hi with e|e|e<;>subst e
  .have:ch L D 16=(L+D)/64:=by unfold ch;exact(Q4 0x12f402722380402a286f4003722102b3102a814003a286) (dq _ 1024) (dq _ 64)
   exact(Q5 0x13c82a490422603c82a29061006) q P.r.lo this
  .have:ch L D 16=(L+D)/64:=by unfold ch;exact(Q4 0x12f402722380402a286f4003722102b3102a814003a286) (dq _ 1024) (dq _ 64)
   exact(Q5 0x13c82a490422603c82a29061006) m P.g.lo this
  .have:ch L D 16=(L+D)/64:=by unfold ch;exact(Q4 0x12f402722380402a286f4003722102b3102a814003a286) (dq _ 1024) (dq _ 64)
   exact(Q5 0x13c82a490422603c82a29061006) s P.b.lo this
 .rcases h with rfl|rfl|rfl;exact(Q5 0xc82a18300c82a2830612024076) (gR H P.hr) P.r.hi;exact(Q5 0xc82a18300c82a2830612024076) (gR H P.hg) P.g.hi;exact(Q5 0xc82a18300c82a2830612024076) (gR H P.hb) P.b.hi
def jj.min(H:ϵ L D)(P:jj L D r g b wr wg wb)(h:z=r\/z=g\/z=b)(q:rv z<=rv r)(m:rv z<=rv g)(s:rv z<=rv b):ã z (L/64) 200:=by
 have u:=MR;have v:Ň z:=by rcases h with rfl|rfl|rfl;exact P.r.fin;exact P.g.fin;exact P.b.fin
 have z0:ch L D 0=L/64:=by unfold ch;exact Å (show(((0:Á):Rat))=0 from rfl)<|(Q4 0x12f4027220402a286f400372301b2102a814003a286) (dq _ 1024)<|dq _ 64
 refine⟨v,?_,?_⟩
 .rcases h with rfl|rfl|rfl;exact(Q5 0x31c82a09031c82a290642020076) (gR H P.hr) P.r.lo;exact(Q5 0x31c82a09031c82a290642020076) (gR H P.hg) P.g.lo;exact(Q5 0x31c82a09031c82a290642020076) (gR H P.hb) P.b.lo
 .rcases P.lo with e|e|e<;>subst e;exact(Q5 0x4c82a38004c82a2810632261006) q z0 P.r.hi;exact(Q5 0x4c82a38004c82a2810632261006) m z0 P.g.hi;exact(Q5 0x4c82a38004c82a2810632261006) s z0 P.b.hi
def zb(H:ϵ L D)(hx:ã x (ch L D w) 200)(hz:ã z ((L+D)/64) 200)(f:w<=16)(h:rv x=rv z):w=16:=by
 refine Nat.le_antisymm f<|yo λc=>?_;have j:=Ž (show(0:Rat)<=D by exact(Q1 4026668806) H.d) (show(0:Rat)<=15-(w:Rat) by exact(Q1 0xf179f0f17006) (dw (a:=w) (b:=15)|>.2 ((A1 0xf17001027016) c)));have:=hx.hi;have:=hz.lo;have:=H.d;unfold ch U at*;grind
def lD(H:ϵ L D)(hx:ã x (ch L D w) 200)(j:w<=16)(k:ã mx ((L+D)/64) 200)(y:ã mn (L/64) 200):
  ã (div (sub mx x)<|sub mx mn) ((16-(w:Rat))/16) 52000/\isZero (sub mx mn)=false:=by
 refine Ö (λv w1=>?_)<|wY j;refine Ö (λc f=>?_)<|gR H j;have q:=H.l0;have m:=H.l1;have a:=H.d;have o:=H.h0;have h:=H.h1;have C:=Ž (show(0:Rat)<=D by exact(Q1 4026668806) a) (show(0:Rat)<=16-(w:Rat) by exact(Q1 4547163497590790) w1);refine Ö (λs A=>?_) (ã.div (p:=52000) (1/32) 1 (ã.sub (p:=401) k hx ((Q5 0xfa0370190019fa037c07f402723481402a286f4027242402a2864027348064f0610060206) c f q h (dq _ 64)<|dq _ 64) (by decide)<|by decide) (ã.sub (p:=401) k y ((Q5 0xfa0371290129fa037c07f402723482402a286f4027241402a2864027348064f0620060106) c f q h (dq _ 64)<|dq _ 64) (by decide)<|by decide) (by decide) ((Q5 0x42930f4027214402a286f402720182402a286f20272e3202a2860182127061f27106) m o (dq _ 32) (dq _ 64)<|dq _ 64) (by unfold ch;constructor;grind;exact(Q5 0x13911a2390f4027241402a286f40037204102a824003a2860f06) (Ž (show(0:Rat)<=D by exact(Q1 4026668806) a) v) (dq _ 1024)<|dq _ 64) (by decide) (by decide) (by decide)<|by decide);refine⟨?_,A⟩;have:((L+D)/64-ch L D w)/((L+D)/64-L/64)=(16-(w:Rat))/16:=by
  have B:D≠0:=by exact(Q2 0xf1291082127061f27006) m o
  unfold ch;grind
 rwa [this] at s
structure qO(h:ā)(ř:Á):Prop where
 fin:Ň h
 lo:0<=rv h
 hi:rv h<=1
 near:∃k:Á,k%96=ř/\k<=192/\ã h ((k:Rat)/96) 200000
def sI{k:Â}{ř:Á}(w:ã h ((k:Rat)/16) 104003)(o:-16<=k)(q:k<=80)(t:k%96=ř):isZero lU=false/\qO (divmod (div h lU) ı).2 ř:=by
 have q1:((-16:Â):Rat)<=k:=mJ.2 o;have q2:(k:Rat)<=((80:Â):Rat):=mJ.2 q;have q1:=(show((-16:Â):Rat)=-16 from rfl)▸q1;have q2:=(show((80:Â):Rat)=80 from rfl)▸q2;refine Ö (λc x=>?_) (ã.div (p:=104003) 6 1 w vd rfl rfl (by constructor;exact(Q2 0x161711ac0f1027201102a28601027c06) q1<|dq _ 16;exact(Q2 0x61711a10f1027201102a2865027006) q2<|dq _ 16) (by decide) (by decide) (by decide)<|by decide);have c:=(show(k:Rat)/16/6=k/96 by exact(Q4 0x12f1027232102a286f6027230602a286f61722161a286) (dq _ 6) (dq _ 96)<|dq _ 16)▸c;have f:=c.lo;have hi:=c.hi;refine⟨x,?_⟩;refine sm (JV c.fin<|by unfold U at f hi;constructor;exact(Q4 0x3ec1f20000000000b72e220000000000ba286f6027201602a28632196435a190601027c06) q1 f (dq _ 96)<|dq _ 2199023255552;exact(Q4 0xe11f20000000000b72e020000000000ba286f6027223602a2860196435a381065027206) q2 hi (dq _ 96)<|dq _ 2199023255552) λm1 m2 y m=>?_;refine⟨m1,m2,y,?_⟩;rcases m with m|m
 .have j:ã (divmod (div h lU) ı).2 ((k:Rat)/96) 200000:=m.RF (n:=104003) f hi (by decide);have v:0<=k:=by
   refine Int.le_of_lt_add_one<|Int.lt_of_not_ge λs=>?_;have:(k:Rat)<=((-1:Â):Rat):=mJ.2<|(Ad 0xec03fe0836) s;have this:=(show((-1:Â):Rat)=-1 from rfl)▸this;have:=j.hi;unfold U at this;grind
  refine⟨k.toNat,by exact(Xg 0x132f02f04700d50f3786f602726027318032602a8276f602726027141f378012602a85760f361d156) t v (dz _ 96) (dm _ 96)<|iY _,by exact(wo 0xc02700f02f04700d50f37865027036) q<|iY _,?_⟩;have:((k.toNat:Á):Rat)=k:=by refine Đ (ń ..) ?_;congr 1;exact(wo 0xd5f02f04700d50f37860f36) v<|iY _
  exact Å this j
 .have j:ã (divmod (div h lU) ı).2 ((k:Rat)/96+1) 200000:=by
   exact⟨m1,by unfold U at*;exact(Q4 0x1330d405ae2890f20000000000b72e320000000000ba2861321ae0890603196435a2906) f m.lo<|dq _ 2199023255552,by unfold U at*;exact(Q4 0x230d405ae18830f20000000000b72e220000000000ba286221ae0883062196435a18006) hi m.hi<|dq _ 2199023255552⟩
  refine⟨(k+96).toNat,(Xg 0x132f02f602708476027080d5602708f3786f602726027318032602a8276f602726027141f378012602a85761d15601027c36) o t (dz _ 96) (dm _ 96)<|iY _,(wo 0xc02700f02f602708476027080d5602708f37865027036) q<|iY _,?_⟩;have:(((k+96).toNat:Á):Rat)=k+96:=by
   exact Đ (ń ..)<|Å (show(((k+96).toNat:Á):Â)=k+96 by exact(wo 0x6027080d5f02f602708476027080d5602708f378601027c36) o (iY _) ..)<|Å (l6 ..) rfl
  exact Å this<|Å (show((k:Rat)+96)/96=k/96+1 by exact(Q3 0xe1802f6027221602a286f602726027280602a286) (dq _ 96)<|dq _ 96) j
structure qV(ř wr wg wb:Á):Prop where
 r:wr=16->(wg-wb:Â)%96=ř
 g:wg=16->(32+wb-wr:Â)%96=ř
 b:wb=16->(64+wr-wg:Â)%96=ř
end
set_option tactic.hygienic false
section
open PySem.Float64
variable{L D:Rat}{r g b:ā}{wr wg wb ř:Á}
def Ĵ(hx:Ň x)(h:Ň y):Ĥ .Eq (.á x) (.á y)=À (decide<|rv x=rv y):=by
 exact Å (show Ĥ .Eq (.á x) (.á y)=À (fu x y==À pA) from rfl)<|Å (Hy hx h) rfl
def oU(hx:Ň x)(h:Ň y):Ĥ .LtE (.á x) (.á y)=À (decide<|rv x<=rv y):=by
 refine Å (show Ĥ .LtE (.á x) (.á y)=À (fu x y==À dZ||fu x y==À pA) from rfl)<|Å (Hy hx h)<|Å (uu hx h) ?_;congr 1;refine Å (pI<|bL ..) ?_;simp;grind
def i7(h:isZero y=false):ü .Div (.á x) (.á y)=À (.á<|div x y,0):=by
 exact Å (show ü .Div (.á x) (.á y)=if uj y then Ä else À (.á<|xk x y,0) from rfl)<|Å h rfl
def wA(h:isZero y=false):ü .Mod (.á x) (.á y)=À (.á (divmod x y).2,0):=by
 exact Å (show ü .Mod (.á x) (.á y)=if uj y then Ä else À (.á (Eh x y).2,0) from rfl)<|Å h rfl
def jw:isZero ı=false:=by decide
noncomputable abbrev cx:ā:=4602678819172646912
def cY:ã cx (1/2) 0:=by
 have e:rv cx=1/2:=by
  have:=Ř cx;have a:((val cx*2:Â):Rat)=KK:=by rw[(show val cx*2=(KN:Â) by decide),ń];rfl
  rw[gy,<-this] at a;have c:(rv cx*2-1)*KK=0:=by rw[show((2:Â):Rat)=2 from rfl] at a;grind
  rcases GA.1 c with h|h
  .exact(Q2 0x102f2172e121a286fe021b926) h<|dq _ 2
  .exact ó h IT
 exact⟨wN<|by decide,by refine Å e ?_;exact(Q2 16883856),by refine Å e ?_;exact(Q2 270141440)⟩
structure Qj(mx r g b rg:ā)(ř:Á)(h0:ā):Prop where
 is:(rv r=rv mx/\h0=sub (div (sub mx b) rg) (div (sub mx g) rg))\/(rv r≠rv mx/\rv g=rv mx/\h0=sub (add uS<|div (sub mx r) rg) (div (sub mx b) rg))\/
  (rv r≠rv mx/\rv g≠rv mx/\h0=sub (add KW<|div (sub mx g) rg) (div (sub mx r) rg))
 ok:qO (divmod (div h0 lU) ı).2 ř
def Ea(a b:Á):(((a:Â)-(b:Â):Â):Rat)=a-b:=Å (tS ..)<|Å (ń ..)<|Å (ń ..) rfl
def qR(c:Â)(a b:Á):((c+(a:Â)-(b:Â):Â):Rat)=c+a-b:=Å (tS ..)<|Å (l6 ..)<|Å (ń ..)<|Å (ń ..) rfl
def EP(H:ϵ L D)(P:jj L D r g b wr wg wb)(S:qV ř wr wg wb)(h:ã mx ((L+D)/64) 200)(q:ã mn (L/64) 200)(G:mx=r\/mx=g\/mx=b):isZero (sub mx mn)=false/\isZero lU=false/\∃E,Qj mx r g b (sub mx mn) ř E:=by
 refine Ö (λc f=>?_)<|wY P.hr;refine Ö (λj o=>?_)<|wY P.hg;refine Ö (λs v=>?_)<|wY P.hb;refine Ö (λnr z=>?_)<|lD H P.r P.hr h q;refine Ö (λx _=>?_)<|lD H P.g P.hg h q;refine Ö (λy _=>?_)<|lD H P.b P.hb h q;have pr:=P.hr;have t:=P.hg;have A:=P.hb;refine⟨z,by decide,?_⟩;by_cases a:rv r=rv mx
 .have n:=ã.sub (p:=104003) y x (by constructor;exact(Q4 0x39fa037c0f102721102790102a286f102722102793102a28610272061f06) j v (dq _ 16)<|dq _ 16;exact(Q4 0xfa0373090f102722102793102a286f102721102790102a2861f061027206) o s (dq _ 16)<|dq _ 16) (by decide) (by decide);exact⟨_,.inl ⟨a,rfl⟩,(sI (k:=(wg-wb:Â)) (Å (Ea ..)<|(show(16-(wb:Rat))/16-(16-(wg:Rat))/16=((wg:Rat)-wb)/16 by exact(Q5 0x2192f102724390102a286f102723102792102a286f102724102791102a286) (dq _ 16) (dq _ 16)<|dq _ 16)▸n) ((A2 0xd1d91027c31027006) A) ((A2 0x50271d0d931027006) t)<|S.r<|zb H P.r h P.hr a).2⟩
 .by_cases m:rv g=rv mx
  .have n:=ã.sub (p:=104003) (ã.add (p:=52001) ki nr (by constructor;exact(Q2 0x12178fa037c0f102720102791102a2861027006) f<|dq _ 16;exact(Q2 0xfa037121780f102720102791102a2860f06) c<|dq _ 16) (by decide)<|by decide) y (by constructor;exact(Q4 0x321789fa037c0f102721102790102a286f102722102793102a2861f061027206) f s (dq _ 16)<|dq _ 16;exact(Q4 0xfa03730217890f102722102793102a286f102721102790102a28610272061f06) c v (dq _ 16)<|dq _ 16) (by decide) (by decide);exact⟨_,.inr<|.inl ⟨a,m,rfl⟩,(sI (k:=(32+wb-wr:Â)) (Å (qR ..)<|Å (show((32:Â):Rat)=32 from rfl ..)<|(show 2+(16-(wr:Rat))/16-(16-(wb:Rat))/16=(32+(wb:Rat)-wr)/16 by exact(Q5 0x21217892f10272432027890102a286f102723102792102a286f102724102791102a286) (dq _ 16) (dq _ 16)<|dq _ 16)▸n) ((A2 0xd1d2027891027c31027006) pr) ((A2 0x50271d0d20278931027006) A)<|S.g<|zb H P.g h P.hg m).2⟩
  .have B:rv b=rv mx:=by rcases G with e|e|e<;>subst e;exact(Q2 18875030) a;exact(Q2 18875030) m;exact(Q1 2)
   exact⟨_,.inr<|.inr ⟨a,m,rfl⟩,(sI (k:=(64+wr-wg:Â)) (Å (qR ..)<|Å (show((64:Â):Rat)=64 from rfl ..)<|(show 4+(16-(wg:Rat))/16-(16-(wr:Rat))/16=(64+(wr:Rat)-wg)/16 by exact(Q5 0x21417892f10272434027890102a286f102723102792102a286f102724102791102a286) (dq _ 16) (dq _ 16)<|dq _ 16)▸(ã.sub (p:=104003) (ã.add (p:=52001) BQ x (by constructor;exact(Q2 0x14178fa037c0f102720102791102a2861027006) o<|dq _ 16;exact(Q2 0xfa037141780f102720102791102a2860f06) j<|dq _ 16) (by decide)<|by decide) nr (by constructor;exact(Q4 0x341789fa037c0f102721102790102a286f102722102793102a28610272061f06) c o (dq _ 16)<|dq _ 16;exact(Q4 0xfa03730417890f102722102793102a286f102721102790102a2861f061027206) f j (dq _ 16)<|dq _ 16) (by decide)<|by decide)) ((A2 0xd1d4027891027c31027006) t) ((A2 0x50271d0d40278931027006) pr)<|S.b<|zb H P.b h P.hb B).2⟩
def f7(F:Á)(s:Ã PS)(σ:St)(v:V):Prop:=∃τ,ċ F s σ=À (.ret v,τ)
def f7.of(h:ċ F ss σ=ċ F Ql ø)(k:f7 F Ql ø v):f7 F ss σ v:=k.elim λτ e=>⟨τ,h.trans e⟩
def GY(a:args.length=ar)(h:f7 F body ((args.map λv=>À (v,0))++replicate (n-args.length) Ä) v):ė F n ar body args=À (v,0):=h.elim λ_ e=>kH a e
def fP(σ:St)(c:args.length=ar)(h:(args.map λv=>À (v,0))++replicate (n-args.length) Ä=σ)(a:f7 F body σ v):ė F n ar body args=À (v,0):=GY c<|h▸a
def œ{s:Ã PS}(a:ß e σ=À (v,m,τ))(h:f7 F s (τ.ö i v m) w):f7 F (.î i e::s) σ w:=.of (aa a rfl) h
def ģ{p q s:Ã PS}(a:ß e σ=À (v,m,τ))(f:Ó v=À false)(h:ċ F q τ=À (.next,ρ))(c:f7 F s ρ w):f7 F (.Ŗ e p q::s) σ w:=.of (pG a f h rfl) c
def G7{p q s:Ã PS}(a:ß e σ=À (v,m,τ))(f:Ó v=À true)(h:ċ F p τ=À (.next,ρ))(c:f7 F s ρ w):f7 F (.Ŗ e p q::s) σ w:=.of (yj a f h rfl) c
def aP{p q s:Ã PS}(c:ß e σ=À (v,m,τ))(h:Ó v=À true)(a:f7 F p τ w):f7 F (.Ŗ e p q::s) σ w:=a.elim λ_ k=>⟨_,v7 c h k⟩
def bq{s:Ã PS}(h:ß e σ=À (v,m,τ)):f7 F (.ret e::s) σ v:=⟨_,mK h⟩
def yd{p q:Ã PS}(c:ß e σ=À (v,m,τ))(h:Ó v=À true)(a:ċ F p τ=À (.next,ρ)):cX F (.Ŗ e p q) σ=À (.next,ρ):=oW c h a
def xC{p q:Ã PS}(c:ß e σ=À (v,m,τ))(h:Ó v=À false)(a:ċ F q τ=À (.next,ρ)):cX F (.Ŗ e p q) σ=À (.next,ρ):=uY c h a
def rY(τ:St)(a:cX F s σ=À (.next,τ))(h:f7 F ss τ v):f7 F (s::ss) σ v:=.of (eh a rfl) h
def vt[Gq q](h:q):Ó (.bool<|decide q)=À true:=by simp[Ó,h]
def vf{q:Prop}[Gq q](h:¬q):Ó (.bool<|decide q)=À false:=by simp[Ó,h]
def LG(H:ϵ L D)(P:jj L D r g b wr wg wb)(S:qV ř wr wg wb):∃h s v,aR [.á r,.á g,.á b]=À (.ñ [.á h,.á s,.á v],0)/\qO h ř/\ã s (D/(L+D)) 2500/\ã v ((L+D)/64) 200:=by
 refine QP (Dp P.r.fin P.g.fin P.b.fin) λE J x A G R=>?_;refine QP (Dg P.r.fin P.g.fin P.b.fin) λK C B M W O=>?_;have a:=P.max H x A G R;have nn:=P.min H B M W O;obtain⟨j,f,Y,⟨hi,o⟩⟩:=EP H P S a nn x;have w:=H.l0;have t:=H.l1;have X:=H.d;have c:=H.h0;have k:rv K≠rv E:=by
  have:=a.lo;have:=nn.hi;unfold U at*;grind
 refine Ö (λm I=>?_) (ã.div (p:=2500) (1/2) 1 (ã.sub (p:=401) a nn ((Q4 0xfa0371090109fa037c07f4027221402a286f402723280402a2864027328063282127061f272062f06) w t c H.h1 (dq _ 64)<|dq _ 64) (by decide)<|by decide) a (by decide) ((Q4 0x100f402723281402a286f2172e021a286328212706) c (dq _ 2)<|dq _ 64) (by constructor;exact(Q4 0x39311ac0f4027220402a286f402721283402a2861282127061f27206) t c (dq _ 64)<|dq _ 64;exact(Q3 0x211a1290f4027201402a2860f06) w<|dq _ 64) (by decide) (by decide) (by decide)<|by decide);rw[show((L+D)/64-L/64)/((L+D)/64)=D/(L+D) by
   have:L+D≠0:=by exact(Q2 0xf10829108212706) c
   grind] at m
 refine⟨_,_,_,?_,o,m,a⟩;refine fP [À (.á r,0),À (.á g,0),À (.á b,0),Ä,Ä,Ä,Ä,Ä,Ä,Ä,Ä,Ä] rfl rfl ?_;refine œ (dJ (Ð (Ç rfl)<|Ð (Ç rfl)<|Ð (Ç rfl) Ą) J) ?_;dsimp[St.ö];refine œ (dJ (Ð (Ç rfl)<|Ð (Ç rfl)<|Ð (Ç rfl) Ą) C) ?_;dsimp[St.ö];refine œ (Û (Ç rfl) (Ç rfl) rfl) ?_;dsimp[St.ö];refine œ (Ç rfl) ?_;dsimp[St.ö];refine ģ (Ă (Ç rfl) (Ç rfl)<|Ĵ nn.fin a.fin) (vf k) ē ?_;refine œ (Û (Ç rfl) (Ç rfl)<|i7 I) ?_;dsimp[St.ö];refine œ (Û (Û (Ç rfl) (Ç rfl) rfl) (Ç rfl)<|i7 j) ?_;dsimp[St.ö];refine œ (Û (Û (Ç rfl) (Ç rfl) rfl) (Ç rfl)<|i7 j) ?_;dsimp[St.ö];refine œ (Û (Û (Ç rfl) (Ç rfl) rfl) (Ç rfl)<|i7 j) ?_;dsimp[St.ö];rcases hi with⟨q1,q2⟩|⟨q1,q2,q⟩|⟨q1,q2,q⟩
 .subst q2;refine G7 (Ă (Ç rfl) (Ç rfl)<|Ĵ P.r.fin a.fin) (vt q1) (aa (Û (Ç rfl) (Ç rfl) rfl) ē) ?_;dsimp[St.ö];exact œ (Û (Û (Ç rfl) ļ<|i7 f) ļ<|wA jw)<|bq<|dj<|Ð (Ç rfl)<|Ð (Ç rfl)<|Ð (Ç rfl) Ą
 .subst q;refine ģ (Ă (Ç rfl) (Ç rfl)<|Ĵ P.r.fin a.fin) (vf q1) (yj (Ă (Ç rfl) (Ç rfl)<|Ĵ P.g.fin a.fin) (vt q2) (aa (Û (Û ļ (Ç rfl) rfl) (Ç rfl) rfl) ē) ē) ?_;dsimp[St.ö];exact œ (Û (Û (Ç rfl) ļ<|i7 f) ļ<|wA jw)<|bq<|dj<|Ð (Ç rfl)<|Ð (Ç rfl)<|Ð (Ç rfl) Ą
 .subst q;refine ģ (Ă (Ç rfl) (Ç rfl)<|Ĵ P.r.fin a.fin) (vf q1) (pG (Ă (Ç rfl) (Ç rfl)<|Ĵ P.g.fin a.fin) (vf q2) (aa (Û (Û ļ (Ç rfl) rfl) (Ç rfl) rfl) ē) ē) ?_;dsimp[St.ö];exact œ (Û (Û (Ç rfl) ļ<|i7 f) ļ<|wA jw)<|bq<|dj<|Ð (Ç rfl)<|Ð (Ç rfl)<|Ð (Ç rfl) Ą
end
section
open PySem.Float64
variable{L D:Rat}{r g b:ā}{wr wg wb ř:Á}
structure q7(L D:Rat)(n:Á)(q:Rat):Prop where
 lo:0<=q
 hi:q<=1
 l:n<=64->q*n=D
 h:64<=n->q*(128-n)=D
def vT(H:ϵ L D){n:Á}(j:2*L+D=n)(h:n<=64):q7 L D n (D/(2*L+D)):=by
 have a:=H.l0;have f:=H.h0;have e:D/(2*L+D)*(2*L+D)=D:=cw<|(Q2 0xf1021a8291082127060f06) a f;generalize D/(2*L+D)=q at*;refine⟨?_,?_,λ_=>by rw[<-j];exact e,λm=>?_⟩
 .refine ŝ (c:=2*L+D) ?_<|(Q2 0x1021a8f11082127060f06) a f;rw[e];exact(Q2 81530993202304774) H.d
 .refine ŝ (c:=2*L+D) ?_<|(Q2 0x1021a8f11082127060f06) a f;rw[e];exact(Q2 72649685781712646) a
 .have:n=64:=((A1 0x40270204027064027006) h m)
  subst this;rw[show((64:Á):Rat)=64 from rfl] at*;rw[j] at e;grind
def u3(H:ϵ L D){n:Á}(j:2*L+D=n)(h:64<=n):q7 L D n (D/(128-(2*L+D))):=by
 have p:=H.l0;have f:=H.l1;have o:=H.h0;have a:=H.h1;have e:D/(128-(2*L+D))*(128-(2*L+D))=D:=cw<|(Q2 0xf1021a880279294027108061f27006) f a;generalize D/(128-(2*L+D))=q at*;refine⟨(ŝ (c:=128-(2*L+D)) (Å e<|(Q2 0x121a88027901a0021706) H.d)<|(Q2 0x1021a880279f14027108061f27006) f a),(ŝ (c:=128-(2*L+D)) (Å e<|(Q2 0x1021a88027911a10402710806) a)<|(Q2 0x1021a880279f14027108061f27006) f a),λm=>?_,λ_=>Đ j e⟩
 .have:n=64:=((A1 0x40270240270060402706) h m)
  subst this;rw[show((64:Á):Rat)=64 from rfl] at*;rw[j] at e;grind
def iI{n k:Á}(h:(n:Rat)<k+1):n<=k:=by
 have:(n:Rat)<((k+1:Á):Rat):=Å (fB ..) h;have:=ub.1 this;exact(A2 4309745686) this
def kY{n k:Á}(h:(k:Rat)<n+1):k<=n:=iI h
def Lb(H:ϵ L D)(P:jj L D r g b wr wg wb)(S:qV ř wr wg wb){n:Á}(y:2*L+D=n):∃h l s q,bh [.á r,.á g,.á b]=À (.ñ [.á h,.á l,.á s],0)/\qO h ř/\ã l ((2*L+D)/128) 402/\ã s q 3300/\q7 L D n q:=by
 refine QP (Dp P.r.fin P.g.fin P.b.fin) λm x1 W x3 x4 x5=>?_;refine QP (Dg P.r.fin P.g.fin P.b.fin) λa y1 y2 y3 y4 y5=>?_;have c:=P.max H W x3 x4 x5;have nn:=P.min H y2 y3 y4 y5;obtain⟨J,B,h0,⟨hi,M⟩⟩:=EP H P S c nn W;have v:=H.l0;have x:=H.l1;have a3:=H.d;have t:=H.h0;have j:=H.h1;have K:¬rv a=rv m:=by
  have:=c.lo;have:=nn.hi;unfold U at*;grind
 have X:=ã.add (p:=401) c nn (by grind) (by decide) (by decide);have n2:=ã.sub (p:=401) c nn ((Q4 0xfa0371090109fa037c07f4027221402a286f402723280402a2864027328063217062f06) v a3 j (dq _ 64)<|dq _ 64) (by decide) (by decide);refine Ö (λk zt=>?_) (ã.div (p:=402) 2 2 X ki rfl (by grind) (by constructor;exact(Q4 0x3821721ac0f4027220402a286f402721283402a2861282127062f06) v t (dq _ 64)<|dq _ 64;exact(Q4 0x21721a0380f4027220402a286f402721283402a2864027128061f27206) x j (dq _ 64)<|dq _ 64) (by decide) (by decide) (by decide)<|by decide);have k:=(show((L+D)/64+L/64)/2=(2*L+D)/128 by exact(Q6 0x302f4027242402a286f402725481402a286f802725421a83802a286f2172218021a286) (dq _ 2) (dq _ 128) (dq _ 64)<|dq _ 64)▸k;have l1:=k.lo;have l2:=k.hi;have hh:=cY.lo;have G:=cY.hi;have sh:∃s q,((rv (div (add m a) uS)<=rv cx/\s=div (sub m a) (add m a)/\isZero (add m a)=false)\/(¬rv (div (add m a) uS)<=rv cx/\s=div (sub m a) (sub (sub uS m) a)/\isZero (sub (sub uS m) a)=false))/\ã s q 3300/\q7 L D n q:=by
  by_cases w:rv (div (add m a) uS)<=rv cx
  .have o:n<=64:=iI (by refine Đ y<|Å (show((64:Á):Rat)=64 from rfl) ?_;unfold U at*;exact(Q7 0xe402784121a81f2172e521a286f20000000000b72e6620000000000ba286f802724121a83802a28620066601a582060661923a3906) l1 G w (dq _ 128) (dq _ 2199023255552)<|dq _ 2);refine Ö (λC R=>?_) (ã.div (p:=3300) (1/2) 1 n2 X (by decide) ((Q5 0x42830f4027214402a286f402720182402a286f2172e321a2860182127061f06) v t (dq _ 2) (dq _ 64)<|dq _ 64) (by constructor;exact(Q4 0x30930811ac0f402721280402a286128212706) t<|dq _ 64;exact(Q3 0x12811a1290f4027201402a2860f06) v<|dq _ 64) (by decide) (by decide) (by decide)<|by decide);have e:((L+D)/64-L/64)/((L+D)/64+L/64)=D/(2*L+D):=by
    have:2*L+D≠0:=(Q2 0xf1021a8291082127060f06) v t;grind
   exact⟨_,_,.inl ⟨w,rfl,R⟩,e▸C,vT H y o⟩
  .have m1:=ã.sub (p:=201) ki c ((Q3 0xfa03702179002179fa037c07f402722180402a286402721806218212706) t j<|dq _ 64) (by decide) (by decide);refine Ö (λC R=>?_) (ã.div (p:=3300) (1/2) 1 n2 (ã.sub (p:=402) m1 nn (by grind) (by decide)<|by decide) (by decide) ((Q5 0x212179900f4027242402a286f402723481402a286f2172e021a2864027348061f27406) x j (dq _ 2) (dq _ 64)<|dq _ 64) (by constructor;exact(Q3 0x129122179911ac0f4027201402a2861f27006) x<|dq _ 64;exact(Q4 0x302179911a3090f402721280402a286402712806) j<|dq _ 64) (by decide) (by decide) (by decide)<|by decide);have e:((L+D)/64-L/64)/(2-(L+D)/64-L/64)=D/(128-(2*L+D)):=by
    have:128-(2*L+D)≠0:=(Q2 0xf1021a880279294027108061f27006) x j;grind
   exact⟨_,_,.inr ⟨w,rfl,R⟩,e▸C,u3 H y<|kY<|by refine Đ y<|Å (show((64:Á):Rat)=64 from rfl) ?_;unfold U at*;exact(Q7 0xe66521a8840271f2172e321a286f20000000000b72e220000000000ba286f8027266521a81802a286400964201a390621923a18006) l2 hh w (dq _ 128) (dq _ 2199023255552)<|dq _ 2⟩
 refine LF sh λs q Y s2 s3=>?_;refine⟨_,_,s,q,?_,M,k,s2,s3⟩;refine fP [À (.á r,0),À (.á g,0),À (.á b,0),Ä,Ä,Ä,Ä,Ä,Ä,Ä,Ä,Ä,Ä] rfl rfl ?_;refine œ (dJ (Ð (Ç rfl)<|Ð (Ç rfl)<|Ð (Ç rfl) Ą) x1) ?_;dsimp[St.ö];refine œ (dJ (Ð (Ç rfl)<|Ð (Ç rfl)<|Ð (Ç rfl) Ą) y1) ?_;dsimp[St.ö];refine œ (Û (Ç rfl) (Ç rfl) rfl) ?_;dsimp[St.ö];refine œ (Û (Ç rfl) (Ç rfl) rfl) ?_;dsimp[St.ö];refine œ (Û (Ç rfl) ļ<|i7 zt) ?_;dsimp[St.ö];refine ģ (Ă (Ç rfl) (Ç rfl)<|Ĵ nn.fin c.fin) (vf K) ē ?_;refine rY [À (.á r,0),À (.á g,0),À (.á b,0),À (.á m,0),À (.á a,0),À (.á<|add m a,0),À (.á<|sub m a,0),À (.á<|div (add m a) uS,0),À (.á s,0),Ä,Ä,Ä,Ä] ?_ ?_
 .have f:=oU k.fin cY.fin;rcases Y with⟨I,E,O⟩|⟨I,E,O⟩
  .subst E;exact yd (Ă (Ç rfl) ļ f) (vt I)<|aa (Û (Ç rfl) (Ç rfl)<|i7 O) ē
  .subst E;exact xC (Ă (Ç rfl) ļ f) (vf I)<|aa (Û (Ç rfl) (Û (Û ļ (Ç rfl) rfl) (Ç rfl) rfl)<|i7 O) ē
 clear Y;refine œ (Û (Û (Ç rfl) (Ç rfl) rfl) (Ç rfl)<|i7 J) ?_;dsimp[St.ö];refine œ (Û (Û (Ç rfl) (Ç rfl) rfl) (Ç rfl)<|i7 J) ?_;dsimp[St.ö];refine œ (Û (Û (Ç rfl) (Ç rfl) rfl) (Ç rfl)<|i7 J) ?_;dsimp[St.ö];rcases hi with⟨q1,q2⟩|⟨q1,q2,A⟩|⟨q1,q2,A⟩
 .subst q2;refine G7 (Ă (Ç rfl) (Ç rfl)<|Ĵ P.r.fin c.fin) (vt q1) (aa (Û (Ç rfl) (Ç rfl) rfl) ē) ?_;dsimp[St.ö];exact œ (Û (Û (Ç rfl) ļ<|i7 B) ļ<|wA jw)<|bq<|dj<|Ð (Ç rfl)<|Ð (Ç rfl)<|Ð (Ç rfl) Ą
 .subst A;refine ģ (Ă (Ç rfl) (Ç rfl)<|Ĵ P.r.fin c.fin) (vf q1) (yj (Ă (Ç rfl) (Ç rfl)<|Ĵ P.g.fin c.fin) (vt q2) (aa (Û (Û ļ (Ç rfl) rfl) (Ç rfl) rfl) ē) ē) ?_;dsimp[St.ö];exact œ (Û (Û (Ç rfl) ļ<|i7 B) ļ<|wA jw)<|bq<|dj<|Ð (Ç rfl)<|Ð (Ç rfl)<|Ð (Ç rfl) Ą
 .subst A;refine ģ (Ă (Ç rfl) (Ç rfl)<|Ĵ P.r.fin c.fin) (vf q1) (pG (Ă (Ç rfl) (Ç rfl)<|Ĵ P.g.fin c.fin) (vf q2) (aa (Û (Û ļ (Ç rfl) rfl) (Ç rfl) rfl) ē) ē) ?_;dsimp[St.ö];exact œ (Û (Û (Ç rfl) ļ<|i7 B) ļ<|wA jw)<|bq<|dj<|Ð (Ç rfl)<|Ð (Ç rfl)<|Ð (Ç rfl) Ą
end
section
open PySem.Float64
variable{L D:Rat}{r g b:ā}{wr wg wb ř:Á}
def kI{k:Á}(s:Á)(h:ã x a n)(p:n<=400000)(o:a*s=k)(c:0<s/\s<=1024)(m:k<=2*s)(j:k<=1100):ħ [.á x,.int s]=À (.int k,0):=by
 refine I2 (h.mono p|>λh=>?_) c m j;have:a=(k:Rat)/s:=by
  refine Đ o ?_;have:(s:Rat)≠0:=(Q1 4029222678)<|ya.2 c.1
  grind
 exact Đ this h
def En{h:ā}(H:qO h ř):∃k:Á,ħ [.á h,.int 96]=À (.int k,0)/\k%96=ř/\k<=192:=by
 exact qJ H.near λk a c f=>⟨k,kI 96 f rfl (Å (show((96:Á):Rat)=96 from rfl)<|(Q2 0x10602b2f6027210602a286)<|dq _ 96) (by decide) (by assumption)<|ϴ ‹_› rfl,a,c⟩
def le_fi(hx:Ň x)(i:Â):Ĥ .LtE (.á x) (.int i)=À (decide<|rv x<=i):=by
 rw[show Ĥ .LtE (.á x) (.int i)=À (gL x i==À dZ||gL x i==À pA) from rfl,q0 hx,rd hx];congr 1;rw[bL];simp;grind
def le_if(hx:Ň x)(i:Â):Ĥ .LtE (.int i) (.á x)=À (decide<|(i:Rat)<=rv x):=by
 rw[show Ĥ .LtE (.int i) (.á x)=À (gL x i==À rT||gL x i==À pA) from rfl,q4 hx,rd hx];congr 1;rw[bL];simp;grind
def vD{a b:Â}(h:b≠0)(c:-1000000<=a/\a<=1000000):ü .Mod (.int a) (.int b)=À (.int<|a.fmod b,0):=ť h
def uA{h hi a:ā}{u v:Á}(H:qO h ř)(f:ã hi ((u:Rat)/64) 100000)(s:ã a ((v:Rat)/64) 100000)(x:u<=64)(w:v<=64)(c:σ[2]?=À (À (.á h,0)))(q:σ[4]?=À (À (.á hi,0)))(o:σ[5]?=À (À (.á a,0))):
  f7 50 [Rw] σ (.ñ [.int ř,.int u,.int v]):=by
 refine qJ (En H) λk t j p=>?_;refine bq<|dj<|Ð (sF (Ls ļ (Ç c) ((le_if H.fin 0).trans<|Ù À<|ix H.lo) ļ<|le_fi H.fin 1) (vt H.hi)<|Û (dJ (Ð (Ç c)<|Ð ļ Ą) t) ļ (m:=0) ?_)<|Ð (dJ (Ð (Ç q)<|Ð ļ Ą)<|kI 64 f rfl (Å (show((64:Á):Rat)=64 from rfl)<|(Q2 0x10402b2f4027210402a286)<|dq _ 64) (by decide) (ϴ ‹_› rfl)<|ϴ ‹_› rfl)<|Ð (dJ (Ð (Ç o)<|Ð ļ Ą)<|kI 64 s rfl (by exact Å (show((64:Á):Rat)=64 from rfl)<|(Q2 0x10402b2f4027210402a286)<|dq _ 64) (by decide) (by exact ϴ ‹_› rfl)<|by exact ϴ ‹_› rfl) Ą
 .refine Å (vD (by decide)<|by exact⟨(A1 958889220035),(A1 0xf4240570d3c027006) p⟩) (Å (Ę _<|by decide) ?_);congr 3;exact(ZM 0xd05f602726027040f3782d01602a8576f602726027118213602a82760126) j (dm _ 96)<|dz _ 96
def Ga:dX 1=true:=lL 1<|by decide
def LK:dX 2=true:=lL 2<|by decide
def Ko:ã (ofInt 1) 1 1:=bE 1<|by decide
def Rz:ã (ofInt 2) 2 1:=bE 2<|by decide
def sub_if:ü .Sub (.int 1) (.á x)=À (.á<|sub (ofInt 1) x,0):=by
 exact Å (show ü .Sub (.int 1) (.á x)=if dX 1 then À (.á<|sub (ofInt 1) x,0) else Ä from rfl)<|Å Ga rfl
def add_if:ü .Add (.int 1) (.á x)=À (.á<|add (ofInt 1) x,0):=by
 exact Å (show ü .Add (.int 1) (.á x)=if dX 1 then À (.á<|add (ofInt 1) x,0) else Ä from rfl)<|Å Ga rfl
def mul_if:ü .Mult (.int 2) (.á x)=À (.á<|mul (ofInt 2) x,0):=by
 exact Å (show ü .Mult (.int 2) (.á x)=if dX 2 then À (.á<|mul (ofInt 2) x,0) else Ä from rfl)<|Å LK rfl
def pT{σ:St}{r g b:ā}(h:σ[0]?=À (À (.ñ [.á r,.á g,.á b],0))):ď [.ä 0 (.c<|.int 0),.ä 0<|.c<|.int 1,.ä 0<|.c<|.int 2] σ=À ([.á r,.á g,.á b],σ):=
 Ð (nO h ļ h (by decide) rfl) (Ð (nO h ļ h (by decide) rfl)<|Ð (nO h ļ h (by decide) rfl) Ą)
def read0(H:ϵ L D)(P:jj L D r g b wr wg wb)(S:qV ř wr wg wb){u v:Á}(o:L+D=u)(y:L=v)(t:u<=64)(C:v<=64):bu [.ñ [.á r,.á g,.á b],.int 0]=À (.ñ [.int ř,.int u,.int v],0):=by
 refine JW (LG H P S) λh s x e m B hx=>?_;have j:=H.l0;have a:=H.h0;have q:D/(L+D)*(L+D)=D:=cw<|(Q2 0xf10829108212706) a;have k:0<=D/(L+D):=ŝ (c:=L+D) (Å q<|(Q2 26395258525446) H.d)<|(Q2 4660902940976902) a;have q1:D/(L+D)<=1:=ŝ (c:=L+D) (Å q<|(Q2 18146674085638) j)<|(Q2 4660902940976902) a;generalize D/(L+D)=w at*;have f:=ã.mul (p:=4000) 1 1 hx (ã.sub (p:=2502) Ko B ((Q1 0xfa0370e900e9fa037c07e0060f06) k q1) (by decide)<|by decide) (by constructor;exact(Q3 0xec0f402722180402a286218212706) a<|dq _ 64;exact(Q3 0xe00f402722180402a286402721806) H.h1<|dq _ 64) (by constructor;exact(Q1 62792982534) q1;exact(Q1 60373864198) k) (by
  refine Å (show(L+D)/64*(1-w)=L/64 by grind) ?_;constructor;exact(Q2 0x1fa037c0f4027201402a2860f06) j<|dq _ 64;exact(Q2 0xfa03710f4027201402a2861f27006) H.l1<|dq _ 64) rfl rfl (by decide) (by decide)
 rw[show(L+D)/64*(1-w)=L/64 by grind] at f;rw[o] at hx;rw[y] at f;exact fP [À (.ñ [.á r,.á g,.á b],0),À (.int 0,0),Ä,Ä,Ä,Ä,Ä] rfl rfl<|rY [À (.ñ [.á r,.á g,.á b],0),À (.int 0,0),À (.á h,0),À (.á s,0),À (.á x,0),À (.á<|mul x<|sub (ofInt 1) s,0),Ä] (yd (Ă (Ç rfl) ļ rfl) rfl<|Kr (dJ (pT rfl) e) rfl<|aa (Û (Ç rfl) (Û ļ (Ç rfl) sub_if) rfl) ē)<|uA m (hx.mono rfl) (f.mono rfl) t C rfl rfl rfl
def KX(H:ϵ L D)(P:jj L D r g b wr wg wb)(S:qV ř wr wg wb){n u v:Á}(o:2*L+D=n)(I:L+D=u)(G:L=v)(O:u<=64)(W:v<=64):bu [.ñ [.á r,.á g,.á b],.int 1]=À (.ñ [.int ř,.int u,.int v],0):=by
 obtain⟨h,l,s,q,e,hk,f,B,Q⟩:=Lb H P S o;have a3:=H.d;have A:=H.h0;have y:=H.h1;have k:=Q.lo;have q1:=Q.hi;rw[o] at f;have a:33<=(n:Rat)/\(n:Rat)<=95:=by constructor;exact(Q3 0x2212701082127060f0621021a826) o H.l0 A;exact(Q3 0x5f27204027108061f2700621021a826) o H.l1 y
 have t:=ã.mul (p:=900) 2 1 Rz f (by constructor<;>grind) (by constructor;exact(Q2 0xec0f8027210802a2865f271012127076) a<|dq _ 128;exact(Q2 0xe00f8027210802a2865f271012127076) a<|dq _ 128) (by constructor;exact(Q2 0x21afa037c0f8027210802a2865f271012127076) a<|dq _ 128;exact(Q2 0xfa037021a0f8027210802a2865f271012127076) a<|dq _ 128) rfl rfl (by decide) (by decide);have hh:∃x,((rv (mul (ofInt 2) l)<=((1:Â):Rat)/\x=mul l (add (ofInt 1) s))\/(¬rv (mul (ofInt 2) l)<=((1:Â):Rat)/\x=sub (add l s) (mul l s)))/\ã x ((L+D)/64) 20000:=by
  have X:=t.hi;by_cases c:rv (mul (ofInt 2) l)<=((1:Â):Rat)
  .have j:n<=64:=iI (by rw[show((1:Â):Rat)=1 from rfl] at c;refine Å (show((64:Á):Rat)=64 from rfl) ?_;unfold U at*;exact(Q4 0xe4027831f20000000000b72e120000000000ba286f8027230802a286e206213843a021a906) t.lo c (dq _ 128)<|dq _ 2199023255552);have M:=Q.l j;have m1:=ã.add (p:=3302) Ko B (by constructor;exact(Q1 0xe8fa037c00f06) k;exact(Q1 0xfa0370e80e006) q1) (by decide) (by decide);have w:(n:Rat)/128*(1+q)=(L+D)/64:=by grind
   have m2:=ã.mul (p:=20000) 1 2 f m1 (by constructor;exact(Q2 0xec0f8027210802a2865f271012127076) a<|dq _ 128;exact(Q2 0xe00f8027210802a2865f271012127076) a<|dq _ 128) (by constructor;exact(Q1 0xe8217c00f06) k;exact(Q1 2298050830342) q1) (by refine Å w ?_;constructor;exact(Q3 0xfa037c0f402722180402a286218212706) A<|dq _ 64;exact(Q3 0xfa03700f402722180402a286402721806) y<|dq _ 64) rfl rfl (by decide) (by decide);exact⟨_,.inl ⟨c,rfl⟩,(w▸m2)⟩
  .have M:=Q.h (kY<|by rw[show((1:Â):Rat)=1 from rfl] at c;refine Å (show((64:Á):Rat)=64 from rfl) ?_;unfold U at*;exact(Q4 0xe3840271f20000000000b72e220000000000ba286f8027231802a286e009623843a121a8006) X c (dq _ 128)<|dq _ 2199023255552);have z:=Ž (show(0:Rat)<=n by exact(Q1 0xf05f270002127076) a) k;have z2:=Ž (show(0:Rat)<=n by exact(Q1 0xf05f270002127076) a) (show(0:Rat)<=1-q by exact(Q1 3924877318) q1);have w:(n:Rat)/128+q-(n:Rat)/128*q=(L+D)/64:=by grind
   have K:=ã.sub (p:=20000) (ã.add (p:=3703) f B (by constructor;exact(Q3 0x108fa037c0f8027220802a2865f2720221270761f06) k a<|dq _ 128;exact(Q3 0xfa0372080f8027210802a2865f271012127076e206) q1 a<|dq _ 128) (by decide)<|by decide) (ã.mul (p:=3800) 1 1 f B (by constructor;exact(Q2 0xec0f8027210802a2865f271012127076) a<|dq _ 128;exact(Q2 0xe00f8027210802a2865f271012127076) a<|dq _ 128) (by constructor;exact(Q1 247467782) k;exact(Q1 234938374) q1) (by constructor<;>grind) rfl rfl (by decide)<|by decide) (by refine Å w ?_;constructor;exact(Q3 0xfa037c0f402722180402a286218212706) A<|dq _ 64;exact(Q3 0xfa03700f402722180402a286402721806) y<|dq _ 64) (by decide) (by decide);exact⟨_,.inr ⟨c,rfl⟩,(w▸K)⟩
 refine ì hh λx R hx=>?_;have J:=ã.sub (p:=30000) t hx (by constructor;exact(Q5 0x3121a9fa037c0f402722083402a286f8027241802a2865f274042127076402720806) y a (dq _ 128)<|dq _ 64;exact(Q5 0xfa0373121a90f402722083402a286f8027241802a2865f274042127076208212706) A a (dq _ 128)<|dq _ 64) (by decide) (by decide);refine fP [À (.ñ [.á r,.á g,.á b],0),À (.int 1,0),Ä,Ä,Ä,Ä,Ä] rfl rfl ?_;refine rY [À (.ñ [.á r,.á g,.á b],0),À (.int 1,0),À (.á h,0),À (.á s,0),À (.á x,0),À (.á<|sub (mul (ofInt 2) l) x,0),À (.á l,0)] ?_<|uA hk ((I▸hx).mono rfl) ((G▸(show 2*((n:Rat)/128)-(L+D)/64=L/64 by exact(Q8 0x3521a92f40272660402a286f4027246683402a286f80272765802a2861662624668267646621a826) o I G (dq _ 128) (dq _ 64)<|dq _ 64)▸J).mono rfl) O W rfl rfl rfl
 .refine xC (Ă (Ç rfl) ļ rfl) rfl ?_;refine Kr (dJ (pT rfl) e) (ρ:=[À (.ñ [.á r,.á g,.á b],0),À (.int 1,0),À (.á h,0),À (.á s,0),Ä,Ä,À (.á l,0)]) rfl ?_;refine aa (v:=.á x) (m:=0) (τ:=[À (.ñ [.á r,.á g,.á b],0),À (.int 1,0),À (.á h,0),À (.á s,0),Ä,Ä,À (.á l,0)]) ?_<|aa (Û (Û ļ (Ç rfl) mul_if) (Ç rfl) rfl) ē;rcases R with⟨C,E⟩|⟨C,E⟩
  .subst E;exact sF (Ă (Û ļ (Ç rfl) mul_if) ļ<|le_fi t.fin 1) (vt C)<|Û (Ç rfl) (Û ļ (Ç rfl) add_if) rfl
  .subst E;exact AK (Ă (Û ļ (Ç rfl) mul_if) ļ<|le_fi t.fin 1) (vf C)<|Û (Û (Ç rfl) (Ç rfl) rfl) (Û (Ç rfl) (Ç rfl) rfl) rfl
end
section
open PySem.Float64
noncomputable def hB(s l:Á):ā:=ofFrac false (s+96*l) 96
noncomputable def wt(c s:Á):Á:=min 16<|32-min ((s+96-c)%96) ((c+96-s)%96)
noncomputable def WE:Á->Á->Á×Á×Á
 |0,F=>(16,F,0)
 |1,F=>(16-F,16,0)
 |2,F=>(0,16,F)
 |3,F=>(0,16-F,16)
 |4,F=>(F,0,16)
 |_,F=>(16,0,16-F)
noncomputable def vU(x:ā)(k:Á)(d:Á):Ò:=isFinite x&&decide ((val x*d-(k*KN:Á)).natAbs<=d*2^1033)
noncomputable def bI(x:ā):Ï Â:=(t4 [.á x]).bind λr=>if r.2=0 then ϐ r.1 else Ä
noncomputable def F3(s l:Á):Ò:=(bI<|mul (hB s l) lU).any λi=>decide (0<=i)&&decide (i<20)&&
 (
  let f:=sub (mul (hB s l) lU) (ofInt i)
  let F:=((val f*16+KN/2)/KN).toNat
  decide (F<=16)&&vU f F 16&&WE (i.toNat%6) F==(wt 0 s,wt 32 s,wt 64 s))
noncomputable abbrev DR:ā:=4599676419421066581
noncomputable abbrev tE:ā:=4595172819793696085
noncomputable abbrev fg:ā:=4604180019048437077
noncomputable def FI(x:ā)(w:Á):Ò:=
 let y:=(divmod x ı).2
 if cmp y tE==À dZ then vU y w 96 else
 if cmp y cx==À dZ then w==16 else
 if cmp y fg==À dZ then vU (sub fg y) w 96 else w==0
noncomputable def xl(s l:Á):Ò:=FI (add (hB s l) DR) (wt 0 s)&&FI (hB s l) (wt 32 s)&&FI (sub (hB s l) DR) (wt 64 s)
noncomputable def C6(s:Á):Ò:=(wt 0 s !=16||((wt 32 s-wt 64 s:Â)%96==s))&&(wt 32 s !=16||((32+wt 64 s-wt 0 s:Â)%96==s))&&(wt 64 s !=16||((64+wt 0 s-wt 32 s:Â)%96==s))&&
 (wt 0 s==16||wt 32 s==16||wt 64 s==16)&&(wt 0 s==0||wt 32 s==0||wt 64 s==0)
noncomputable def allB(n:Á)(f:Á->Ò):Ò:=(List.range n).all f
def allB_of(h:allB n f=true)(hi:i<n):f i=true:=by
 unfold allB at h;rw[ę] at h;exact h i<|gh.2 hi
def JL:allB 96 (λs=>allB 3 λl=>F3 s l)=true:=by decide
def I4:allB 96 (λs=>allB 3 λl=>xl s l)=true:=by decide
def Iq:allB 96 C6=true:=by decide
end
set_option tactic.hygienic true
section
open PySem.Float64
variable{L D:Rat}{s l:Á}
def oV(h:vU x k d=true)(hd:0<d):ã x ((k:Rat)/d) 1:=by
 unfold vU at h;rw[è,ϻ] at h;obtain⟨b,g⟩:=h;have K:=ώ;have a:(0:Rat)<d:=ya.2 hd;have e:(k:Rat)/d*d=k:=cw<|(Q1 4029222678) a;have f:((val x*d-(k*KN:Á):Â):Rat)<=(((d*2^1033:Á):Â):Rat):=mJ.2 (show val x*d-(k*KN:Á)<=(d*2^1033:Á) by omega+splitNatSub);have j:((-((d*2^1033:Á):Â):Â):Rat)<=((val x*d-(k*KN:Á):Â):Rat):=mJ.2 (show -((d*2^1033:Á):Â)<=val x*d-(k*KN:Á) by omega+splitNatSub);have p:((2^1033:Á):Rat)=U*KK:=by
  have:=Ù (λn:Á=>(n:Rat)) zI;simp only[cy] at this;unfold KK U;refine Đ this ?_;generalize((2^1033:Á):Rat)=z;have:((2199023255552:Á):Rat)=2199023255552:=rfl;exact(Q2 0x12f20000000000b72120000000000bb11a020000000000ba286)<|dl _ 1 2199023255552
 rw[pD] at j;rw[tS,gy,ń,ń,ń,cy,cy,p,show((KN:Á):Rat)=KK from rfl,<-Ř x] at f j;refine⟨wN b,?_,?_⟩
 .refine ŝ (c:=(d:Rat)) ?_ a;refine ŝ (c:=KK) ?_ K;refine Å (show((k:Rat)/d-1*U)*d=k-U*d by refine Å (tU ..)<|Å (nH ..)<|Å (e ..) ?_;grind) ?_;grind
 .refine ŝ (c:=(d:Rat)) ?_ a;refine ŝ (c:=KK) ?_ K;refine Å (nH ..)<|Å (e ..) ?_;grind
def qc{x y:Á}(a:0<y)(h:x<4096*y):ü .Div (.int x) (.int y)=À (.á<|ofFrac false x y,0)/\ã (ofFrac false x y) ((x:Rat)/y) 1:=by
 have n:=vB a h;refine⟨?_,n⟩;have e:(decide ((x:Â)<0) !=decide ((y:Â)<0))=false:=by rw[mE (by exact(A1 986441)),mE<|by exact(A1 986441)];rfl
 refine tW n.fin λ_ _ _ b=>?_;rw[show ü .Div (.int x) (.int y)=if(y:Â)≠0/\¬fI (tX (decide ((x:Â)<0) !=decide ((y:Â)<0)) (x:Â).natAbs (y:Â).natAbs)=true then À (.á<|tX (decide ((x:Â)<0) !=decide ((y:Â)<0)) (x:Â).natAbs (y:Â).natAbs,0) else Ä from rfl,e,rp,rp,ť ⟨by exact(A1 64648449814) a,by unfold isInf;rw[b];simp⟩]
def zJ(hx:ã x a n)(h:n*U<a):Ĥ .Eq (.á x) (.á 0)=À false:=by
 have b:ã 0 ((0:Â):Rat) 0:=aaf (k:=0) (by decide) (by decide);refine Å (Ĵ hx.fin b.fin) ?_;have g:=b.lo;have c:=b.hi;rw[show((0:Â):Rat)=0 from rfl] at g c;rw[mE];exact(Q5 0x2029014906301af82064116) h c hx.lo
def b3(t:Á×Á×Á)(L D:Rat)(r g b:ā):Prop:=ã r (ch L D t.1) 200/\ã g (ch L D t.2.1) 200/\ã b (ch L D t.2.2) 200
def sub_fi(h:-4096<i/\i<4096):ü .Sub (.á x) (.int i)=À (.á<|sub x<|ofInt i,0):=by
 exact Å (show ü .Sub (.á x) (.int i)=if dX i then À (.á<|sub x<|ofInt i,0) else Ä from rfl)<|Å (lL i h) rfl
def MH(h:F<=16):((16-F:Á):Rat)=16-F:=by
 have:((16-F+F:Á):Rat)=16:=Å (F1 h) rfl;rw[fB] at this;exact(Q2 0x11027902102710826) this
def Je(H:ϵ L D)(hx:ã x (D/(L+D)) 1)(G:ã y ((L+D)/64) 1)(t:F3 s l=true):∃r g b,Ϯ [.á (hB s l),.á x,.á y]=À (.ñ [.á r,.á g,.á b],0)/\b3 (wt 0 s,wt 32 s,wt 64 s) L D r g b:=by
 obtain⟨i,hi,t⟩:=(lg ..).1 t
 . replace hi:t4 [.á (mul (hB s l) lU)]=À (.int i,0):=ð (x:=t4 _) hi λ⟨r,m⟩e h=>Ϲ h λz h=>by cases z;exact Ú h▸e
   simp only[è,ϻ,ka] at t;obtain⟨⟨h,A⟩,⟨K,hn⟩,Y⟩:=t;generalize((val (sub (mul (hB s l) lU)<|ofInt i)*16+KN/2)/KN).toNat=F at*;have J:=oV hn (by decide);rw[show((16:Á):Rat)=16 from rfl] at J;refine Đ Y ?_;generalize hf:sub (mul (hB s l) lU) (ofInt i)=f at*;obtain⟨I,w1⟩:=wY K;have R:=H.l0;have X:=H.l1;have a:=H.h0;have C:=H.h1;have q:D/(L+D)*(L+D)=D:=cw<|(Q2 0xf10829108212706) a;have o:0<D/(L+D):=aK (c:=L+D) (Å q<|(Q2 26395275302662) H.d)<|(Q2 4660834221500166) a;have q1:D/(L+D)<=1:=ŝ (c:=L+D) (Å q<|(Q2 18146674085638) R)<|(Q2 4660902940976902) a;have q2:1/64<D/(L+D):=aK (c:=L+D) (Å q<|(Q3 0x201f4027221811a0402a2862182127061f27106) X a<|dl _ 1 64)<|(Q2 4660834221500166) a;generalize D/(L+D)=w at*;have z1:=Ž (dx o) I;have z2:=Ž (dx o) (show(0:Rat)<=16-(F:Rat) by exact(Q1 4547163497590790) w1);have P:(L+D)/64*(1-w)=ch L D 0:=by unfold ch;refine Å (show((0:Á):Rat)=0 from rfl) ?_;grind
   have b0:=gR H (w:=0) (by exact Ϫ _);have m:=ã.mul (p:=200) 1 1 G (ã.sub (p:=2) gV hx ((Q1 0xfa0370e900e9fa037c07e0060f16) o q1) (by decide)<|by decide) (by constructor;exact(Q3 0xec0f402722180402a286218212706) a<|dq _ 64;exact(Q3 0xe00f402722180402a286402721806) C<|dq _ 64) (by constructor;exact(Q1 62792982534) q1;exact(Q1 60373864214) o) (by refine Å P ?_;constructor<;>grind) rfl rfl (by decide) (by decide);rw[P] at m;have O:(L+D)/64*(1-w*(F/16))=ch L D (16-F):=by unfold ch;refine Å (MH K) ?_;grind
   have M:=gR H (w:=16-F) (by exact(A1 1109981669264));have B:=ã.mul (p:=200) 1 1 G (ã.sub (p:=6) gV (ã.mul (p:=5) 1 1 hx J (by constructor;exact(Q1 247467798) o;exact(Q1 234938374) q1) (by constructor;exact(Q2 0x1ec0f1027201102a2860f06) I<|dq _ 16;exact(Q2 0xe10f1027201102a2861027006) w1<|dq _ 16) (by constructor<;>grind) rfl rfl (by decide)<|by decide) (by constructor<;>grind) (by decide)<|by decide) (by constructor;exact(Q3 0xec0f402722180402a286218212706) a<|dq _ 64;exact(Q3 0xe00f402722180402a286402721806) C<|dq _ 64) (by constructor<;>grind) (by refine Å O ?_;constructor;exact(Q4 0x2fa037c0f4027201402a286320210760f06) R M<|dq _ 64;exact(Q5 0xfa03720f402723180402a28602024076402731806) C M<|dq _ 64) rfl rfl (by decide) (by decide);rw[O] at B;have S:(L+D)/64*(1-w*(1-F/16))=ch L D F:=by unfold ch;grind
   have b2:=gR H K;have E:=ã.mul (p:=200) 1 1 G (ã.sub (p:=6) gV (ã.mul (p:=5) 1 1 hx (ã.sub (p:=2) gV J ((Q2 0xfa0370e900e9fa037c07f1027210102a28610271061f06) I w1<|dq _ 16) (by decide)<|by decide) (by constructor;exact(Q1 247467798) o;exact(Q1 234938374) q1) (by constructor;exact(Q2 0x1e9ec0f1027201102a2861027006) w1<|dq _ 16;exact(Q2 0xe1e90f1027201102a2860f06) I<|dq _ 16) (by constructor<;>grind) rfl rfl (by decide)<|by decide) (by constructor<;>grind) (by decide)<|by decide) (by constructor;exact(Q3 0xec0f402722180402a286218212706) a<|dq _ 64;exact(Q3 0xe00f402722180402a286402721806) C<|dq _ 64) (by constructor<;>grind) (by refine Å S ?_;constructor<;>grind) rfl rfl (by decide) (by decide);rw[S] at E;have v:ã y (ch L D 16) 200:=by
    have:ch L D 16=(L+D)/64:=by unfold ch;exact Å (show((16:Á):Rat)=16 from rfl)<|(Q4 0x12f402722380402a286f4003722102b3102a814003a286) (dq _ 1024)<|dq _ 64
    exact Å this<|G.mono rfl
   have im:ü .Mod (.int i) (.int 6)=À (.int ((i.toNat%6:Á):Â),0):=by
    refine Å (vD (by decide)<|by exact⟨(Ad 0xf424057c30f36) h,(Ad 0xf424057031427046) A⟩) (Å (Ę _<|by decide) ?_);congr 3;exact(UM 0xd25f12f04701d50f3786f617261701810261a8276f6172617242f37802161a85760f36) h (dz _ 6) (dm _ 6)<|iY _
   have W:i.toNat%6<6:=ϊ _ (by decide);generalize i.toNat%6=j at*;have run:∀r g b:ā,f7 50 [.Ŗ (.cmp .Eq (.Æ 3)<|.c<|.int 0)
  [.ret (.ñ [(.Æ 2),(.Æ 7),(.Æ 5)])]
  [],.Ŗ (.cmp .Eq (.Æ 3)<|.c<|.int 1)
  [.ret (.ñ [(.Æ 6),(.Æ 2),(.Æ 5)])]
  [],.Ŗ (.cmp .Eq (.Æ 3)<|.c<|.int 2)
  [.ret (.ñ [(.Æ 5),(.Æ 2),(.Æ 7)])]
  [],.Ŗ (.cmp .Eq (.Æ 3)<|.c<|.int 3)
  [.ret (.ñ [(.Æ 5),(.Æ 6),(.Æ 2)])]
  [],.Ŗ (.cmp .Eq (.Æ 3)<|.c<|.int 4)
  [.ret (.ñ [(.Æ 7),(.Æ 5),(.Æ 2)])]
  [],.Ŗ (.cmp .Eq (.Æ 3)<|.c<|.int 5)
  [.ret (.ñ [(.Æ 2),(.Æ 5),(.Æ 6)])]
  []] [À (.á<|hB s l,0),À (.á x,0),À (.á y,0),À (.int (j:Â),0),À (.á f,0),À (.á<|mul y<|sub ı x,0),À (.á<|mul y<|sub ı<|mul x f,0),À (.á<|mul y<|sub ı<|mul x<|sub ı f,0)] (.ñ [.á r,.á g,.á b])->Ϯ [.á (hB s l),.á x,.á y]=À (.ñ [.á r,.á g,.á b],0):=by
    intro r g b k;refine fP [À (.á<|hB s l,0),À (.á x,0),À (.á y,0),Ä,Ä,Ä,Ä,Ä] rfl rfl ?_;refine ģ (Ă (Ç rfl) ļ<|zJ hx<|by unfold U;exact(Q3 0x2011a1f20000000000b72e020000000000ba286f40272e1402a2862116) q2 (dq _ 64)<|dq _ 2199023255552) rfl ē ?_;refine œ (dJ (Ð (Û (Ç rfl) ļ rfl) Ą) hi) ?_;dsimp[St.ö];refine œ (Û (Û (Ç rfl) ļ rfl) (Ç rfl)<|sub_fi<|by exact⟨(Ad 17593390075702) h,(Ad 72062474215649350) A⟩) ?_;refine Å hf ?_;dsimp[St.ö];refine œ (Û (Ç rfl) (Û ļ (Ç rfl) rfl) rfl) ?_;dsimp[St.ö];refine œ (Û (Ç rfl) (Û ļ (Û (Ç rfl) (Ç rfl) rfl) rfl) rfl) ?_;dsimp[St.ö];refine œ (Û (Ç rfl) (Û ļ (Û (Ç rfl) (Û ļ (Ç rfl) rfl) rfl) rfl) rfl) ?_;dsimp[St.ö];refine œ (Û (Ç rfl) ļ im) ?_;dsimp[St.ö];exact k
   obtain rfl|rfl|rfl|rfl|rfl|rfl:j=0\/j=1\/j=2\/j=3\/j=4\/j=5:=((A1 0x51702417028317028217028e028f028617016) W)
   .exact⟨_,_,_,run _ _ _<|aP (Ă (Ç rfl) ļ rfl) rfl<|bq<|dj<|Ð (Ç rfl)<|Ð (Ç rfl)<|Ð (Ç rfl) Ą,v,E,m⟩
   .exact⟨_,_,_,run _ _ _<|ģ (Ă (Ç rfl) ļ rfl) rfl ē<|aP (Ă (Ç rfl) ļ rfl) rfl<|bq<|dj<|Ð (Ç rfl)<|Ð (Ç rfl)<|Ð (Ç rfl) Ą,B,v,m⟩
   .exact⟨_,_,_,run _ _ _<|ģ (Ă (Ç rfl) ļ rfl) rfl ē<|ģ (Ă (Ç rfl) ļ rfl) rfl ē<|aP (Ă (Ç rfl) ļ rfl) rfl<|bq<|dj<|Ð (Ç rfl)<|Ð (Ç rfl)<|Ð (Ç rfl) Ą,m,v,E⟩
   .exact⟨_,_,_,run _ _ _<|ģ (Ă (Ç rfl) ļ rfl) rfl ē<|ģ (Ă (Ç rfl) ļ rfl) rfl ē<|ģ (Ă (Ç rfl) ļ rfl) rfl ē<|aP (Ă (Ç rfl) ļ rfl) rfl<|bq<|dj<|Ð (Ç rfl)<|Ð (Ç rfl)<|Ð (Ç rfl) Ą,m,B,v⟩
   .exact⟨_,_,_,run _ _ _<|ģ (Ă (Ç rfl) ļ rfl) rfl ē<|ģ (Ă (Ç rfl) ļ rfl) rfl ē<|ģ (Ă (Ç rfl) ļ rfl) rfl ē<|ģ (Ă (Ç rfl) ļ rfl) rfl ē<|aP (Ă (Ç rfl) ļ rfl) rfl<|bq<|dj<|Ð (Ç rfl)<|Ð (Ç rfl)<|Ð (Ç rfl) Ą,E,m,v⟩
   .exact⟨_,_,_,run _ _ _<|ģ (Ă (Ç rfl) ļ rfl) rfl ē<|ģ (Ă (Ç rfl) ļ rfl) rfl ē<|ģ (Ă (Ç rfl) ļ rfl) rfl ē<|ģ (Ă (Ç rfl) ļ rfl) rfl ē<|ģ (Ă (Ç rfl) ļ rfl) rfl ē<|aP (Ă (Ç rfl) ļ rfl) rfl<|bq<|dj<|Ð (Ç rfl)<|Ð (Ç rfl)<|Ð (Ç rfl) Ą,v,m,B⟩
def L4:(range 96).all (λs=>(wt 0 s==16||(wt 32 s==16||wt 64 s==16))&&(wt 0 s==0||(wt 32 s==0||wt 64 s==0)))=true:=by decide
def xd(f:s<96):qV s (wt 0 s) (wt 32 s) (wt 64 s)/\(wt 0 s=16\/wt 32 s=16\/wt 64 s=16)/\(wt 0 s=0\/wt 32 s=0\/wt 64 s=0):=by
 have h:=allB_of Iq f;unfold C6 at h;simp[Wq] at h;obtain⟨⟨⟨⟨b,c⟩,a⟩,j⟩,g⟩:=h;have w:=ę.1 L4 s<|gh.2 f;simp only[è,zg,ka] at w;refine⟨⟨λe=>?_,λe=>?_,λe=>?_⟩,w.1,w.2⟩
 .rcases b with b|b
  .exact ó e b
  .exact b
 .rcases c with c|c
  .exact ó e c
  .exact c
 .rcases a with a|a
  .exact ó e a
  .exact a
def vE(a:s<96)(h:b3 (wt 0 s,wt 32 s,wt 64 s) L D r g b):jj L D r g b (wt 0 s) (wt 32 s) (wt 64 s):=
 ⟨h.1,h.2.1,h.2.2,gY _ _,gY _ _,gY _ _,(xd a).2.1,(xd a).2.2⟩
def Lu(H:ϵ L D){m1 m2 x:ā}(o:ã m1 (L/64) 20)(I:ã m2 ((L+D)/64) 20)(C:w<=16)(c:FI x w=true):∃z,Km [.á m1,.á m2,.á x]=À (.á z,0)/\ã z (ch L D w) 200:=by
 unfold FI at c;have A:=H.l0;have t:=H.l1;have B:=H.d;have v:=H.h0;have q:=H.h1;refine Ö (λG w1=>?_)<|wY C;have M:=gR H C;have P:=Ž (show(0:Rat)<=D by exact(Q1 4026668806) B) G;have O:=Ž (show(0:Rat)<=D by exact(Q1 4026668806) B) (show(0:Rat)<=16-(w:Rat) by exact(Q1 4547163497590790) w1);have a:∀y:ā,ã y ((w:Rat)/96) 1->ã (add m1<|mul (mul (sub m2 m1) y) lU) (ch L D w) 200:=by
  intro y K;have E:=ã.add (p:=200) o (ã.mul (p:=62) 1 6 (ã.mul (p:=10) 1 (1/6) (ã.sub (p:=42) I o (by constructor;exact(Q4 0x39fa037c0f4027220402a286f402721283402a2861282127061f27206) t v (dq _ 64)<|dq _ 64;exact(Q4 0xfa0370390f4027220402a286f402721283402a2864027128062f06) A q (dq _ 64)<|dq _ 64) (by decide)<|by decide) K (by constructor;exact(Q4 0x39ec0f4027220402a286f402721283402a2861282127061f27206) t v (dq _ 64)<|dq _ 64;exact(Q4 0xe0390f4027220402a286f402721283402a2864027128062f06) A q (dq _ 64)<|dq _ 64) (by constructor;exact(Q3 0x21c0f6027202602a286f6172e161a2860f06) G (dq _ 6)<|dq _ 96;exact(Q3 0x210f6172e261a286f6027201602a2861027006) w1 (dq _ 96)<|dq _ 6) (by constructor<;>grind) rfl rfl (by decide)<|by decide) vd (by constructor<;>grind) (by decide) (by constructor<;>grind) rfl rfl (by decide)<|by decide) (by constructor<;>grind) (by decide) (by decide);have e:L/64+((L+D)/64-L/64)*(w/96)*6=ch L D w:=by unfold ch;grind
  rw[e] at E;exact E
 have b:Ĥ .Lt (.á (divmod x ı).2) (.á tE)=À (cmp (divmod x ı).2 tE==À dZ):=rfl;have f:Ĥ .Lt (.á (divmod x ı).2) (.á cx)=À (cmp (divmod x ı).2 cx==À dZ):=rfl;have g:Ĥ .Lt (.á (divmod x ı).2) (.á fg)=À (cmp (divmod x ı).2 fg==À dZ):=rfl;have run:∀z:ā,f7 50 (RW.drop 1) [À (.á m1,0),À (.á m2,0),À (.á (divmod x ı).2,0)] (.á z)->Km [.á m1,.á m2,.á x]=À (.á z,0):=by
  intro z k;refine fP [À (.á m1,0),À (.á m2,0),À (.á x,0)] rfl rfl ?_;refine œ (Û (Ç rfl) ļ<|wA jw) ?_;dsimp[St.ö];exact k
 generalize(divmod x ı).2=y at*;by_cases m:(cmp y tE==À dZ)=true
 .rw[ť m] at c;rw[m] at b;exact⟨_,run _<|aP (Ă (Ç rfl) ļ b) rfl<|bq<|Û (Ç rfl) (Û (Û (Û (Ç rfl) (Ç rfl) rfl) (Ç rfl) rfl) ļ rfl) rfl,a _<|oV c<|by decide⟩
 .rw[È m] at c;rw[zx _|>.mp m] at b;by_cases h:(cmp y cx==À dZ)=true
  .rw[ť h,ka] at c;rw[h] at f;subst c;refine⟨_,run _<|ģ (Ă (Ç rfl) ļ b) rfl ē<|aP (Ă (Ç rfl) ļ f) rfl<|bq<|Ç rfl,?_⟩;have:ch L D 16=(L+D)/64:=by unfold ch;exact Å (show((16:Á):Rat)=16 from rfl) ((Q4 0x12f402722380402a286f4003722102b3102a814003a286) (dq _ 1024)<|dq _ 64)
   exact Å this<|I.mono rfl
  .rw[È h] at c;rw[zx _|>.mp h] at f;by_cases j:(cmp y fg==À dZ)=true
   .rw[ť j] at c;rw[j] at g;exact⟨_,run _<|ģ (Ă (Ç rfl) ļ b) rfl ē<|ģ (Ă (Ç rfl) ļ f) rfl ē<|aP (Ă (Ç rfl) ļ g) rfl<|bq<|Û (Ç rfl) (Û (Û (Û (Ç rfl) (Ç rfl) rfl) (Û ļ (Ç rfl) rfl) rfl) ļ rfl) rfl,a _<|oV c<|by decide⟩
   .rw[È j,ka] at c;rw[zx _|>.mp j] at g;subst c;refine⟨_,run _<|ģ (Ă (Ç rfl) ļ b) rfl ē<|ģ (Ă (Ç rfl) ļ f) rfl ē<|ģ (Ă (Ç rfl) ļ g) rfl ē<|bq<|Ç rfl,?_⟩;have:ch L D 0=L/64:=by unfold ch;exact Å (show((0:Á):Rat)=0 from rfl) ((Q4 0x12f4027220402a286f400372301b2102a814003a286) (dq _ 1024)<|dq _ 64)
    exact Å this<|o.mono rfl
def JJ(H:ϵ L D){n:Á}(J:2*L+D=n)(Q:q7 L D n q)(k:ã y ((n:Rat)/128) 1)(hx:ã x q 1)(I:xl s l=true):∃r g b,aW [.á (hB s l),.á y,.á x]=À (.ñ [.á r,.á g,.á b],0)/\b3 (wt 0 s,wt 32 s,wt 64 s) L D r g b:=by
 unfold xl at I;simp at I;refine Ö ?_ I;rintro⟨c1,Y⟩ c3;have O:=H.d;have C:=H.h0;have A:=H.h1;have G:=Q.lo;have q1:=Q.hi;have a:33<=(n:Rat)/\(n:Rat)<=95:=by constructor;exact(Q3 0x2212701082127060f0621021a826) J H.l0 C;exact(Q3 0x5f27204027108061f2700621021a826) J H.l1 A
 have M:1/64<=q:=by
  by_cases h:n<=64
  .have e:=Q.l h;exact ŝ (c:=(n:Rat)) (Å e<|(Q3 0x100f40272211a0402a2865f272022127076121706) O a<|dl _ 1 64)<|(Q1 0xf15f270002127076) a
  .exact ŝ (c:=128-(n:Rat)) (Å (Q.h<|(A1 0x4027040270096) h)<|(Q3 0x10f4027228027911a1402a2865f272022127076021706) O a<|dl _ 1 64)<|(Q1 0x80279f15f270002127076) a
 have w:=cY.lo;have t:=cY.hi;have W:∃m2,((rv y<=rv cx/\m2=mul y (add ı x))\/(¬rv y<=rv cx/\m2=sub (add y x) (mul y x)))/\ã m2 ((L+D)/64) 10:=by
  by_cases B:rv y<=rv cx
  .have f:n<=64:=iI (by refine Å (show((64:Á):Rat)=64 from rfl) ?_;unfold U at*;exact(Q6 0xe4027811f2172e421a286f20000000000b72e520000000000ba286f8027212802a2860306501a480063511a2906) k.lo t B (dq _ 128) (dq _ 2199023255552)<|dq _ 2);have qe:=Q.l f;have m1:=ã.add (p:=2) gV hx (by constructor;exact(Q1 0xe8fa037c00f06) G;exact(Q1 0xfa0370e80e006) q1) (by decide) (by decide);have o:(n:Rat)/128*(1+q)=(L+D)/64:=by grind
   have m2:=ã.mul (p:=10) 1 2 k m1 (by constructor;exact(Q2 0xec0f8027210802a2865f271012127076) a<|dq _ 128;exact(Q2 0xe00f8027210802a2865f271012127076) a<|dq _ 128) (by constructor;exact(Q1 0xe8217c00f06) G;exact(Q1 2298050830342) q1) (by refine Å o ?_;constructor;exact(Q3 0xfa037c0f402722180402a286218212706) C<|dq _ 64;exact(Q3 0xfa03700f402722180402a286402721806) A<|dq _ 64) rfl rfl (by decide) (by decide);rw[o] at m2;exact⟨_,.inl ⟨B,rfl⟩,m2⟩
  .have f:64<=n:=kY (by refine Å (show((64:Á):Rat)=64 from rfl) ?_;unfold U at*;exact(Q6 0xe5840271f2172e321a286f20000000000b72e220000000000ba286f8027251802a286400964201a3906211a18006) k.hi w B (dq _ 128) (dq _ 2199023255552)<|dq _ 2);have qe:=Q.h f;have z:=Ž (show(0:Rat)<=n by exact(Q1 0xf05f270002127076) a) G;have z2:=Ž (show(0:Rat)<=n by exact(Q1 0xf05f270002127076) a) (show(0:Rat)<=1-q by exact(Q1 3924877318) q1);have m2:=ã.mul (p:=4) 1 1 k hx (by constructor;exact(Q2 0xec0f8027210802a2865f271012127076) a<|dq _ 128;exact(Q2 0xe00f8027210802a2865f271012127076) a<|dq _ 128) (by constructor;exact(Q1 247467782) G;exact(Q1 234938374) q1) (by constructor<;>grind) rfl rfl (by decide) (by decide);have o:(n:Rat)/128+q-(n:Rat)/128*q=(L+D)/64:=by grind
   have P:=ã.sub (p:=10) (ã.add (p:=3) k hx (by constructor;exact(Q4 0x18fa037c0f8027221802a286f40272e3402a28603065f272022127076) a M (dq _ 64)<|dq _ 128;exact(Q3 0xfa0372080f8027210802a2865f271012127076e206) q1 a<|dq _ 128) (by decide)<|by decide) m2 (by refine Å o ?_;constructor;exact(Q3 0xfa037c0f402722180402a286218212706) C<|dq _ 64;exact(Q3 0xfa03700f402722180402a286402721806) A<|dq _ 64) (by decide) (by decide);rw[o] at P;exact⟨_,.inr ⟨B,rfl⟩,P⟩
 refine ì W λm2 hm v=>?_;have E:=ã.sub (p:=20) (ã.mul (p:=5) 2 1 ki k (by constructor<;>grind) (by constructor;exact(Q2 0xec0f8027210802a2865f271012127076) a<|dq _ 128;exact(Q2 0xe00f8027210802a2865f271012127076) a<|dq _ 128) (by constructor;exact(Q2 0x21afa037c0f8027210802a2865f271012127076) a<|dq _ 128;exact(Q2 0xfa037021a0f8027210802a2865f271012127076) a<|dq _ 128) rfl rfl (by decide)<|by decide) v (by constructor;exact(Q5 0x3121a9fa037c0f402722083402a286f8027241802a2865f274042127076402720806) A a (dq _ 128)<|dq _ 64;exact(Q5 0xfa0373121a90f402722083402a286f8027241802a2865f274042127076208212706) C a (dq _ 128)<|dq _ 64) (by decide) (by decide);rw[show 2*((n:Rat)/128)-(L+D)/64=L/64 by exact(Q6 0x15021a92f4027241402a286f402723485402a286f8027220802a28623421a826) J (dq _ 128) (dq _ 64)<|dq _ 64] at E;have K:=v.mono (m:=20) rfl;refine ì (Lu H E K (gY _ _) c1) λr S r2=>?_;refine ì (Lu H E K (gY _ _) Y) λg g1 g2=>?_;refine ì (Lu H E K (gY _ _) c3) λb R b2=>?_;refine⟨r,g,b,?_,r2,g2,b2⟩;refine fP [À (.á<|hB s l,0),À (.á y,0),À (.á x,0),Ä,Ä] rfl rfl ?_;refine ģ (Ă (Ç rfl) ļ<|zJ hx<|by unfold U;exact(Q3 0x2011a1f20000000000b72e020000000000ba286f40272e1402a2862106) M (dq _ 64)<|dq _ 2199023255552) rfl ē ?_;refine rY [À (.á<|hB s l,0),À (.á y,0),À (.á x,0),À (.á m2,0),Ä] ?_ ?_
 .have j:=oU k.fin cY.fin;rcases hm with⟨w,t⟩|⟨w,t⟩
  .subst t;exact yd (Ă (Ç rfl) ļ j) (vt w)<|aa (Û (Ç rfl) (Û ļ (Ç rfl) rfl) rfl) ē
  .subst t;exact xC (Ă (Ç rfl) ļ j) (vf w)<|aa (Û (Û (Ç rfl) (Ç rfl) rfl) (Û (Ç rfl) (Ç rfl) rfl) rfl) ē
 refine œ (Û (Û ļ (Ç rfl) rfl) (Ç rfl) rfl) ?_;dsimp[St.ö];exact bq<|dj<|Ð (dJ (Ð (Ç rfl)<|Ð (Ç rfl)<|Ð (Û (Ç rfl) ļ rfl) Ą) S)<|Ð (dJ (Ð (Ç rfl)<|Ð (Ç rfl)<|Ð (Ç rfl) Ą) g1)<|Ð (dJ (Ð (Ç rfl)<|Ð (Ç rfl)<|Ð (Û (Ç rfl) ļ rfl) Ą) R) Ą
end
set_option tactic.hygienic false
noncomputable abbrev ĳ:=Ã<|Á×(V×Á)
def dE(n:Á)(Γ:ĳ)(σ:St):Prop:=n<=σ.length/\∀i x,Γ.lookup i=À x->σ[i]?=À (À x)
def EV(n:Á)(Γ:ĳ)(e:PE)(v:V)(m:Á)(cL:ĳ):Prop:=∀σ,dE n Γ σ->∃τ,ß e σ=À (v,m,τ)/\dE n cL τ
def ES(n:Á)(Γ:ĳ)(es:Ã PE)(vs:Ã V)(cL:ĳ):Prop:=∀σ,dE n Γ σ->∃τ,ď es σ=À (vs,τ)/\dE n cL τ
def EM(n:Á)(Γ:ĳ)(es:Ã PE)(vs:Ã (V×Á))(cL:ĳ):Prop:=∀σ,dE n Γ σ->∃τ,du es σ=À (vs,τ)/\dE n cL τ
def SV(F n:Á)(Γ:ĳ)(s:Ã PS)(o:mj)(cL:ĳ):Prop:=∀σ,dE n Γ σ->∃τ,ċ F s σ=À (o,τ)/\dE n cL τ
def S1(F n:Á)(Γ:ĳ)(s:PS)(cL:ĳ):Prop:=∀σ,dE n Γ σ->∃τ,cX F s σ=À (.next,τ)/\dE n cL τ
def TP(n:Á)(Γ:ĳ)(t:kJ)(v:V)(cL:ĳ):Prop:=∀σ,dE n Γ σ->∃τ,t.ö v σ=À τ/\dE n cL τ
def Sub(Γ cL:ĳ):Prop:=∀i x,cL.lookup i=À x->Γ.lookup i=À x
def dE.ö(h:dE n Γ σ)(hi:i<n)(v:V)(m:Á):dE n ((i,(v,m))::Γ) (σ.ö i v m):=by
 refine⟨by unfold St.ö;rw[GZ];exact h.1,λj x hx=>?_⟩;unfold St.ö;rw[kU];rw[bf] at hx;by_cases e:i=j
 .subst e;simp[BEq.rfl] at hx;have:=h.1;rw[ť rfl,ť<|Nt ‹_› ‹_›,hx]
 .rw[È e];have:(j==i)=false:=by simpa using λh=>e h.symm
  simp only[this] at hx;exact h.2 j x hx
def dE.sub(h:dE n Γ σ)(s:Sub Γ cL):dE n cL σ:=⟨h.1,λi x hx=>h.2 i x<|s i x hx⟩
def dE.aaa(h:dE n Γ σ)(l:Ã Á)(g:∀i∈l,Γ.lookup i=Ä):dE n Γ (σ.aaa l):=by
 induction l generalizing σ with
 |nil=>exact h
 |cons i l ih=>
  refine ih ⟨by rw[GZ];exact h.1,λj x hx=>?_⟩ λj f=>g j<|.tail _ f;refine Å kU ?_;by_cases e:i=j
  .subst e;exact ÿ<|(g i<|.head _).symm.trans hx
  .exact Å (È e)<|h.2 j x hx
section
variable{n F:Á}{Γ ò ĕ gD:ĳ}{e a b c:PE}{v x y z r:V}{m k l:Á}
def dE.get(h:dE n Γ σ)(f:Γ.lookup i=À w):σ[i]?=À (À w):=h.2 i w f
def Sub.refl:Sub Γ Γ:=λ_ _ h=>h
def EV.Ī(h:EV n Γ e v m ò)(s:Sub ò ĕ):EV n Γ e v m ĕ:=λσ f=>ì (h σ f) λτ h1 h2=>⟨τ,h1,h2.sub s⟩
def EV.ï:EV n Γ (.c v) v 0 Γ:=λσ h=>⟨σ,ļ,h⟩
def EV.Æ(h:Γ.lookup i=À (v,0)):EV n Γ (.Æ i) v 0 Γ:=λσ f=>⟨σ,Ç<|f.get h,f⟩
def EV.dK(h:Γ.lookup i=À (v,m))(g:m≠0)(hi:i<n):EV n Γ (.Æ i) v 0 ((i,(v,0))::Γ):=λσ f=>⟨_,E0 (f.get h) g,f.ö hi v 0⟩
def EV.Õ(j:EV n Γ a x k ò)(f:EV n ò b y l ĕ)(g:ü op x y=À (r,m)):EV n Γ (.Õ op a b) r m ĕ:=λσ h=>
 ì (j σ h) λτ e1 g1=>ì (f τ g1) λρ e2 g2=>⟨ρ,Û e1 e2 g,g2⟩
def EV.un(g:EV n Γ a x k ò)(f:HM op x=À r):EV n Γ (.un op a) r 0 ò:=λσ h=>ì (g σ h) λτ e1 g1=>⟨τ,Rg e1 f,g1⟩
def EV.cmp(j:EV n Γ a x k ò)(f:EV n ò b y l ĕ)(g:Ĥ op x y=À t):EV n Γ (.cmp op a b) (.bool t) 0 ĕ:=λσ h=>
 ì (j σ h) λτ e1 g1=>ì (f τ g1) λρ e2 g2=>⟨ρ,Ă e1 e2 g,g2⟩
def EV.oC(j:EV n Γ a x k ò)(f:Ó x=À true)(g:EV n ò b y l ĕ):EV n Γ (.cK a b) y 0 ĕ:=λσ h=>
 ì (j σ h) λτ e1 g1=>ì (g τ g1) λρ e2 g2=>⟨ρ,Ba e1 f e2,g2⟩
def EV.vR(g:EV n Γ a x k ò)(f:Ó x=À false):EV n Γ (.cK a b) x 0 ò:=λσ h=>ì (g σ h) λτ e1 g1=>⟨τ,Ak e1 f,g1⟩
def EV.Rh(g:EV n Γ a x k ò)(f:Ó x=À true):EV n Γ (.iQ a b) x 0 ò:=λσ h=>ì (g σ h) λτ e1 g1=>⟨τ,C2 e1 f,g1⟩
def EV.mR(j:EV n Γ a x k ò)(f:Ó x=À false)(g:EV n ò b y l ĕ):EV n Γ (.iQ a b) y 0 ĕ:=λσ h=>
 ì (j σ h) λτ e1 g1=>ì (g τ g1) λρ e2 g2=>⟨ρ,DZ e1 f e2,g2⟩
def EV.z8(j:EV n Γ c x k ò)(f:Ó x=À true)(g:EV n ò a y l ĕ):EV n Γ (.ite c a b) y l ĕ:=λσ h=>
 ì (j σ h) λτ e1 g1=>ì (g τ g1) λρ e2 g2=>⟨ρ,sF e1 f e2,g2⟩
def EV.zR(j:EV n Γ c x k ò)(f:Ó x=À false)(g:EV n ò b y l ĕ):EV n Γ (.ite c a b) y l ĕ:=λσ h=>
 ì (j σ h) λτ e1 g1=>ì (g τ g1) λρ e2 g2=>⟨ρ,AK e1 f e2,g2⟩
def ES.nil:ES n Γ [] [] Γ:=λσ h=>⟨σ,Ą,h⟩
def ES.cons(g:EV n Γ e v k ò)(f:ES n ò es vs ĕ):ES n Γ (e::es) (v::vs) ĕ:=λσ h=>
 ì (g σ h) λτ e1 g1=>ì (f τ g1) λρ e2 g2=>⟨ρ,Ð e1 e2,g2⟩
def EM.nil:EM n Γ [] [] Γ:=λσ h=>⟨σ,AR,h⟩
def EM.cons(g:EV n Γ e v k ò)(f:EM n ò es vs ĕ):EM n Γ (e::es) ((v,k)::vs) ĕ:=λσ h=>
 ì (g σ h) λτ e1 g1=>ì (f τ g1) λρ e2 g2=>⟨ρ,pB e1 e2,g2⟩
def EV.ñ(h:ES n Γ es vs ò):EV n Γ (.ñ es) (.ñ vs) 0 ò:=λσ f=>ì (h σ f) λτ e1 g1=>⟨τ,dj e1,g1⟩
def EV.Ñ(h:ES n Γ es vs ò):EV n Γ (.Ñ es) (.Ñ vs) 1 ò:=λσ f=>ì (h σ f) λτ e1 g1=>⟨τ,Kt e1,g1⟩
def EV.fn(h:ES n Γ es vs ò)(j:f vs=À (r,m)):EV n Γ (.fn f es) r m ò:=λσ g=>ì (h σ g) λτ e1 g1=>⟨τ,dJ e1 j,g1⟩
def EV.sub(j:EV n Γ a x k ò)(f:EV n ò b y l ĕ)(g:ō x y=À r):EV n Γ (.sub a b) r 0 ĕ:=λσ h=>
 ì (j σ h) λτ e1 g1=>ì (f τ g1) λρ e2 g2=>⟨ρ,PQ e1 e2 g,g2⟩
def EV.ä(o:Γ.lookup i=À w)(g:EV n Γ e y l ò)(j:ò.lookup i=À (x,m))(f:ō x y=À r)(p:m≠2:=by decide):EV n Γ (.ä i e) r 0 ò:=λσ h=>
 ì (g σ h) λτ e1 g1=>⟨τ,nO (h.get o) e1 (g1.get j) p f,g1⟩
def EV.bp(g:EV n Γ a x k ò)(o:EV n ò b u k1 ĕ)(f:EV n ĕ c w k2 gD)(j:au x u w=À (p,m)):EV n Γ (.bp a b c) p m gD:=λσ h=>
 ì (g σ h) λτ e1 g1=>ì (o τ g1) λρ e2 g2=>ì (f ρ g2) λυ e3 g3=>⟨υ,KI e1 e2 e3 j,g3⟩
def EV.č(h:Γ.lookup i=À (v,m))(g:dD v=À q):EV n Γ (.č i) (.int q) 0 Γ:=λσ f=>⟨σ,xN (f.get h) g,f⟩
def EV.pop(w:Γ.lookup i=À (.Ñ xs,1))(o:EV n Γ e (.int q) l ò)(t:ò.lookup i=À (.Ñ xs,1))(f:Č xs.length q=À p)(s:xs[p]?=À v)(hi:i<n):EV n Γ (.pop i e) v 0 ((i,(.Ñ<|xs.eraseIdx p,1))::ò):=λσ h=>by
 exact ì (o σ h) λτ j g=>⟨_,OS (lT<|h.get w) j (lT<|g.get t) f s,g.ö hi _ _⟩
def TP.one(hi:i<n):TP n Γ (.one i) v ((i,(v,0))::Γ):=λσ h=>⟨_,rfl,h.ö hi v 0⟩
def TP.two(hi:i<n)(f:j<n):TP n Γ (.two i j) (.ñ [x,y]) ((j,(y,0))::(i,(x,0))::Γ):=λσ h=>⟨_,rfl,(h.ö hi x 0).ö f y 0⟩
def TP.three(hi:i<n)(f:j<n)(g:k<n):TP n Γ (.three i j k) (.ñ [x,y,z]) ((k,(z,0))::(j,(y,0))::(i,(x,0))::Γ):=λσ h=>⟨_,rfl,((h.ö hi x 0).ö f y 0).ö g z 0⟩
def CR(n:Á)(t:kJ)(e:PE)(Γ:ĳ)(vs rs:Ã V)(ò:ĳ):Prop:=∀σ,dE n Γ σ->∃τ,ą t Ä (λσ=>(ß e σ).map λx=>(x.1,x.2.2)) vs σ=À (rs,τ)/\dE n ò τ
def CR.nil:CR n t e Γ [] [] Γ:=λσ h=>⟨σ,rfl,h⟩
def CR.cons(A:TP n Γ t v ò)(q:EV n ò e r m ĕ)(h:CR n t e ĕ vs rs gD):CR n t e Γ (v::vs) (r::rs) gD:=λσ f=>ì (A σ f) λτ j o=>ì (q τ o) λρ s p=>ì (h ρ p) λg w g3=>⟨g,fb (x:=t.ö v σ) j<|fb (x:=(ß e τ).map λx=>(x.1,x.2.2)) (Ù (f6 _) s)<|fb (x:=ą t Ä _ vs ρ) w rfl,g3⟩
def fj(n:Á)(t:kJ)(c e:PE)(Γ:ĳ)(vs rs:Ã V)(ò:ĳ):Prop:=∀σ,dE n Γ σ->∃τ,ą t (À λσ=>(ß c σ).bind λx=>(Ó x.1).map λb=>(b,x.2.2)) (λσ=>(ß e σ).map λx=>(x.1,x.2.2)) vs σ=À (rs,τ)/\dE n ò τ
def fj.nil:fj n t c e Γ [] [] Γ:=λσ h=>⟨σ,rfl,h⟩
def fj.yes{KC:ĳ}(B:TP n Γ t v ò)(j:EV n ò c x k ĕ)(hx:Ó x=À true)(D:EV n ĕ e r m gD)(h:fj n t c e gD vs rs KC):fj n t c e Γ (v::vs) (r::rs) KC:=λσ f=>
 ì (B σ f) λτ o p=>ì (j τ p) λρ w q=>ì (D ρ q) λC E g3=>ì (h C g3) λg A s=>⟨g,fb (x:=t.ö v σ) o<|fb (x:=(ß c τ).bind λx=>(Ó x.1).map λb=>(b,x.2.2)) (fb (x:=ß c τ) w<|Ù (f6 _) hx)<|fb (x:=(ß e ρ).map λx=>(x.1,x.2.2)) (Ù (f6 _) E)<|fb (x:=ą t _ _ vs C) A rfl,s⟩
def fj.no{KC:ĳ}(B:TP n Γ t v ò)(j:EV n ò c x k ĕ)(hx:Ó x=À false)(h:fj n t c e ĕ vs rs KC):fj n t c e Γ (v::vs) rs KC:=λσ f=>
 ì (B σ f) λτ o p=>ì (j τ p) λρ w q=>ì (h ρ q) λg A s=>⟨g,fb (x:=t.ö v σ) o<|fb (x:=(ß c τ).bind λx=>(Ó x.1).map λb=>(b,x.2.2)) (fb (x:=ß c τ) w<|Ù (f6 _) hx) A,s⟩
def D7(n:Á)(t1:kJ)(ϝ:Ã PE)(f:Ã V->Ï (Ã V))(t2:kJ)(e:PE)(Γ:ĳ)(vs rs:Ã V)(ò:ĳ):Prop:=∀σ,dE n Γ σ->∃τ,ab t1 (λσ=>(ď ϝ σ).bind λx=>(f x.1).map λl=>(l,x.2)) t2 (λσ=>(ß e σ).map λx=>(x.1,x.2.2)) vs σ=À (rs,τ)/\dE n ò τ
def D7.nil:D7 n t1 ϝ f t2 e Γ [] [] Γ:=λσ h=>⟨σ,rfl,h⟩
def D7.cons{KC:ĳ}{qs:Ã V}(E:TP n Γ t1 v ò)(hi:ES n ò ϝ us ĕ)(B:f us=À items)(s:CR n t2 e ĕ items rs gD)(h:D7 n t1 ϝ f t2 e gD vs qs KC):D7 n t1 ϝ f t2 e Γ (v::vs) (rs++qs) KC:=λσ g=>
 ì (E σ g) λτ p q=>ì (hi τ q) λρ A t=>ì (s ρ t) λj C g3=>ì (h j g3) λo D w=>⟨o,fb (x:=t1.ö v σ) p<|fb (x:=(ď ϝ τ).bind λx=>(f x.1).map λl=>(l,x.2)) (fb (x:=ď ϝ τ) A<|Ù (f6 _) B)<|fb (x:=ą t2 Ä _ items ρ) C<|fb (x:=ab t1 _ t2 _ vs j) D rfl,w⟩
def FR(F n:Á)(t:kJ)(p:Ã PS)(Γ:ĳ)(vs:Ã V)(ò:ĳ):Prop:=∀σ,dE n Γ σ->∃τ,bA t (λσ=>ċ F p σ) vs σ=À (.next,τ)/\dE n ò τ
def FR.nil:FR F n t p Γ [] Γ:=λσ h=>⟨σ,rfl,h⟩
def FR.cons(A:TP n Γ t v ò)(q:SV F n ò p .next ĕ)(h:FR F n t p ĕ vs gD):FR F n t p Γ (v::vs) gD:=λσ f=>ì (A σ f) λτ j o=>ì (q τ o) λρ s w=>ì (h ρ w) λg B g3=>⟨g,fb (x:=t.ö v σ) j<|fb (x:=ċ F p τ) s B,g3⟩
def kP{l:Ã Á}(h:(l.all λi=>(Γ.lookup i).isNone)=true):∀i∈l,Γ.lookup i=Ä:=by
 have h:=ę.1 h;exact λi hi=>nX.1<|h i hi
def Sub.skip(h:ò.lookup i=Ä)(s:Sub Γ ò):Sub ((i,w)::Γ) ò:=λj x hx=>by
 rw[bf];by_cases e:j=i
 .subst e;exact ÿ<|h.symm.trans hx
 .simp only[(show(j==i)=false by simpa using e)];exact s j x hx
def Sub.keep(s:Sub Γ ò):Sub ((i,w)::Γ) ((i,w)::ò):=λj x hx=>by
 rw[bf] at hx⊢;by_cases e:j=i
 .subst e;simpa using hx
 .simp only[(show(j==i)=false by simpa using e)] at hx⊢;exact s j x hx
def Sub.shadow:Sub ((i,w)::(i,u)::Γ) ((i,w)::Γ):=λj x hx=>by
 rw[bf] at hx⊢;by_cases e:j=i
 .subst e;simpa using hx
 .have:(j==i)=false:=by simpa using e
  simp only[this] at hx⊢;refine Å bf ?_;simp only[this];exact hx
def Sub.trans(h:Sub Γ ò)(k:Sub ò ĕ):Sub Γ ĕ:=λi x hx=>h i x<|k i x hx
def EV.comp{vs items rs:Ã V}(s:ES n Γ ϝ vs ò)(A:f vs=À items)(g:(t.slots.all λi=>(ò.lookup i).isNone)=true)(j:CR n t e ò items rs ĕ):EV n Γ (.comp e t f ϝ Ä) (.Ñ rs) 1 ĕ:=λσ h=>by
 exact ì (s σ h) λτ o p=>(ì (j _<|p.aaa _<|kP g) λρ w q=>⟨ρ,fb (x:=ď ϝ σ) o<|fb (x:=f vs) A<|fb w rfl,q⟩)
def CR.p1(hi:i<n)(g:Γ.lookup i=Ä)(f:∃m,EV n ((i,(v,0))::Γ) e r m ((i,(v,0))::Γ))(h:CR n (.one i) e Γ vs rs Γ):CR n (.one i) e Γ (v::vs) (r::rs) Γ:=f.elim λ_ f=>.cons (.one hi) (f.Ī<|.skip g .refl) h
def EV.oS(s:ES n Γ ϝ vs ò)(A:f vs=À items)(g:(t.slots.all λi=>(ò.lookup i).isNone)=true)(j:fj n t c e ò items rs ĕ):EV n Γ (.comp e t f ϝ<|À c) (.Ñ rs) 1 ĕ:=λσ h=>by
 exact ì (s σ h) λτ o p=>(ì (j _<|p.aaa _<|kP g) λρ w q=>⟨ρ,fb (x:=ď ϝ σ) o<|fb (x:=f vs) A<|fb w rfl,q⟩)
def EV.eZ(s:ES n Γ kp vs ò)(w:f1 vs=À items)(f:((t1.slots++t2.slots).all λi=>(ò.lookup i).isNone)=true)(p:D7 n t1 dG f2 t2 e ò items rs ĕ)(g:rs.length<=1000000):EV n Γ (.eZ e t1 f1 kp t2 f2 dG) (.Ñ rs) 1 ĕ:=λσ h=>by
 exact ì (s σ h) λτ j o=>(ì (p _<|o.aaa _<|kP f) λρ t q=>⟨ρ,fb (x:=ď kp σ) j<|fb (x:=f1 vs) w<|fb t<|ť g,q⟩)
def SV.nil:SV F n Γ [] .next Γ:=λσ h=>⟨σ,ē,h⟩
def SV.cons(g:S1 F n Γ s ò)(f:SV F n ò ss o ĕ):SV F n Γ (s::ss) o ĕ:=λσ h=>
 ì (g σ h) λτ e1 g1=>ì (f τ g1) λρ e2 g2=>⟨ρ,eh e1 e2,g2⟩
def SV.Ī(h:SV F n Γ ss o ò)(s:Sub ò ĕ):SV F n Γ ss o ĕ:=λσ f=>ì (h σ f) λτ h1 h2=>⟨τ,h1,h2.sub s⟩
def SV.pre(h:SV F n ò ss o ĕ)(s:Sub Γ ò):SV F n Γ ss o ĕ:=λσ f=>h σ<|f.sub s
def S1.Ī(h:S1 F n Γ s ò)(k:Sub ò ĕ):S1 F n Γ s ĕ:=λσ f=>ì (h σ f) λτ h1 h2=>⟨τ,h1,h2.sub k⟩
def SV.append(w:SV F n Γ p .next ò)(A:SV F n ò q o ĕ):SV F n Γ (p++q) o ĕ:=by
 intro σ g;refine ì (w σ g) λτ f j=>?_;refine ì (A τ j) λρ C t=>?_;refine⟨ρ,?_,t⟩;clear g j t w A
 induction p generalizing σ with
 |nil=>exact â (M:=λ_ τ=>ċ F q τ=À (o,ρ)->ċ F q σ=À (o,ρ)) f (λh=>h) C
 |cons s E ih=>
  refine Ŵ (x:=cX F s σ) f λD Ø B f=>?_
  induction D with
  |next=>exact fb B<|ih _ f
  |_=>injection f with q;injection q with q;injection q
def S1.î(j:EV n Γ e v m ò)(hi:i<n):S1 F n Γ (.î i e) ((i,(v,m))::ò):=λσ h=>by
 exact ì (j σ h) λτ f g=>⟨_,D8 f,g.ö hi v m⟩
def S1.jJ(o:EV n Γ e v m ò)(hi:i<n)(p:j<n):S1 F n Γ (.jJ i j e) ((j,(v,0))::(i,(v,0))::ò):=λσ h=>by
 exact ì (o σ h) λτ f g=>⟨_,fb (x:=ß e σ) f rfl,(g.ö hi v 0).ö p v 0⟩
noncomputable def sX:Ã Á->Ã V->ĳ->ĳ
 |i::is,v::vs,Γ=>sX is vs ((i,(v,0))::Γ)
 |_,_,Γ=>Γ
noncomputable def eW:Ã Á->Ã (V×Á)->ĳ->ĳ
 |i::is,v::vs,Γ=>eW is vs ((i,v)::Γ)
 |_,_,Γ=>Γ
def putAll_has(is:Ã Á):∀(vs:Ã V){Γ:ĳ}{σ:St},dE n Γ σ->(∀i∈is,i<n)->is.length=vs.length->∃τ,putAll is vs σ=À τ/\dE n (sX is vs Γ) τ:=by
 induction is with
 |nil=>intro vs Γ σ h _ f;induction vs with
  |nil=>exact⟨σ,rfl,h⟩
  |cons=>injection f
 |cons i is ih=>intro vs Γ σ h hi f;induction vs with
  |nil=>injection f
  |cons v vs=>exact ih vs (h.ö (hi i<|.head _) v 0) (λj g=>hi j<|.tail _ g)<|eu f
def tv(is:Ã Á):∀(vs:Ã (V×Á)){Γ:ĳ}{σ:St},dE n Γ σ->(∀i∈is,i<n)->is.length=vs.length->∃τ,ϋ is vs σ=À τ/\dE n (eW is vs Γ) τ:=by
 induction is with
 |nil=>intro vs Γ σ h _ f;induction vs with
  |nil=>exact⟨σ,rfl,h⟩
  |cons=>injection f
 |cons i is ih=>intro vs Γ σ h hi f;induction vs with
  |nil=>injection f
  |cons v vs=>exact ih vs (h.ö (hi i<|.head _) v.1 v.2) (λj g=>hi j<|.tail _ g)<|eu f
def S1.mO(p:EV n Γ e (.ñ vs) m ò)(hi:∀i∈is,i<n)(f:is.length=vs.length):S1 F n Γ (.mO is e) (sX is vs ò):=λσ h=>by
 exact ì (p σ h) λτ g j=>ì (putAll_has is vs j hi f) λρ q o=>⟨ρ,Ky g q,o⟩
def S1.qt(p:EV n Γ e (.Ñ vs) m ò)(hi:∀i∈is,i<n)(f:is.length=vs.length):S1 F n Γ (.qt is e) (sX is vs ò):=λσ h=>by
 exact ì (p σ h) λτ g j=>ì (putAll_has is vs j hi f) λρ q o=>⟨ρ,Mc g q,o⟩
def S1.par(p:EM n Γ es vs ò)(hi:∀i∈is,i<n)(f:is.length=vs.length):S1 F n Γ (.par is es) (eW is vs ò):=λσ h=>by
 exact ì (p σ h) λτ g j=>ì (tv is vs j hi f) λρ q o=>⟨ρ,KV g q,o⟩
def S1.NU(s:EV n Γ e v m ò)(w:Ó v=À true)(f:SV F n ò p .next ĕ):S1 F n Γ (.Ŗ e p q) ĕ:=λσ h=>by
 exact ì (s σ h) λτ g j=>ì (f τ j) λρ t o=>⟨ρ,oW g w t,o⟩
def S1.OF(s:EV n Γ e v m ò)(w:Ó v=À false)(f:SV F n ò q .next ĕ):S1 F n Γ (.Ŗ e p q) ĕ:=λσ h=>by
 exact ì (s σ h) λτ g j=>ì (f τ j) λρ t o=>⟨ρ,uY g w t,o⟩
def S1.skip(f:EV n Γ e v m ò)(h:Ó v=À false):S1 F n Γ (.Ŗ e p []) ò:=.OF f h .nil
def SV.ret(f:EV n Γ e v m ò):SV F n Γ (.ret e::ss) (.ret v) ò:=λσ h=>ì (f σ h) λτ e1 g1=>⟨τ,mK e1,g1⟩
def S1.app(q:Γ.lookup i=À (.Ñ xs,1))(o:EV n Γ e v m ò)(p:ò.lookup i=À (.Ñ xs,1))(hi:i<n)(f:xs.length<=1000000):S1 F n Γ (.app i e) ((i,(.Ñ<|xs++[v],1))::ò):=λσ h=>by
 exact ì (o σ h) λτ j g=>⟨_,PM (lT<|h.get q) j (lT<|g.get p) f,g.ö hi _ _⟩
def S1.Ū(s:ES n Γ ϝ vs ò)(A:f vs=À items)(g:FR F n t p ò items ĕ):S1 F n Γ (.Ū t f ϝ p) ĕ:=λσ h=>by
 exact ì (s σ h) λτ j o=>ì (g τ o) λρ w q=>⟨ρ,aac j A w,q⟩
def FR.idx(g:Á->ĳ)(f:Á)(H:∀k v,items[k]?=À v->∃ò,TP n (g<|f+k) t v ò/\SV F n ò p .next (g<|f+k+1)):FR F n t p (g f) items (g<|f+items.length):=by
 induction items generalizing f with
 |nil=>exact .nil
 |cons v vs ih=>
  refine ì (H 0 v rfl) λò j o=>?_;refine .cons j o ?_;have:=ih (f+1) λk w h=>by
   have:=H (k+1) w h;exact Å (show f+1+k=f+(k+1) by exact(A2 0xe18081e0882)) this
  exact Å kc<|Å (show f+(vs.length+1)=f+1+vs.length by exact(A2 2063880781954)) this
def vz(args:Ã V)(j:args.length<=ar):dE ar (args.zipIdx.map λx=>(x.2,(x.1,0))) ((args.map λv=>À (v,0))++replicate (ar-args.length) Ä):=by
 refine⟨by rw[eU,É,oL];exact(A2 17373184),λi x hx=>?_⟩;have key:∀(l:Ã V)(k:Á),((l.zipIdx k).map λx=>(x.2,(x.1,0))).lookup i=À x->k<=i/\(l.map λv=>À (v,0))[i-k]?=À (À x):=by
  intro l
  induction l with
  |nil=>intro k h;exact ÿ h
  |cons v vs ih=>
   intro k h;rw[zipIdx_cons,mC,bf] at h;by_cases e:i=k
   .subst e;simp[BEq.rfl] at h;exact⟨aj _,by rw[Nat.sub_self,<-h];rfl⟩
   .simp only[(show(i==k)=false by simpa using e)] at h;exact Ö (λg f=>⟨by exact(A2 4296935430) g,by rw[mC,show i-k=(i-(k+1))+1 by exact(A2 0xee1809810920e1806) g,y7];exact f⟩)<|ih (k+1) h
 refine Ö (λ_ f=>?_)<|key args 0 hx;rw[tn] at f;rw[EH]
 .exact f
 .rcases Ţ i (args.map λv=>(À (v,0):Ï (V×Á))).length with h|h
  .exact h
  .rw[ķ h] at f;exact ÿ f
def ew(j:args.length=ar)(g:args.length<=n)(h:SV F n (args.zipIdx.map λx=>(x.2,(x.1,0))) body (.ret v) ò):ė F n ar body args=À (v,0):=by
 exact ì (h _<|vz args g) λτ f _=>kH j f
end
section
variable{n F:Á}{Γ ò ĕ gD:ĳ}{e a b c:PE}{v x y z r:V}{m k l:Á}
def CR.each{items:Ã V}:∀{rs:Ã V}(_:items.length=rs.length)(_:∀(k:Á)(v r:V),items[k]?=À v->rs[k]?=À r->∃ò m ĕ,TP n Γ t v ò/\EV n ò e r m ĕ/\Sub ĕ Γ),CR n t e Γ items rs Γ:=by
 induction items with
 |nil=>intro rs f _;induction rs with
  |nil=>exact .nil
  |cons=>injection f
 |cons v vs ih=>intro rs f H;induction rs with
  |nil=>injection f
  |cons r rs=>
   exact CI (H 0 v r rfl rfl) λò m ĕ j p g=>.cons j (p.Ī g)<|ih (eu f) λk v r h o=>H (k+1) v r h o
def CR.gp(hi:i<n)(f:Γ.lookup i=Ä)(g:items.length=rs.length)(H:∀(k:Á)(v r:V),items[k]?=À v->rs[k]?=À r->∃m,EV n ((i,(v,0))::Γ) e r m ((i,(v,0))::Γ)):CR n (.one i) e Γ items rs Γ:=
 .each g λk v r h j=>(H k v r h j).elim λm q=>⟨_,m,_,.one hi,q,.skip f .refl⟩
def fj.each{items:Ã V}:∀{rs:Ã V}(_:items.length=rs.length)(_:∀(k:Á)(v r:V),items[k]?=À v->rs[k]?=À r->∃ò x m ĕ g gD,TP n Γ t v ò/\EV n ò c x m ĕ/\Ó x=À true/\EV n ĕ e r g gD/\Sub gD Γ),fj n t c e Γ items rs Γ:=by
 induction items with
 |nil=>intro rs f _;induction rs with
  |nil=>exact .nil
  |cons=>injection f
 |cons v vs ih=>intro rs f H;induction rs with
  |nil=>injection f
  |cons r rs=>
   obtain⟨ò,x,m,ĕ,g,gD,o,s,j,q,p⟩:=H 0 v r rfl rfl;exact .yes o s j (q.Ī p)<|ih (eu f) λk v r h w=>H (k+1) v r h w
def Sub.ŉ:Sub Γ []:=λ_ _ h=>ÿ h
def WR(F n:Á)(t:PE)(p:Ã PS)(k:Á)(Γ ò:ĳ):Prop:=∀σ,dE n Γ σ->∃τ,aO (λσ=>(ß t σ).bind λx=>(Ó x.1).map λb=>(b,x.2.2)) (λσ=>ċ F p σ) k σ=À (.next,τ)/\dE n ò τ
def WR.stop(o:EV n Γ t v m ò)(q:Ó v=À false):WR F n t p (k+1) Γ ò:=λσ f=>ì (o σ f) λτ g j=>⟨τ,(fb (x:=(ß t σ).bind λx=>(Ó x.1).map λb=>(b,x.2.2)) (fb (x:=ß t σ) g<|Ù (f6 _) q) rfl:aO _ _ (k+1) σ=_),j⟩
def WR.more(o:EV n Γ t v m ò)(q:Ó v=À true)(w:SV F n ò p .next ĕ)(h:WR F n t p k ĕ gD):WR F n t p (k+1) Γ gD:=λσ f=>ì (o σ f) λτ g j=>ì (w τ j) λρ B A=>ì (h ρ A) λs C g3=>⟨s,fb (x:=(ß t σ).bind λx=>(Ó x.1).map λb=>(b,x.2.2)) (fb (x:=ß t σ) g<|Ù (f6 _) q)<|fb (x:=ċ F p τ) B C,g3⟩
def WR.pre(h:WR F n t p k ò ĕ)(s:Sub Γ ò):WR F n t p k Γ ĕ:=λσ f=>h σ<|f.sub s
def S1.az(h:WR F n t p F Γ ò):S1 F n Γ (.az t p) ò:=λσ f=>by
 exact ì (h σ f) λτ e g=>⟨τ,e,g⟩
def FX(F n:Á)(t:kJ)(p:Ã PS)(Γ:ĳ)(vs:Ã V)(r:V):Prop:=∀σ,dE n Γ σ->∃τ,bA t (λσ=>ċ F p σ) vs σ=À (.ret r,τ)/\dE n [] τ
def FX.here(w:TP n Γ t v ò)(q:SV F n ò p (.ret r) ĕ):FX F n t p Γ (v::vs) r:=λσ f=>ì (w σ f) λτ g j=>ì (q τ j) λρ s o=>⟨ρ,fb (x:=t.ö v σ) g<|fb (x:=ċ F p τ) s rfl,o.sub .ŉ⟩
def FX.later(w:TP n Γ t v ò)(q:SV F n ò p .next ĕ)(h:FX F n t p ĕ vs r):FX F n t p Γ (v::vs) r:=λσ f=>ì (w σ f) λτ g j=>ì (q τ j) λρ s o=>ì (h ρ o) λA B g3=>⟨A,fb (x:=t.ö v σ) g<|fb (x:=ċ F p τ) s B,g3⟩
def SV.HZ(s:ES n Γ ϝ vs ò)(A:f vs=À items)(g:FX F n t p ò items r):SV F n Γ (.Ū t f ϝ p::ss) (.ret r) []:=λσ h=>by
 exact ì (s σ h) λτ j o=>ì (g τ o) λρ w q=>⟨ρ,ra<|aac j A w,q⟩
def SV.gg(s:EV n Γ e v m ò)(w:Ó v=À true)(f:SV F n ò p (.ret r) ĕ):SV F n Γ (.Ŗ e p q::ss) (.ret r) ĕ:=λσ h=>by
 exact ì (s σ h) λτ g j=>ì (f τ j) λρ t o=>⟨ρ,v7 g w t,o⟩
def S1.ö(t:EV n Γ e v l ò)(C:ò.lookup i=À w)(B:EV n ò k' (.int q) m ĕ)(j:ĕ.lookup i=À (.Ñ xs,1))(s:Č xs.length q=À p)(hi:i<n):S1 F n Γ (.ö i k' e) ((i,(.Ñ<|xs.set p v,1))::ĕ):=λσ h=>by
 exact ì (t σ h) λτ o g=>ì (B τ g) λρ A f=>⟨_,KQ o (g.get C) A (f.get j) s,f.ö hi _ _⟩
def S1.LL(o:Γ.lookup i=À (.int a',k))(j:EV n Γ e (.int b') l ò)(hi:i<n):S1 F n Γ (.aug i .Add e) ((i,(.int<|a'+b',0))::ò):=λσ h=>by
 exact ì (j σ h) λτ f g=>⟨_,G3 (lT<|h.get o) f rfl,g.ö hi _ _⟩
def S1.Nf(o:Γ.lookup i=À (.int a',k))(j:EV n Γ e (.int b') l ò)(hi:i<n):S1 F n Γ (.aug i .Sub e) ((i,(.int<|a'-b',0))::ò):=λσ h=>by
 exact ì (j σ h) λτ f g=>⟨_,G3 (lT<|h.get o) f rfl,g.ö hi _ _⟩
def Sub.to(h:Γ.lookup i=À w)(s:Sub Γ ò):Sub Γ ((i,w)::ò):=λj x hx=>by
 rw[bf] at hx;by_cases e:j=i
 .subst e;simp[BEq.rfl] at hx;exact Å h<|Å hx rfl
 .simp only[(show(j==i)=false by simpa using e)] at hx;exact s j x hx
end
def nJ{n k:Á}(h:k<n)(f:n<=1000000):place n (k:Â)=À k:=by
 unfold place;rw[ť f,ť<|by exact(A1 3571),ť<|by exact(A2 7798525974) h,Ě]
def ĵ{g:Type}{xs:Ã g}{v:g}(h:xs[k]?=À v):k<xs.length:=by
 rcases Ţ k xs.length with f|f
 .exact f
 .rw[ķ f] at h;exact ÿ h
def Ϛ{xs:Ã V}{k:Á}{v:V}(h:xs[k]?=À v)(f:xs.length<=1000000):ō (.Ñ xs) (.int (k:Â))=À v:=by
 exact Å (show ō (.Ñ xs) (.int (k:Â))=(place xs.length (k:Â)).bind λk=>xs[k]? from rfl)<|Å (nJ (ĵ h) f) h
def kz{k:Á}{j:Â}(f:j=(k:Â)-xs.length)(h:xs[k]?=À v)(g:xs.length<=1000000):ō (.Ñ xs) (.int j)=À v:=by
 refine Å (show ō (.Ñ xs) (.int j)=(place xs.length j).bind λk=>xs[k]? from rfl) ?_;unfold place;exact Å (ť g)<|Å (È<|by exact(Jw 0xf3901160d1d9056) f<|ĵ h)<|Å (ť<|(Jw 8172614582112342) f)<|Å (show(j+xs.length).toNat=k by exact(Sr 0x102f02f2d08472d080d52d08f37862d1d9056) f<|iY _) h
def rz{xs:Ã V}(h:∀x∈xs,f x x=À true):qy f xs xs=À true:=by
 induction xs with
 |nil=>rfl
 |cons x xs ih=>exact fb (x:=f x x) (h x<|.head _)<|Ù (f6 _)<|ih λy g=>h y<|.tail _ g
def bb(a:Â):jq n (.int a) (.int a)=À true:=by cases n<;>exact Ù À<|eE a
def bK(h:∀x∈xs,jq n x x=À true):jq (n+1) (.Ñ xs) (.Ñ xs)=À true:=(ť rfl).trans<|rz h
def sa(h:∀x∈xs,jq n x x=À true):jq (n+1) (.ñ xs) (.ñ xs)=À true:=(ť rfl).trans<|rz h
def HE{x y:V}(h:x=y)(k:jq 5 x x=À true):Ĥ .NotEq x y=À false:=h▸Ù (f6 not) k
def wk{k:Á}(h:k<=1000)(hx:xs.length<=1000):ü .Mult (.Ñ xs) (.int k)=À (.Ñ (replicate k xs).flatten,1):=by
 rw[show ü .Mult (.Ñ xs) (.int k)=if 0<=(k:Â)/\(k:Â)<=1000/\xs.length<=1000 then À (.Ñ<|(replicate (k:Â).toNat xs).flatten,1) else Ä from rfl,ť ⟨by omega,((A1 0x3e8370d33e837006) h),hx⟩,Ě]
def u5(a:Ò):jq n (.bool a) (.bool a)=À true:=by cases n<;>exact Ù À<|eE a
def ID(a:Str):jq n (.str a) (.str a)=À true:=by cases n<;>exact Ù À<|eE a
noncomputable def Ģ(c:Á):V:=.str ⟨#[c]⟩
def ni{xs:Ã V}(h:xs.length<=1000000):qh xs=À xs:=ť h
def ś{n k:Á}(h:(û a n)[k]?=À v):v=.int (a+k)/\k<n:=by
 have f:=ĵ h;unfold û at h f;rw[É,bZ] at f;rw[ô,ag f] at h;obtain rfl:=à h;exact⟨rfl,f⟩
def Ś(a:Â)(n:Á):(û a n).length=n:=by unfold û;exact Å (É ..)<|Å (bZ ..) rfl
def strs_map:∀(cs:Ã Á),j7 (cs.map Ģ)=À (cs.map λc=>⟨#[c]⟩):=by
 intro r0
 induction r0 with
 |nil=>exact rfl
 |cons c cs ih0=>
  have:=ih0;unfold j7 at this⊢;exact Å mC<|Å List.mapM_cons<|Å this rfl
def JN{cs:Ã Á}(h:cs.length<=1000):rF [.str (ϰ ""),.Ñ<|cs.map Ģ]=À (.str ⟨cs.toArray⟩,0):=by
 have j:((cs.map λc=>(⟨#[c]⟩:Str)).map (·.length)).sum=cs.length:=by
  refine Å ſ ?_
  induction cs with
  |nil=>rfl
  |cons c cs ih=>refine Å mC (Å oK<|Å (ih<|by simp at h;exact ϴ ‹_› rfl) ?_);simp[oh];exact(A1 235409026)
 have g:yL ⟨#[]⟩ (cs.map λc=>(⟨#[c]⟩:Str))=⟨cs.toArray⟩:=by
  unfold yL Builtin.Str.glued
  induction cs with
  |nil=>rfl
  |cons c cs=>
   simp only[mC,drop_succ_cons,xU,headD_cons];have key:∀(l:Ã Á)(f:gS Á),(l.map λc=>(⟨#[c]⟩:Str)).foldl (λf p=>f++(#[]:gS Á)++p.cps) f=f++l.toArray:=by
    intro l
    induction l with
    |nil=>intro f;simp
    |cons d l ih=>intro f;rw[mC,DN,ih];simp
   refine Å (key ..) ?_;simp
 refine Å (show ϰ ""=⟨#[]⟩ by decide) ?_;refine(?_:((j7 _).bind λl=>if(l.map (·.length)).sum+l.length*oh _<=1000000 then À (V.str<|yL _ l,0) else Ä)=_);simp only[strs_map,lR];exact Å j<|Å g<|Å (ť<|by simp[oh];exact ϴ ‹_› rfl) rfl
section
open PySem.Float64
def gu(c:-1000000<=a/\a<=1000000)(f:-1000000<=b/\b<=1000000):ü .Mult (.int a) (.int b)=À (.int<|a*b,0):=by
 have h:(1000000:Â)<=10^2000:=by decide
 exact Å (show ü .Mult (.int a) (.int b)=if Ĕ a&&Ĕ b then À (.int<|a*b,0) else Ä from rfl)<|Å (rG a<|by generalize(10:Â)^2000=z at*;exact⟨(qU 0x1c31f42405736f424057030f424057c376) c h,(qU 0x1031f42405736f424057030f424057c376) c h⟩)<|Å (rG b<|by generalize(10:Â)^2000=z at*;exact⟨(qU 0x1c31f42405736f424057030f424057c376) f h,(qU 0x1031f42405736f424057030f424057c376) f h⟩) rfl
noncomputable def aw(c s:Â):Â:=if(c-s).fmod 96<(s-c).fmod 96 then(c-s).fmod 96 else(s-c).fmod 96
noncomputable def lim(a:Â):Â:=if(if 0<32-a then 32-a else 0)<16 then(if 0<32-a then 32-a else 0) else 16
def G0{a:Â}(h:0<=lim a/\lim a<=16):-1000000<=lim a/\lim a<=1000000:=⟨(Ad 0xf424057c31027030f376) h,(Ad 0xf424057031027030f376) h⟩
def HX:([0,32,64]:Ã Á).all (λc=>(range 96).all λs=>lim (aw c s)==wt c s)=true:=by decide
def Ha{c s:Á}(a:c∈([0,32,64]:Ã Á))(h:s<96):lim (aw c s)=wt c s:=ka.1<|ę.1 (ę.1 HX c a) s<|gh.2 h
def JF{s hi lo l:Á}(m:s<96)(B:33<=hi)(j:hi<=64)(o:lo<=31)(E:l<3):ax [.int s,.int hi,.int lo,.int l]=À (.int s,0):=by
 obtain⟨d,rfl⟩:∃d,hi=lo+d:=⟨hi-lo,by exact(A2 0x10918021f271060212706) B o⟩
 have H:ϵ (lo:Rat) (d:Rat):=by
  have e:((lo+d:Á):Rat)=(lo:Rat)+d:=fB _ _;exact⟨pd,dw (b:=31)|>.2 o,dw (a:=2)|>.2 ((A2 0x121701082127061f27006) o B),(Đ e (dw (a:=33)|>.2 B)),(Đ e (dw (b:=64)|>.2 j))⟩
 have A:2*(lo:Rat)+d=((lo+d+lo:Á):Rat):=by refine Å (fB ..)<|Å (fB ..) ?_;exact(Q2 1136035764866)
 have C:(lo:Rat)+d=((lo+d:Á):Rat):=(fB _ _).symm;refine Ö (λx1 L=>?_)<|qc (x:=d) (y:=lo+d) ((A2 4660902940976902) B)<|(A2 0x10810004a11108212706) B;refine Ö (λX O=>?_) (qc (x:=lo+d) (y:=64) (by exact(A0 4204529))<|(A2 0x40000571081402710806) j);refine Ö (λx5 x6=>?_) (qc (x:=s+96*l) (y:=96) (by exact OD ‹_›)<|by exact(A2 0x60000571602a0813171166027016) m E);refine Ö (λx7 x8=>?_) (qc (x:=lo+d+lo) (y:=128) (by exact(A0 8398833))<|(A2 0x8000057010881402710806) j);refine Ö (λx9 Ke=>?_)<|qc (x:=d) (y:=min (lo+d+lo)<|128-(lo+d+lo)) ((A3 0xf121288802790221288212888027917212880221288802792128807864027128061282127061f27206) o B j<|Aj _ _)<|(A3 0x10004a1121288802790221288212888027917212880221288802792128807864027128061282127061f27206) o B j<|Aj _ _;rw[<-C] at L O;have sh:q7 (lo:Rat) (d:Rat) (lo+d+lo) ((d:Rat)/((min (lo+d+lo) (128-(lo+d+lo)):Á):Rat)):=by
  by_cases D:lo+d+lo<=64
  .have:=vT H A D;exact Å (wR<|(A2 0x10888027901088040270108806) D)<|Đ A this
  .have:=u3 H A<|(A2 0x108840270402701088096) D;have e:((128-(lo+d+lo):Á):Rat)=128-(2*(lo:Rat)+d):=by
    have:((128-(lo+d+lo)+(lo+d+lo):Á):Rat)=128:=by exact Å (F1<|(A2 0x8027010880402710806) j) rfl
    rw[fB,<-A] at this;exact(Q3 0x2121a8802790280272121a80826) this
   exact Å (FK<|(A2 0x108801088802790402701088096) D)<|Å e this
 refine Ma (Je H L O<|allB_of (allB_of JL m) E) λr g b p1 R=>?_;refine Ma (JJ H A sh x8 Ke<|allB_of (allB_of I4 m) E) λr' g' b' q1 q2=>?_;refine Ϸ (xd m) λS _ _=>?_;have P:=vE m R;have Q:=vE m q2;have Nq:∀{x:ā}{w:Á},w<=16->ã x (ch lo d w) 200->ħ [.á x,.int 1024]=À (.int ((16*lo+d*w:Á):Â),0):=by
  intro x w hw hx;have:d*w<=d*16:=ϥ _ hw;refine kI 1024 hx rfl ?_ (by decide) ((A3 0x8003701102a802102b006402721806) j this)<|(A3 0x44c3701102a802102b006402721806) j this;unfold ch;exact Å (fB ..)<|Å (cy ..)<|Å (cy ..)<|Å (show((1024:Á):Rat)=1024 from rfl ..)<|Å (show((16:Á):Rat)=16 from rfl ..)<|(Q3 0x21102a804003b2f40037221102a804003a286)<|dq _ 1024
 have K:∀{c:Á},c∈([0,32,64]:Ã Á)->(16:Â)*lo+(((lo+d:Á):Â)-lo)*lim (aw c s)=((16*lo+d*wt c s:Á):Â):=by
  intro c G;refine Å (Ha G m) (Å (show(((lo+d:Á):Â)-lo)=(d:Â) by exact(A2 124773240213)) ?_);simp
 let Γ0:ĳ:=[(0,(.int s,0)),(1,(.int ((lo+d:Á):Â),0)),(2,(.int lo,0)),(3,(.int l,0))]
 have c1:EV 16 Γ0 RH (.Ñ [.int (aw ((0:Á):Â) s),.int<|aw ((32:Á):Â) s,.int<|aw ((64:Á):Â) s]) 1 Γ0:=by
  refine .comp (items:=[.int ((0:Á):Â),.int ((32:Á):Â),.int ((64:Á):Â)]) (.cons (.ñ<|.cons .ï<|.cons .ï<|.cons .ï .nil) .nil) rfl rfl<|.p1 (by decide) rfl ?_<|.p1 (by decide) rfl ?_<|.p1 (by decide) rfl ?_ .nil
  all_goals exact⟨_,.fn (.cons (.Õ (.Õ (.Æ rfl) (.Æ rfl) rfl) .ï<|vD (by decide)<|by(and_intros<;>omega))<|.cons (.Õ (.Õ (.Æ rfl) (.Æ rfl) rfl) .ï<|vD (by decide)<|by(and_intros<;>omega)) .nil) rfl⟩
 have b1:(s:Â)<96:=by exact(A1 0x60270d46027016) m
 have bl:∀c:Á,c∈([0,32,64]:Ã Á)->0<=lim (aw c s)/\lim (aw c s)<=16:=by
  intro c G;refine Å (Ha G m) ?_;have:wt c s<=16:=gY _ _;exact⟨(A1 3571),(A1 4546537237671942) this⟩
 let ò:ĳ:=(5,(.Ñ [.int (aw ((0:Á):Â) s),.int<|aw ((32:Á):Â) s,.int<|aw ((64:Á):Â) s],0))::Γ0
 have c2:∀{x y z:Â},(16:Â)*lo+(((lo+d:Á):Â)-lo)*lim (aw ((0:Á):Â) s)=x->(16:Â)*lo+(((lo+d:Á):Â)-lo)*lim (aw ((32:Á):Â) s)=y->(16:Â)*lo+(((lo+d:Á):Â)-lo)*lim (aw ((64:Á):Â) s)=z->EV 16 ((5,(.Ñ [.int (aw ((0:Á):Â) s),.int<|aw ((32:Á):Â) s,.int<|aw ((64:Á):Â) s],1))::Γ0) O6 (.Ñ [.int x,.int y,.int z]) 1 ò:=by
  intro _ _ _ h1 h2 h3;subst h1 h2 h3;refine .Ī (EV.comp (ò:=(5,(.Ñ [.int (aw ((0:Á):Â) s),.int<|aw ((32:Á):Â) s,.int<|aw ((64:Á):Â) s],0))::(5,(.Ñ [.int (aw ((0:Á):Â) s),.int<|aw ((32:Á):Â) s,.int<|aw ((64:Á):Â) s],1))::Γ0) (ES.cons (EV.dK rfl (by decide)<|by decide) ES.nil) rfl rfl<|CR.p1 (by decide) rfl ?_<|CR.p1 (by decide) rfl ?_<|CR.p1 (by decide) rfl ?_ CR.nil) .shadow
  all_goals exact⟨_,EV.Õ (EV.Õ EV.ï (EV.Æ rfl)<|gu (by decide)<|by exact⟨(A1 958889220035),(A1 0xf4240570d31f27006) o⟩) (EV.Õ (EV.Õ (EV.Æ rfl) (EV.Æ rfl) rfl) (EV.fn (ES.cons EV.ï<|ES.cons (EV.fn (ES.cons EV.ï<|ES.cons (EV.Õ EV.ï (EV.Æ rfl) rfl) ES.nil) rfl) ES.nil) rfl)<|gu (by exact⟨(A2 0xd108d9f424057c3),(A2 0xf4240570d108d93402710806) j⟩)<|G0<|bl _<|by decide) rfl⟩
 have M:ü .Sub (.int ((lo+d:Á):Â)) (.int lo)=À (.int (d:Â),0):=by
  exact Ù (λz=>À (V.int z,0))<|by exact(A2 124773240213)
 have Y:bz [.int ((lo+d+lo:Á):Â),.int<|128-((lo+d+lo:Á):Â)]=À (.int ((min (lo+d+lo) (128-(lo+d+lo)):Á):Â),0):=by
  exact Ù (λz=>À (V.int z,0))<|show(if 128-((lo+d+lo:Á):Â)<((lo+d+lo:Á):Â) then 128-((lo+d+lo:Á):Â) else((lo+d+lo:Á):Â))=((min (lo+d+lo) (128-(lo+d+lo)):Á):Â) by omega
 let f:V:=.Ñ [.int ((16*lo+d*wt 0 s:Á):Â),.int ((16*lo+d*wt 32 s:Á):Â),.int ((16*lo+d*wt 64 s:Á):Â)]
 let v:V:=.ñ [.á r,.á g,.á b]
 let p:V:=.ñ [.á r',.á g',.á b']
 let t:V:=.ñ [.int s,.int ((lo+d:Á):Â),.int lo]
 let ĕ:ĳ:=(9,(.int ((lo+d+lo:Á):Â),0))::(8,(.á<|hB s l,0))::(7,(f,1))::ò
 have c3:S1 50 16 ((7,(f,1))::ò) (N0) ĕ:=
  S1.par (vs:=[(.á<|hB s l,0),(.int ((lo+d+lo:Á):Â),0)]) (EM.cons (EV.Õ (EV.Õ (EV.Æ rfl) (EV.Õ EV.ï (EV.Æ rfl)<|gu (by decide)<|by exact⟨(A1 958889220035),(A1 0xf4240570d3317016) E⟩) rfl) EV.ï<|by exact Å (show(s:Â)+96*l=((s+96*l:Á):Â) by exact(A2 0x1602a08d1d602a0d85)) x5)<|EM.cons (EV.Õ (EV.Æ rfl) (EV.Æ rfl)<|by exact Đ (show((lo+d:Á):Â)+lo=((lo+d+lo:Á):Â) by exact(A2 290876879310213)) rfl) EM.nil) (by decide) rfl
 have c4:EV 16 ĕ OP (.Ñ [v,p]) 1 ĕ:=
  EV.Ñ (ES.cons (EV.fn (ES.cons (EV.Æ rfl)<|ES.cons (EV.Õ (EV.Õ (EV.Æ rfl) (EV.Æ rfl) M) (EV.Æ rfl) x1)<|ES.cons (EV.Õ (EV.Æ rfl) EV.ï X) ES.nil) p1)<|ES.cons (EV.fn (ES.cons (EV.Æ rfl)<|ES.cons (EV.Õ (EV.Æ rfl) EV.ï x7)<|ES.cons (EV.Õ (EV.Õ (EV.Æ rfl) (EV.Æ rfl) M) (EV.fn (ES.cons (EV.Æ rfl)<|ES.cons (EV.Õ EV.ï (EV.Æ rfl) rfl) ES.nil) Y) x9) ES.nil) q1) ES.nil)
 let gD:ĳ:=(10,(.Ñ [v,p],0))::ĕ
 have c5:EV 16 ((10,(.Ñ [v,p],1))::ĕ) Ox (.Ñ [t,t,t,t]) 1 gD:=by
  exact EV.Ī (ò:=(11,(p,0))::(11,(v,0))::(10,(.Ñ [v,p],0))::(10,(.Ñ [v,p],1))::ĕ) (EV.eZ (ò:=(10,(.Ñ [v,p],0))::(10,(.Ñ [v,p],1))::ĕ) (ES.cons (EV.dK rfl (by decide)<|by decide) ES.nil) rfl rfl (D7.cons (rs:=[t,t]) (qs:=[t,t]) (TP.one<|by decide) (ES.cons (EV.ñ<|ES.cons EV.ï<|ES.cons EV.ï ES.nil) ES.nil) rfl (CR.p1 (by decide) rfl ⟨_,EV.fn (ES.cons (EV.Æ rfl)<|ES.cons (EV.Æ rfl) ES.nil)<|read0 H P S C rfl j<|by exact ϴ ‹_› rfl⟩<|CR.p1 (by decide) rfl ⟨_,EV.fn (ES.cons (EV.Æ rfl)<|ES.cons (EV.Æ rfl) ES.nil)<|KX H P S A C rfl j<|by exact ϴ ‹_› rfl⟩ CR.nil)<|D7.cons (rs:=[t,t]) (qs:=[]) (TP.one<|by decide) (ES.cons (EV.ñ<|ES.cons EV.ï<|ES.cons EV.ï ES.nil) ES.nil) rfl (CR.p1 (by decide) rfl ⟨_,EV.fn (ES.cons (EV.Æ rfl)<|ES.cons (EV.Æ rfl) ES.nil)<|read0 H Q S C rfl j<|by exact ϴ ‹_› rfl⟩<|CR.p1 (by decide) rfl ⟨_,EV.fn (ES.cons (EV.Æ rfl)<|ES.cons (EV.Æ rfl) ES.nil)<|KX H Q S A C rfl j<|by exact ϴ ‹_› rfl⟩ CR.nil) D7.nil)<|Ϙ rfl)<|.trans (.skip rfl<|.skip rfl .refl) .shadow
 have nr:∀{x y z:ā},b3 (wt 0 s,wt 32 s,wt 64 s) lo d x y z->EV 16 ((14,(.ñ [.á x,.á y,.á z],0))::(13,(.Ñ [t,t,t,t],1))::gD) (.comp (.fn ħ [(.Æ 15),(.c<|.int 1024)]) (.one 15) Ń [(.Æ 14)] Option.none) f 1 ((14,(.ñ [.á x,.á y,.á z],0))::(13,(.Ñ [t,t,t,t],1))::gD):=by
  intro x y z h;exact EV.comp (ES.cons (EV.Æ rfl) ES.nil) rfl rfl<|CR.p1 (by decide) rfl ⟨_,EV.fn (ES.cons (EV.Æ rfl)<|ES.cons EV.ï ES.nil)<|Nq (gY _ _) h.1⟩<|CR.p1 (by decide) rfl ⟨_,EV.fn (ES.cons (EV.Æ rfl)<|ES.cons EV.ï ES.nil)<|Nq (gY _ _) h.2.1⟩<|CR.p1 (by decide) rfl ⟨_,EV.fn (ES.cons (EV.Æ rfl)<|ES.cons EV.ï ES.nil)<|Nq (gY _ _) h.2.2⟩ CR.nil
 have W:∀n,jq (n+1) f f=À true:=λn=>bK (by
  intro x hx;simp only[ő,Ē,Ŷ] at hx;rcases hx with rfl|rfl|rfl<;>exact bb _)
 have J:∀n,jq (n+1) t t=À true:=λn=>sa (by
  intro x hx;simp only[ő,Ē,Ŷ] at hx;rcases hx with rfl|rfl|rfl<;>exact bb _)
 have c6:S1 50 16 ((13,(.Ñ [t,t,t,t],1))::gD) (OC) ((13,(.Ñ [t,t,t,t],0))::(7,(f,0))::(13,(.Ñ [t,t,t,t],1))::gD):=by
  refine S1.skip (EV.mR (EV.cmp (EV.comp (ES.cons (EV.Æ rfl) ES.nil) rfl rfl<|CR.p1 (by decide) rfl ⟨_,nr R⟩<|CR.p1 (by decide) rfl ⟨_,nr q2⟩ CR.nil) (EV.Õ (EV.Ñ<|ES.cons (EV.dK rfl (by decide)<|by decide) ES.nil) EV.ï<|wk (k:=2) (by decide)<|Ϙ rfl)<|HE rfl ?_) rfl<|EV.cmp (EV.dK rfl (by decide)<|by decide) (EV.Õ (EV.Ñ<|ES.cons (EV.ñ<|ES.cons (EV.Æ rfl)<|ES.cons (EV.Æ rfl)<|ES.cons (EV.Æ rfl) ES.nil) ES.nil) EV.ï<|wk (k:=4) (by decide)<|Ϙ rfl)<|HE rfl ?_) rfl
  .refine bK λx hx=>?_;simp only[ő,Ē,Ŷ] at hx;rcases hx with rfl|rfl<;>exact W _
  .refine bK λx hx=>?_;simp only[ő,Ē,Ŷ] at hx;rcases hx with rfl|rfl|rfl|rfl<;>exact J _
 exact ew rfl (Ϙ rfl)<|SV.cons (S1.î c1<|by decide)<|SV.cons (S1.î (c2 (K<|by decide) (K<|by decide)<|K<|by decide)<|by decide)<|SV.cons c3<|SV.cons (S1.î c4<|by decide)<|SV.cons (S1.î c5<|by decide)<|SV.cons c6<|SV.ret<|EV.sub (EV.ä rfl EV.ï rfl rfl) EV.ï rfl
end
noncomputable abbrev LY:=Ò×Á×Á
noncomputable def qH(x:LY):Á:=if x.1 then x.2.2 else x.2.1
noncomputable def Ť:Ã Á:=[102,105,108,115,116,107]
noncomputable def c8:Ã Á:=[0,1,2,4,6,7,8,9,10,11,12]
def Xt(n g:Á):Prop:=n∈Ť/\(g=n-32\/∃f∈c8,g=119711+52*f+n)
def Rr(c n:Á):Ò:=mH (Ħ [Ģ c]) ⟨#[n]⟩
def F5:Ò:=Ť.all λn=>(n::(n-32)::c8.map λf=>119711+52*f+n).all λc=>!ŗ.contains (c:Â)&&Rr c n
def Im:F5=true:=by decide
def Dk(h:Xt n g)(j:c=n\/c=g):ŗ.contains (c:Â)=false/\Ħ [Ģ c]=À (Ģ n,0):=by
 have t:=Im;unfold F5 at t;rw[ę] at t;have b:=t n h.1;rw[ę] at b;have a:=b c (by
  rcases j with rfl|rfl
  .simp
  .rcases h.2 with e|⟨f,k,e⟩
   .simp[e]
   .refine zi _<|zi _<|dp.2 ⟨f,k,e.symm⟩)
 rw[è,rN] at a;exact⟨a.1,dB a.2⟩
noncomputable def SG:Ã V:=ŗ.map .int
noncomputable def sg(k:Á):Á:=(ŗ.getD k 0).toNat
def J7(k:Á):Ò:=decide (173<=sg k)&&decide (sg k<65280)&&decide (ŗ[k]?=À (sg k:Â))&&[sg k-1,sg k,sg k+1].all (λ(i:Á)=>mH (qD [.int i]) ⟨#[i]⟩)&&ŗ.contains (sg k:Â)
def LJ:(List.range 27).all J7=true:=by decide
def Qc(a:k<27):173<=sg k/\sg k<65280/\SG[k]?=À (.int<|sg k)/\(∀i:Á,i=sg k-1\/i=sg k\/i=sg k+1->qD [.int i]=À (Ģ i,0))/\ŗ.contains (sg k:Â)=true:=by
 have h:=LJ;have h:=ę.1 h;have h:=h k<|gh.2 a;unfold J7 at h;simp only[è,ϻ,ę] at h;refine⟨h.1.1.1.1,h.1.1.1.2,by unfold SG;refine Å (ô)<|Å h.1.1.2 ?_;rfl,λi hi=>dB<|h.1.2 i ?_,h.2⟩;rcases hi with rfl|rfl|rfl
 .exact .head _
 .exact .tail _<|.head _
 .exact .tail _<|.tail _<|.head _
def Ms:SG.length=27:=by decide
def Kn(x:Â):Ĥ .In (.int x) (.Ñ SG)=À (ŗ.contains x):=by
 have e:SG.mapM (m:=Ï) (λv=>match v with|V.int y=>À y|_=>Ä)=À ŗ:=by decide
 refine(?_:(SG.mapM (m:=Ï) (λv=>match v with|V.int y=>À y|_=>Ä)).map (λa=>a.contains x)=_);refine Å e ?_;rfl
def Lf(c:Á):Ĺ [Ģ c]=À (.bool<|ŗ.contains (c:Â),0):=rfl
def aJ(a:Â)(n:Á):û a (n+1)=.int a::û (a+1) n:=by
 unfold û;refine Å range_succ_eq_map<|Å mC<|Å ſ ?_;congr 1
 .simp
 .refine ae λi _=>?_;simp;exact(wo 0xde088e0d8085)
def ĩ{n:Á}(h:n<=1000000):ć [.int n]=À (û 0 n):=by
 rw[show ć [.int (n:Â)]=if -1000000<=(n:Â)/\(n:Â)<=1000000 then À (û 0 (n:Â).toNat) else Ä from rfl,ť ⟨(A1 958889220035),(A1 0xf4240570d3f424057006) h⟩,Ě]
def zB(h:xs.length+ys.length<=1000000):ü .Add (.Ñ xs) (.Ñ ys)=À (.Ñ<|xs++ys,1):=by
 exact Å (show ü .Add (.Ñ xs) (.Ñ ys)=if xs.length+ys.length<=1000000 then À (.Ñ<|xs++ys,1) else Ä from rfl)<|Å (ť h) rfl
def ug{xs:Ã V}(h:xs.length<=1000000):dD (.Ñ xs)=À (xs.length:Â):=ť h
def Kk{k:Á}(h:xs.length<=1000000):au (.Ñ xs) .none (.int k)=À (.Ñ<|xs.take k,1):=by
 rw[show au (.Ñ xs) .none (.int (k:Â))=if 0<=(k:Â)/\xs.length<=1000000 then À (.Ñ<|xs.take (k:Â).toNat,1) else Ä from rfl,ť ⟨by exact(A1 3571),h⟩,Ě]
def Rx{k:Á}(h:xs.length<=1000000):au (.Ñ xs) (.int k) .none=À (.Ñ<|xs.drop k,1):=by
 rw[show au (.Ñ xs) (.int (k:Â)) .none=if 0<=(k:Â)/\xs.length<=1000000 then À (.Ñ<|xs.drop (k:Â).toNat,1) else Ä from rfl,ť ⟨by omega,h⟩,Ě]
def ϡ(h:xs.length<=1000000):Ń [.Ñ xs]=À xs:=ni h
def iZ{xs:Ã V}(h:xs.length<=1000000):gE [.Ñ xs]=À (xs.zipIdx.map λx=>.ñ [.int x.2,x.1]):=by
 exact(ni (Å (É ..)<|Å (zp ..) h):qh _=_)
def kj{xs:Ã V}{k:Á}{v:V}(h:(xs.zipIdx.map λx=>V.ñ [.int x.2,x.1])[k]?=À v):∃x,xs[k]?=À x/\v=.ñ [.int k,x]:=by
 rw[ô,getElem?_zipIdx,Option.map_map] at h;cases e:xs[k]? with
 |none=>rw[e] at h;exact ÿ h
 |some x=>rw[e] at h;simp at h;exact⟨x,rfl,h.symm⟩
def ŧ{xs:Ã α}{k:Á}(h:(xs.map f)[k]?=À v):∃x,xs[k]?=À x/\v=f x:=by
 have h:=(ô ..)▸h;cases e:xs[k]? with
 |none=>have h:=e▸h;exact ÿ h
 |some x=>have h:=e▸h;cases h;exact⟨x,rfl,rfl⟩
def dA{xs:Ã α}{k:Á}(h:xs[k]?=À x):(xs.map f)[k]?=À (f x):=Å (ô)<|Å h rfl
noncomputable def Cg(β:Ò):V:=.int<|if β then 1 else 0
def Di(n:Á):(rX n [V.bool true]).flatten=rX n (.bool true):=by
 induction n with
 |zero=>rfl
 |succ n ih=>refine Å hU<|Å gZ<|Å ih ?_;rfl
def Jk{ls:Ã LY}{code:Á}(h0:1<=ls.length)(j:ls.length<=100)(Y:∀x∈ls,Xt x.2.1 x.2.2)(O:code<27):
  ϣ [.Ñ (ls.map λx=>Ģ x.2.1),.Ñ<|ls.map λx=>Ģ x.2.2,.Ñ<|ls.map λx=>Cg x.1,.int code]=À (.str ⟨(ls.map qH).toArray⟩,0):=by
 refine NL (Qc O) λs1 s2 s3 s4 s5=>?_;have K:∀c∈ls.map qH,ŗ.contains (c:Â)=false:=by
  intro c O;obtain⟨x,hx,rfl⟩:=dp.1 O;refine(Dk (Y x hx) ?_).1;unfold qH;cases x.1<;>simp
 have X:∀(k:Á)(x:LY),ls[k]?=À x->Ħ [Ģ (qH x)]=À (Ģ x.2.1,0):=by
  intro k x hx;refine(Dk (Y x<|Ŕ hx) ?_).2;unfold qH;cases x.1<;>simp
 generalize M:(ls.map λx=>Ģ x.2.1)=N;generalize hG:(ls.map λx=>Ģ x.2.2)=G;generalize hB:(ls.map λx=>Cg x.1)=B;generalize W:ls.map qH=cs at*;have lN:N.length=ls.length:=by rw[<-M,É]
 have lG:G.length=ls.length:=by rw[<-hG,É]
 have lB:B.length=ls.length:=by rw[<-hB,É]
 have L:cs.length=ls.length:=by rw[<-W,É]
 obtain⟨E,aE,rfl⟩:∃E aE,cs=E::aE:=by
  induction cs with
  |nil=>simp at L;exact((A1 254348806) h0 L).elim
  |cons a b=>exact⟨a,b,rfl⟩
 have lr:aE.length+1=ls.length:=by rw[<-L];rfl
 let g:Ã Á:=E::sg code::(aE++[sg code-1,sg code+1])
 let T:Ã V:=(E::aE).map Ģ
 let uA:Ã V:=g.map λc:Á=>.bool (ŗ.contains (c:Â))
 have A:T.length=ls.length:=by simp[T];exact L
 have lt:g.length=ls.length+3:=by simp[g];assumption
 let Γ0:ĳ:=[(0,(.Ñ N,0)),(1,(.Ñ G,0)),(2,(.Ñ B,0)),(3,(.int code,0))]
 have c1:EV 15 Γ0 QQ (.Ñ SG) 1 Γ0:=
  .Õ (.Ñ<|.cons .ï<|.cons .ï<|.cons .ï<|.cons .ï<|.cons .ï<|.cons .ï<|.cons .ï<|ES.cons EV.ï<|ES.cons EV.ï<|ES.cons EV.ï<|ES.cons EV.ï ES.nil) (EV.fn (ES.cons EV.ï<|ES.cons EV.ï ES.nil) (r:=.Ñ<|û 65024 16) rfl) (zB<|by rw[Ś];decide)
 let ò:ĳ:=(4,(.Ñ SG,1))::Γ0
 have Vo:∀β:Ò,ō (.ñ [.Ñ N,.Ñ G]) (Cg β)=À (.Ñ<|if β then G else N):=by intro β;cases β<;>rfl
 have c2:EV 15 ò ON (.Ñ T) 1 ò:=by
  refine EV.comp (ES.cons (EV.Æ rfl) ES.nil) (iZ<|(A2 0xf4240570010266427106) j lB) rfl (CR.each (by rw[É,zp];exact(A3 77848781094) lB A) λk v r q m=>?_);obtain⟨y,hy,rfl⟩:=kj q;obtain⟨x,hx,rfl⟩:=ŧ<|hB.symm▸hy;have D:r=Ģ (qH x):=by
   simp only[T,<-W] at m;have m:=(ſ ..)▸m;have:=dA (f:=Ģ∘qH) hx;have m:=(this ..)▸m;cases m;rfl
  subst D;refine⟨_,_,_,TP.two (by decide)<|by decide,EV.sub (EV.sub (EV.ñ<|ES.cons (EV.Æ rfl)<|ES.cons (EV.Æ rfl) ES.nil) (EV.Æ rfl)<|Vo x.1) (EV.Æ rfl)<|Ϛ ?_ ?_,.skip rfl<|.skip rfl .refl⟩
  .unfold qH;cases x.1
   .rw[<-M];exact dA (f:=λx:LY=>Ģ x.2.1) hx
   .rw[<-hG];exact dA (f:=λx:LY=>Ģ x.2.2) hx
  .cases x.1
   .show N.length<=_;exact(A2 0xf4240570010266427106) j lN
   .show G.length<=_;exact(A2 0xf4240570010266427106) j lG
 let ĕ:ĳ:=(7,(.Ñ T,0))::(7,(.Ñ T,1))::ò
 have vm:∀i:Â,ü .Sub (.int (sg code:Â)) (.int i)=À (.int<|(sg code:Â)-i,0):=λi=>rfl;have c3:EV 15 ((7,(.Ñ T,1))::ò) RA (.Ñ<|g.map Ģ) 1 ĕ:=by
  have q1:qD [.int ((sg code:Â)-1)]=À (Ģ<|sg code-1,0):=by
   have:=s4 (sg code-1)<|.inl rfl;rwa [show((sg code-1:Á):Â)=(sg code:Â)-1 by exact(A1 0xe0d9e09d50ad2706) s1] at this
  have S:ō (.Ñ SG) (.int code)=À (.int<|sg code):=Ϛ s3 (by rw[Ms];decide);rw[(show g.map Ģ=((T.take 1++[Ģ (sg code)])++T.drop 1)++[Ģ (sg code-1),Ģ<|sg code+1] by simp[g,T])];have P:(T.take 1).length<=1:=List.length_take_le _ _;have l2:(T.drop 1).length<=T.length:=by rw[List.length_drop];exact(A1 57488)
  refine EV.Õ (EV.Õ (EV.Õ (EV.bp (EV.dK rfl (by decide)<|by decide) EV.ï EV.ï<|Kk (k:=1)<|(A2 0xf4240570010266427106) j A) (EV.Ñ<|ES.cons (EV.fn (ES.cons (EV.ä rfl (EV.Æ rfl) rfl S) ES.nil)<|s4 _<|.inr<|.inl rfl) ES.nil)<|zB ?_) (EV.bp (EV.Æ rfl) EV.ï EV.ï<|Rx (k:=1)<|(A2 0xf4240570010266427106) j A)<|zB ?_) (EV.Ñ<|ES.cons (EV.fn (ES.cons (EV.Õ (EV.ä rfl (EV.Æ rfl) rfl S) EV.ï rfl) ES.nil) q1)<|ES.cons (EV.fn (ES.cons (EV.Õ (EV.ä rfl (EV.Æ rfl) rfl S) EV.ï rfl) ES.nil)<|s4 (sg code+1)<|.inr<|.inr rfl) ES.nil)<|zB ?_
  .simp only[kc,yF];exact(A1 0xf424057e080e006) P
  .simp only[eU,kc,yF];exact(A4 0xf4240570e38801006e30621266427206) j A P l2
  .simp only[eU,kc,yF];exact(A4 0xf4240572170e388801006e30621266427206) j A P l2
 let gD:ĳ:=(8,(.Ñ<|g.map Ģ,0))::(8,(.Ñ<|g.map Ģ,1))::ĕ
 have p:(g.map Ģ).length=ls.length+3:=by rw[É];exact lt
 have J:uA.length=ls.length+3:=by simp only[uA,É];exact lt
 have c4:EV 15 ((8,(.Ñ<|g.map Ģ,1))::ĕ) (.comp (.fn Ĺ [(.Æ 9)]) (.one 9) Ń [(.Æ 8)] Option.none) (.Ñ uA) 1 gD:=by
  refine EV.comp (ES.cons (EV.dK rfl (by decide)<|by decide) ES.nil) (ϡ<|(A2 0xf42405700317180266427106) j p) rfl (CR.gp (by decide) rfl ((A3 0x123172802631728126) p J) λk v r q m=>?_);obtain⟨c,hx,rfl⟩:=ŧ q;have m:=(dA (f:=λc:Á=>V.bool<|ŗ.contains (c:Â)) hx)▸(show uA=g.map λc:Á=>V.bool (ŗ.contains (c:Â)) from rfl)▸m;obtain rfl:=à m;exact⟨_,EV.fn (ES.cons (EV.Æ rfl) ES.nil)<|Lf c⟩
 let w:ĳ:=(10,(.Ñ uA,1))::gD
 have t:∀{k c:Á},g[k]?=À c->ō (.Ñ<|g.map Ģ) (.int k)=À (Ģ c)/\ō (.Ñ uA) (.int k)=À (.bool<|ŗ.contains (c:Â)):=λ{k c}h=>
  ⟨Ϛ (dA h)<|(A2 0xf42405700317180266427106) j p,Ϛ (dA (f:=λc:Á=>V.bool<|ŗ.contains (c:Â)) h)<|(A2 0xf42405700317180266427106) j J⟩
 have m:û 0 (T.length+1)=.int 0::.int 1::û 2 aE.length:=by
  rw[show T.length+1=aE.length+1+1 by simp[T],aJ,aJ];rfl
 have c5:EV 15 w Od (.Ñ T) 1 w:=by
  refine EV.oS (ES.cons (EV.Õ (EV.č rfl<|ug<|(A2 0xf4240570010266427106) j A) EV.ï (r:=.int ((T.length+1:Á):Â)) rfl) ES.nil) (ĩ<|(A2 0xf424057e08010266427106) j A) rfl ?_;rw[m,show T=Ģ E::aE.map Ģ from rfl];refine fj.yes (TP.one<|by decide) (EV.cmp (EV.ä rfl (EV.Æ rfl) rfl (t (k:=0) rfl).2) EV.ï rfl) (by rw[(K E<|.head _)];rfl) ((EV.ä rfl (EV.Æ rfl) rfl (t (k:=0) rfl).1).Ī<|.skip rfl .refl) ?_;refine fj.no (TP.one<|by decide) ((EV.cmp (EV.ä rfl (EV.Æ rfl) rfl (t (k:=1) rfl).2) EV.ï rfl).Ī<|.skip rfl .refl) (by rw[s5];rfl) ?_;refine fj.each (by rw[Ś,É]) λk v r q m=>?_;obtain⟨rfl,R⟩:=ś q;obtain⟨c,hx,rfl⟩:=ŧ m;have C:g[k+2]?=À c:=by
   show(aE++[sg code-1,sg code+1])[k]?=À c;rw[List.getElem?_append_left R];exact hx
  have I:(2:Â)+(k:Â)=((k+2:Á):Â):=by exact(A1 588276584028037)
  refine⟨_,_,_,_,_,_,TP.one<|by decide,EV.cmp (EV.ä rfl (EV.Æ rfl) rfl<|by rw[I];exact(t C).2) EV.ï rfl,by rw[(K c<|List.mem_cons_of_mem _<|Ŕ hx)];rfl,EV.ä rfl (EV.Æ rfl) rfl<|by rw[I];exact(t C).1,.skip rfl .refl⟩
 let o:ĳ:=(12,(.Ñ T,1))::w
 have H:∀b:Ò,Ĥ .Is (.bool b) (.bool b)=À true:=by intro b;cases b<;>rfl
 have c6:S1 50 15 o (Xz) ((12,(.Ñ T,0))::(4,(.Ñ SG,0))::o):=by
  have e1:EV 15 o QY (.Ñ<|rX (g.map Ģ).length<|.bool true) 1 ((4,(.Ñ SG,0))::o):=by
   refine EV.comp (ES.cons (EV.č rfl<|ug<|(A2 0xf42405700317180266427106) j p) ES.nil) (ĩ<|(A2 0xf42405700317180266427106) j p) rfl ?_;rw[(show(g.map Ģ).length=(ls.length+2)+1 by assumption),aJ,hU];have s:∀{k:Á}{c:Á},g[k]?=À c->vV [Ģ c]=À (.int (c:Â),0):=λ_=>rfl;refine CR.cons (ĕ:=(4,(.Ñ SG,0))::o) (TP.one<|by decide) (EV.Ī (EV.cmp (EV.ä rfl (EV.Æ rfl) rfl (t (k:=0) rfl).2) (EV.cmp (EV.fn (ES.cons (EV.ä rfl (EV.Æ rfl) rfl (t (k:=0) rfl).1) ES.nil)<|s (k:=0) rfl) (EV.dK rfl (by decide)<|by decide)<|Kn _)<|H _) ?_) ?_
   .exact .keep<|.skip rfl .refl
   refine CR.gp (by decide) rfl (by rw[Ś,List.length_replicate]) λk v r q m=>?_;obtain⟨rfl,R⟩:=ś q;have D:r=.bool true:=(GF.mp<|Ŕ m).2;subst D;have C:=Ų (show k+1<g.length by exact(A3 0x1e2812170821631708126) lt R);generalize g[k+1]=c at C;have I:(0:Â)+1+(k:Â)=((k+1:Á):Â):=by exact(A1 60277448325)
   exact⟨_,EV.cmp (EV.ä rfl (EV.Æ rfl) rfl<|by rw[I];exact(t C).2) (EV.cmp (EV.fn (ES.cons (EV.ä rfl (EV.Æ rfl) rfl<|by rw[I];exact(t C).1) ES.nil)<|s C) (EV.Æ rfl)<|Kn _)<|H _⟩
  have e2:EV 15 ((4,(.Ñ SG,0))::o) (.comp (.fn Ħ [(.Æ 14)]) (.one 14) Ń [(.Æ 12)] Option.none) (.Ñ N) 1 ((12,(.Ñ T,0))::(4,(.Ñ SG,0))::o):=by
   refine EV.comp (ES.cons (EV.dK rfl (by decide)<|by decide) ES.nil) (ϡ<|(A2 0xf4240570010266427106) j A) rfl (CR.gp (by decide) rfl (by exact(A3 1108640932134) lN A) λk v r q m=>?_);obtain⟨x,hx,rfl⟩:=ŧ<|ſ▸W.symm▸(show T=(E::aE).map Ģ from rfl)▸q;cases((dA (f:=λx:LY=>Ģ x.2.1) hx)▸M.symm▸m);exact⟨_,EV.fn (ES.cons (EV.Æ rfl) ES.nil)<|X k x hx⟩
  refine S1.skip (EV.mR (EV.cmp e1 (EV.Õ (EV.Ñ<|ES.cons EV.ï ES.nil) (EV.č rfl<|ug<|(A2 0xf42405700317180266427106) j p)<|wk ((A2 0x3e83700317180266427106) j p)<|Ϙ rfl)<|HE (Ù V.Ñ (Di _).symm)<|bK λx hx=>?_) rfl<|EV.cmp e2 (EV.Æ rfl)<|HE rfl<|bK λx hx=>?_) rfl
  .rw[(GF.mp hx).2];exact u5 _
  .obtain⟨y,_,rfl⟩:=List.mem_map.mp<|M.symm▸hx;exact ID _
 exact ew rfl (Ϙ rfl)<|SV.cons (S1.î c1<|by decide)<|SV.cons (S1.î c2<|by decide)<|SV.cons (S1.î c3<|by decide)<|SV.cons (S1.î c4<|by decide)<|SV.cons (S1.î c5<|by decide)<|SV.cons c6<|SV.ret<|EV.fn (ES.cons EV.ï<|ES.cons (EV.Æ rfl) ES.nil)<|JN<|(A2 0x3e8370010266427106) j L
noncomputable def iq(ρ:Á->Á)(s:Str):Str:=⟨s.cps.map ρ⟩
def rV(ρ:Á->Á):V->V
 |.str s=>.str<|iq ρ s
 |v=>v
def GV(D:Á->Prop):V->Prop
 |.str s=>∀c∈s.cps,D c
 |.Ñ xs=>∀x∈xs,∃i,x=.int i
 |.ñ _=>False
 |_=>True
def rS(ρ:Á->Á)(σ:St):St:=map (f6 λx=>(rV ρ x.1,x.2)) σ
def Gd(D:Á->Prop)(σ:St):Prop:=∀i v m,σ.get i=À (v,m)->GV D v
def rO(ρ:Á->Á):mj->mj
 |.ret v=>.ret<|rV ρ v
 |o=>o
def GO(D:Á->Prop):mj->Prop
 |.ret v=>GV D v
 |_=>True
section
variable{ρ:Á->Á}{D:Á->Prop}{F:Á}
def xV(σ:St)(i:Á):(rS ρ σ).get i=(σ.get i).map λx=>(rV ρ x.1,x.2):=by
 unfold St.get rS;refine Å (ô) ?_;cases σ[i]? with
 |none=>rfl
 |some x=>cases x<;>rfl
def fZ(σ:St)(i:Á)(v:V)(m:Á):rS ρ (σ.ö i v m)=(rS ρ σ).ö i (rV ρ v) m:=by
 unfold St.ö rS;refine Å map_set ?_;rfl
def Bn(σ:St)(i:Á):rS ρ (σ.é i)=(rS ρ σ).é i:=by
 unfold St.é;refine Å (xV ..) ?_;cases σ.get i with
 |none=>rfl
 |some x=>
  obtain⟨v,m⟩:=x;simp;split
  .rfl
  .exact fZ _ _ _ _
def Gd.ö(h:Gd D σ)(b:GV D v):Gd D (σ.ö i v m):=by
 intro j w k a;rw[St.a9] at a;split at a
 .cases a;exact b
 .exact h j w k a
def Gd.é(h:Gd D σ)(i:Á):Gd D (σ.é i):=by
 unfold St.é;cases e:σ.get i with
 |none=>exact h
 |some x=>
  obtain⟨v,m⟩:=x;simp only;split
  .exact h
  .exact h.ö<|h i v m e
def kS(ρ:Á->Á)(D:Á->Prop)(σ:St)(a:PE)(v:V)(m:Á)(τ:St):Prop:=ß a (rS ρ σ)=À (rV ρ v,m,rS ρ τ)/\GV D v/\Gd D τ
def CT(ρ:Á->Á)(D:Á->Prop)(σ:St)(a:Ã PE)(v:Ã V)(τ:St):Prop:=ď a (rS ρ σ)=À (v.map<|rV ρ,rS ρ τ)/\(∀x∈v,GV D x)/\Gd D τ
def qZ(ρ:Á->Á)(D:Á->Prop)(F:Á)(σ:St)(s':Ã PS)(o:mj)(τ:St):Prop:=ċ F s' (rS ρ σ)=À (rO ρ o,rS ρ τ)/\GO D o/\Gd D τ
def gP(ρ:Á->Á)(D:Á->Prop)(F:Á)(σ:St)(s':PS)(o:mj)(τ:St):Prop:=cX F s' (rS ρ σ)=À (rO ρ o,rS ρ τ)/\GO D o/\Gd D τ
def Ϭ(ρ:Á->Á)(D:Á->Prop)(e a:PE):Prop:=∀σ v m τ,Gd D σ->ß e σ=À (v,m,τ)->kS ρ D σ a v m τ
def wH(ρ:Á->Á)(D:Á->Prop)(e a:Ã PE):Prop:=∀σ v τ,Gd D σ->ď e σ=À (v,τ)->CT ρ D σ a v τ
def kE(ρ:Á->Á)(D:Á->Prop)(F:Á)(s s':Ã PS):Prop:=∀σ o τ,Gd D σ->ċ F s σ=À (o,τ)->qZ ρ D F σ s' o τ
def fc(ρ:Á->Á)(D:Á->Prop)(F:Á)(s s':PS):Prop:=∀σ o τ,Gd D σ->cX F s σ=À (o,τ)->gP ρ D F σ s' o τ
def da(s:Str):(iq ρ s).length=s.length:=by simp[iq,oh]
def wi(v:V):Ó (rV ρ v)=Ó v:=by
 cases v with
 |str s=>exact Å (show Ó (rV ρ<|.str s)=if(iq ρ s).length<1000000 then À ((iq ρ s).length !=0) else Ä from rfl)<|by rw[da];rfl
 |_=>rfl
def Ϭ.i:Ϭ ρ D (.c<|.int v) (.c<|.int v):=λσ w m τ h e=>BM (M:=kS ρ D σ _) e ⟨ļ,trivial,h⟩
def Ϭ.n:Ϭ ρ D (.c .none) (.c .none):=λσ w m τ h e=>BM (M:=kS ρ D σ _) e ⟨ļ,trivial,h⟩
def Ϭ.Æ{i:Á}:Ϭ ρ D (.Æ i) (.Æ i):=λσ w m τ h e=>ud (M:=kS ρ D σ _) e λx a=>⟨by
 refine(?_:((rS ρ σ).get i).map (λx=>(x.1,0,(rS ρ σ).é i))=_);refine Å (xV ..)<|Å (a ..)<|Å (Bn ..) ?_;rfl,h i x.1 x.2 a,h.é i⟩
def wH.nil:wH ρ D [] []:=λσ v τ h e=>fy (N:=CT ρ D σ _) e ⟨Ą,⟨λ_ h=>(ϭ h),h⟩⟩
def wH.cons(j:Ϭ ρ D a a')(p:wH ρ D es SA):wH ρ D (a::es) (a'::SA):=λσ v τ h e=>aV (N:=CT ρ D σ _) e λx n Ø xs o c m=>by
 exact Ϸ (j _ _ _ _ h c) λq1 g q=>Ϸ (p _ _ _ q m) λq2 f b=>⟨Ð q1 q2,λy k=>(ő.1 k).elim (λe=>e▸g)<|f y,b⟩
def G2(a b:Str):iq ρ (a++b)=iq ρ a++iq ρ b:=by
 exact(Å Array.map_append rfl:(⟨(a.cps++b.cps).map ρ⟩:Str)=⟨a.cps.map ρ++b.cps.map ρ⟩)
def OA(o:op=.Add\/op=.Sub\/op=.Mult)(gx:GV D x)(g:GV D y)(h:ü op x y=À (r,m)):ü op (rV ρ x) (rV ρ y)=À (rV ρ r,m)/\GV D r:=by
 revert gx g;rcases o with rfl|rfl|rfl
 .exact zO (M:=λx y r m=>GV D x->GV D y->ü .Add (rV ρ x) (rV ρ y)=À (rV ρ r,m)/\GV D r) h (λ_ _ _ _=>⟨rfl,trivial⟩)
   ⟨λ_ _ _ _=>⟨rfl,trivial⟩,λ_ _ f _ _=>⟨ť f,trivial⟩,λ_ _ f _ _=>⟨ť f,trivial⟩⟩
   (λa b f gx g=>⟨(ť<|Å (da ..)<|Å (da ..) f).trans<|Ù (λs=>À (V.str s,0)) (G2 a b).symm,λc f=>(Array.mem_append.1<|show c∈a.cps++b.cps from f).elim (gx c)<|g c⟩)
   λa b f gx g=>⟨ť f,λc f=>(æ.1 f).elim (gx c)<|g c⟩
 .exact z7 (M:=λx y r m=>GV D x->GV D y->ü .Sub (rV ρ x) (rV ρ y)=À (rV ρ r,m)/\GV D r) h (λ_ _ _ _=>⟨rfl,trivial⟩)
   ⟨λ_ _ _ _=>⟨rfl,trivial⟩,λ_ _ f _ _=>⟨ť f,trivial⟩,λ_ _ f _ _=>⟨ť f,trivial⟩⟩
 .exact Ah (M:=λx y r m=>GV D x->GV D y->ü .Mult (rV ρ x) (rV ρ y)=À (rV ρ r,m)/\GV D r) h (λ_ _ f _ _=>⟨ť f,trivial⟩)
   ⟨λ_ _ _ _=>⟨rfl,trivial⟩,λ_ _ f _ _=>⟨ť f,trivial⟩,λ_ _ f _ _=>⟨ť f,trivial⟩⟩
   λa b f gx _=>⟨ť f,λc f=>by
    exact ì (mem_flatten.1 f) λl k j=>gx c<|((mem_replicate.1 k).2)▸j⟩
def Ϭ.Õ(o:op=.Add\/op=.Sub\/op=.Mult)(k:Ϭ ρ D a a')(w:Ϭ ρ D b b'):Ϭ ρ D (.Õ op a b) (.Õ op a' b'):=λσ v m τ h e=>xH (M:=kS ρ D σ _) e λx n Ø y l t r m f p s=>by
 exact Ϸ (k _ _ _ _ h f) λq1 g A=>(Ϸ (w _ _ _ _ A p) λq2 j c=>(Ö (λq g3=>⟨Û q1 q2 q,g3,c⟩)<|OA (ρ:=ρ) o g j s))
def map_inj{ρ:Á->Á}(inj:∀a b,D a->D b->ρ a=ρ b->a=b){a:Ã Á}:∀{b:Ã Á},(∀c∈a,D c)->(∀c∈b,D c)->a.map ρ=b.map ρ->a=b:=by
 induction a with
 |nil=>intro b _ _ h;induction b with
  |nil=>rfl
  |cons=>injection h
 |cons c a ih=>intro b f g h;induction b with
  |nil=>injection h
  |cons d b=>injection h with h1 h2;exact Å (inj c d (f c<|.head _) (g d<|.head _) h1)<|Å (ih (λc h=>f c<|.tail _ h) (λc h=>g c<|.tail _ h) h2) rfl
def Hm{a b:Str}(inj:∀a b,D a->D b->ρ a=ρ b->a=b)(f:∀c∈a.cps,D c)(g:∀c∈b.cps,D c):(iq ρ a==iq ρ b)=(a==b):=by
 refine Å (pI<|bL ..)<|Å (pI<|ka ..)<|Å (pI<|ka ..) ?_;refine⟨λk=>?_,Ù _⟩;obtain⟨⟨a⟩⟩:=a;obtain⟨⟨b⟩⟩:=b;exact Ù (λl=>(⟨⟨l⟩⟩:Str))<|map_inj inj (λc h=>f c<|yR.2 h) (λc h=>g c<|yR.2 h)<|by simpa[iq] using k
def Rp(inj:∀a b,D a->D b->ρ a=ρ b->a=b)(o:op=.Eq\/op=.Gt\/op=.Lt)(gx:GV D x)(f:GV D y)(h:Ĥ op x y=À t):Ĥ op (rV ρ x) (rV ρ y)=À t:=by
 rcases o with rfl|rfl|rfl
 .refine Ĩ h (λh=>dT (M:=λx y=>Ĥ .Eq (rV ρ x) (rV ρ y)=À t) h λ_ _ h=>h) λh=>?_;revert gx f;exact nu (n:=4) (M:=λx y t=>GV D x->GV D y->Ĥ .Eq (rV ρ x) (rV ρ y)=À t) h
   (λh=>kA (M:=λx y t=>GV D x->GV D y->Ĥ .Eq (rV ρ x) (rV ρ y)=À t) h (λ_ _ _ _=>rfl) (λa b g j=>Ù À<|Hm inj g j) (λ_ _ _ _=>rfl) λ_ _=>rfl) (λ_ _ h _ _=>h) λ_ _ c h _ _=>(ť c).trans h
 .exact Ŝ (M:=λx y=>Ĥ .Gt (rV ρ x) (rV ρ y)=À t) h λ_ _ h=>h
 .exact Ĩ h (λh=>dT (M:=λx y=>Ĥ .Lt (rV ρ x) (rV ρ y)=À t) h λ_ _ h=>h) λh=>Ŝ (M:=λx y=>Ĥ .Lt (rV ρ x) (rV ρ y)=À t) h λ_ _ h=>h
def Ϭ.cmp(inj:∀a b,D a->D b->ρ a=ρ b->a=b)(o:op=.Eq\/op=.Gt\/op=.Lt)(k:Ϭ ρ D a a')(t:Ϭ ρ D b b'):Ϭ ρ D (.cmp op a b) (.cmp op a' b'):=λσ v m τ h e=>rI (M:=kS ρ D σ _) e λx n Ø y l s r f p q=>by
 exact Ϸ (k _ _ _ _ h f) λq1 g w=>Ϸ (t _ _ _ _ w p) λq2 j c=>⟨Ă q1 q2<|Rp inj o g j q,trivial,c⟩
def Ϭ.not(g:Ϭ ρ D a a'):Ϭ ρ D (.un .Not a) (.un .Not a'):=λσ v m τ h e=>As (M:=kS ρ D σ _) e λx n Ø r f j=>by
 refine Ϸ (g _ _ _ _ h f) λq1 p o=>?_;have c:∀x:V,HM .Not x=(Ó x).map λb=>.bool !b:=λx=>rfl;obtain⟨b,k,rfl⟩:=lb.1<|(c x).symm.trans j;exact⟨Rg q1<|(c _).trans<|Ù (f6 _)<|(wi x).trans k,trivial,o⟩
def Ϭ.cK(p:Ϭ ρ D a a')(t:Ϭ ρ D b b'):Ϭ ρ D (.cK a b) (.cK a' b'):=λσ v m τ h e=>xW (M:=kS ρ D σ _) e λx n Ø j=>by
 exact Ϸ (p _ _ _ _ h j) λq1 k f=>⟨λy l s c q=>Ϸ (t _ _ _ _ f q) λq2 o g=>⟨Ba q1 ((wi x).trans c) q2,o,g⟩,λc=>⟨Ak q1<|(wi _).trans c,k,f⟩⟩
def Ϭ.iQ(p:Ϭ ρ D a a')(t:Ϭ ρ D b b'):Ϭ ρ D (.iQ a b) (.iQ a' b'):=λσ v m τ h e=>AU (M:=kS ρ D σ _) e λx n Ø j=>by
 exact Ϸ (p _ _ _ _ h j) λq1 k f=>⟨λy l s c q=>Ϸ (t _ _ _ _ f q) λq2 o g=>⟨DZ q1 ((wi x).trans c) q2,o,g⟩,λc=>⟨C2 q1<|(wi _).trans c,k,f⟩⟩
def iX{σ:St}(h:σ.get i=À (v,m)):(rS ρ σ).get i=À (rV ρ v,m):=Å (xV ..)<|Å (h ..) rfl
def Ϭ.č{i:Á}:Ϭ ρ D (.č i) (.č i):=λσ v m τ h e=>sG (M:=kS ρ D σ _) e λx l n a b=>⟨fb (x:=(rS ρ σ).get i) (iX a) (fb (x:=dD<|rV ρ x) (by
 refine Đ b ?_;cases x with
 |str s=>exact Å (show dD (rV ρ<|.str s)=if(iq ρ s).length<=1000000 then À ((iq ρ s).length:Â) else Ä from rfl)<|by rw[da];rfl
 |_=>rfl) rfl),trivial,h⟩
def PL{x y r:V}(gx:GV D x)(h:ō x y=À r):ō (rV ρ x) (rV ρ y)=À (rV ρ r)/\GV D r:=by
 revert gx;refine nI (M:=λx y r=>GV D x->ō (rV ρ x) (rV ρ y)=À (rV ρ r)/\GV D r) h (λxs i k g b gx=>?_) (λ_ _ _ _ _ gx=>gx.elim) λs i k c g b gx=>⟨fb (x:=place (iq ρ s).length i) (Å (da ..) g) (by
  refine(?_:((s.cps.map ρ)[k]?).map _=_);exact Å (Array.getElem?_map)<|Å b<|Ù (λa=>À<|V.str ⟨a⟩) (Array.map_singleton (f:=ρ) (a:=c)).symm),λd m=>Array.mem_singleton.1 m▸gx c (tA b)⟩
 obtain⟨j,rfl⟩:=gx r<|Ŕ b;exact⟨fb (x:=place xs.length i) g b,trivial⟩
def Ϭ.ä{i:Á}(j:Ϭ ρ D a a'):Ϭ ρ D (.ä i a) (.ä i a'):=λσ v m τ h e=>sd (M:=kS ρ D σ _) e λw y l Ø x n r k f b p o=>by
 exact Ϸ (j _ _ _ _ h f) λq1 q c=>(Ö (λq2 g=>⟨fb (x:=(rS ρ σ).get i) (iX (v:=w.1) (m:=w.2) k)<|fb (x:=ß a'<|rS ρ σ) q1<|fb (x:=(rS ρ Ø).get i) (iX b)<|(È p).trans<|fb (x:=ō (rV ρ x)<|rV ρ y) q2 rfl,g,c⟩)<|PL (ρ:=ρ) (c i x n b) o)
end
section
variable{ρ:Á->Á}{D:Á->Prop}{F:Á}
def Eb(s:Str)(a hi:Ï Â):ľ (iq ρ s) a hi=iq ρ (ľ s a hi):=by
 unfold ľ;refine Å (da ..) ?_;split
 .rfl
 .unfold iq;simp only[Str.mk.injEq,map_toArray,Array.mk.injEq];refine Å List.map_filterMap ?_;simp
def D4{a hi:Ï Â}(h:c∈(ľ s a hi).cps):c∈s.cps:=by
 unfold ľ at h;split at h
 .exact h
 .simp at h;exact ì h λi _ hi=>tA hi
def Hg(h:ϳ l=À q):rV ρ l=l:=by
 cases l<;>first|rfl|injection h
def Pg(gx:GV D x)(h:au x l u=À (r,m)):au (rV ρ x) (rV ρ l) (rV ρ u)=À (rV ρ r,m)/\GV D r:=by
 revert gx;refine ot (M:=λx r m=>GV D x->au (rV ρ x) (rV ρ l) (rV ρ u)=À (rV ρ r,m)/\GV D r) h (λo k hi f g a gx=>⟨?_,λc a=>gx c<|D4 a⟩) (λxs b f g a gx=>⟨?_,λy j=>gx y<|su j⟩) λxs b f g a gx=>⟨?_,λy j=>gx y<|ta j⟩<;>
  refine Å (Hg f)<|Å (Hg g) ?_
 .exact fb (x:=ϳ l) f<|fb (x:=ϳ u) g<|(ť<|Å (Eb ..)<|Å (da ..) a).trans<|Ù (λs=>À (V.str s,0))<|Eb _ _ _
 .exact fb (x:=ϳ l) f<|fb (x:=ϳ u) g<|ť a
 .exact fb (x:=ϳ l) f<|fb (x:=ϳ u) g<|ť a
def Ϭ.bp(s:Ϭ ρ D a a')(E:Ϭ ρ D b b')(g:Ϭ ρ D c c'):Ϭ ρ D (.bp a b c) (.bp a' b' c'):=λσ v m τ h e=>xa (M:=kS ρ D σ _) e λx n Ø y l C z i o r m j A B G=>by
 refine Ϸ (s _ _ _ _ h j) λq1 k H=>?_;exact Ϸ (E _ _ _ _ H A) λq2 I f=>(Ϸ (g _ _ _ _ f B) λq g3 p=>(Ö (λt w=>⟨KI q1 q2 q t,w,p⟩)<|Pg (ρ:=ρ) k G))
def OZ(ρ:Á->Á)(D:Á->Prop)(f a:Ã V->Ï (V×Á)):Prop:=∀xs r m,(∀x∈xs,GV D x)->f xs=À (r,m)->a (xs.map<|rV ρ)=À (rV ρ r,m)/\GV D r
def Ϭ.fn(k:OZ ρ D f f')(c:wH ρ D es SA):Ϭ ρ D (.fn f es) (.fn f' SA):=λσ v m τ h e=>kq (M:=kS ρ D σ _) e λxs Ø r m a j=>by
 exact Ϸ (c _ _ _ h a) λq1 g o=>Ö (λq2 b=>⟨dJ q1 q2,b,o⟩)<|k _ _ _ g j
def kE.nil:kE ρ D F [] []:=λσ o τ h e=>FH (O:=qZ ρ D F σ []) e ⟨ē,trivial,h⟩
def kE.cons(k:fc ρ D F s s')(p:kE ρ D F ss Ql):kE ρ D F (s::ss) (s'::Ql):=λσ o τ h e=>Ŵ (x:=cX F s σ) e λm Ø f a=>by
 refine Ϸ (k _ _ _ h f) λq1 g b=>?_
 induction m with
 |next=>
  exact Ϸ (p _ _ _ b a) λq2 j c=>⟨eh q1 q2,j,c⟩
 |brk=>exact â (M:=qZ ρ D F σ _) a ⟨fb (x:=cX F s'<|rS ρ σ) q1 rfl,g,b⟩
 |cont=>exact â (M:=qZ ρ D F σ _) a ⟨fb (x:=cX F s'<|rS ρ σ) q1 rfl,g,b⟩
 |ret=>exact â (M:=qZ ρ D F σ _) a ⟨fb (x:=cX F s'<|rS ρ σ) q1 rfl,g,b⟩
def fc.î(f:Ϭ ρ D a a'):fc ρ D F (.î i a) (.î i a'):=λσ o τ h e=>rJ (O:=gP ρ D F σ _) e λx m Ø b=>by
 exact Ϸ (f _ _ _ _ h b) λq1 g c=>⟨by rw[fZ];exact D8 q1,trivial,c.ö g⟩
def fc.jJ(f:Ϭ ρ D a a'):fc ρ D F (.jJ i j a) (.jJ i j a'):=λσ o τ h e=>Al (O:=gP ρ D F σ _) e λx m Ø b=>by
 exact Ϸ (f _ _ _ _ h b) λq1 g c=>(⟨by rw[fZ,fZ];exact fb (x:=ß a'<|rS ρ σ) q1 rfl,trivial,(c.ö g).ö g⟩)
def fc.ret(f:Ϭ ρ D a a'):fc ρ D F (.ret a) (.ret a'):=λσ o τ h e=>za (O:=gP ρ D F σ _) e λx m Ø b=>by
 exact Ϸ (f _ _ _ _ h b) λq1 g c=>⟨fb (x:=ß a'<|rS ρ σ) q1 rfl,g,c⟩
def fc.V6(A:Ϭ ρ D a a')(E:Ϭ ρ D b b'):fc ρ D F (.par [i,j] [a,b]) (.par [i,j] [a',b']):=λσ o τ h e=>ym (O:=gP ρ D F σ _) e λxs Ø c C m=>
 oH (N:=λxs Ø=>ϋ [i,j] xs Ø=À c->gP ρ D F σ _ .next c) C (λx n w p f t k=>oH (N:=λp f=>ϋ [i,j] ((x,n)::p) f=À c->gP ρ D F σ _ .next c) k λy l s zs g k G=>
  A8 (N:=λzs g=>ϋ [i,j] ((x,n)::(y,l)::zs) g=À c->gP ρ D F σ _ .next c) G λm=>à m▸by
 exact Ϸ (A _ _ _ _ h t) λq1 v H=>Ϸ (E _ _ _ _ H k) λq2 B q=>⟨by rw[fZ,fZ];exact KV (pB q1<|pB q2 AR) rfl,trivial,(q.ö v).ö B⟩) m
def fc.aug(c:Ϭ ρ D a a'):fc ρ D F (.aug i op a) (.aug i op a'):=λσ o τ h e=>Ez (O:=gP ρ D F σ _) e λx n y l Ø r f b g=>by
 exact Ϸ (c _ _ _ _ h b) λq1 k j=>(Ö (λq g3=>⟨by rw[fZ];exact G3 (iX f) q1 q,trivial,j.ö g3⟩)<|AG (M:=λop x y r=>rj op (rV ρ x) (rV ρ y)=À (rV ρ r)/\GV D r) g (λ_ _=>⟨rfl,trivial⟩) λ_ _=>⟨rfl,trivial⟩)
def fc.ö(t:Ϭ ρ D a a')(B:Ϭ ρ D b b')(h:Gd D σ)(hi:∀v m τ,ß b σ=À (v,m,τ)->∃j,v=.int j)(e:cX F (.ö i a b) σ=À (o,τ)):o=.next/\gP ρ D F σ (.ö i a' b') o τ:=
 FQ (O:=λo τ=>o=.next/\gP ρ D F σ _ o τ) e λv n Ø w q l c xs p g y A k s=>by
  refine Ϸ (B _ _ _ _ h g) λq1 E C=>?_;refine Ϸ (t _ _ _ _ C A) λq2 G f=>?_;obtain⟨j,rfl⟩:=hi _ _ _ g;refine⟨rfl,by
   rw[fZ];exact fb (x:=ß b'<|rS ρ σ) q1<|fb (x:=(rS ρ Ø).get i) (iX (v:=w.1) (m:=w.2) y)<|fb (x:=ß a'<|rS ρ Ø) q2<|fb (x:=ϐ<|.int q) rfl<|fb (x:=aU 1<|(rS ρ c).get i) (vX<|iX k)<|fb (x:=Č xs.length q) s rfl,trivial,f.ö λx hx=>?_⟩
  rcases mem_or_eq_of_mem_set hx with hx|rfl
  .exact f _ _ _ k x hx
  .exact⟨_,rfl⟩
def kE.Mz(J:Ϭ ρ D a a')(C:Ϭ ρ D k k')(hi:∀σ v m τ,ß a σ=À (v,m,τ)->∃q,v=.int q)(R:kE ρ D F ss Ql):kE ρ D F (.î i a::.ö j k (.Æ i)::ss) (.î i a'::.ö j k' (.Æ i)::Ql):=λσ o τ h e=>
 Ŵ (x:=cX F (.î i a) σ) e λf Ø y p=>by
 refine Ϸ (fc.î (F:=F) (i:=i) J _ _ _ h y) λq1 A s=>?_;revert p q1 A s;refine rJ (O:=λf Ø=>(match f with|.next=>ċ F (.ö j k (.Æ i)::ss) Ø|o=>À (o,Ø))=À (o,τ)->cX F (.î i a') (rS ρ σ)=À (rO ρ f,rS ρ Ø)->GO D f->Gd D Ø->qZ ρ D F σ _ o τ) y λx m b P p q1 A s=>Ŵ (x:=cX F (.ö j k<|.Æ i)<|b.ö i x m) p λS L E H=>?_;obtain⟨rfl,q2,W,K⟩:=fc.ö C .Æ s (λv m τ B=>ud (M:=λv _ _=>∃j,v=.int j) B λw g=>by
  rw[St.a9] at g;split at g
  .obtain rfl:=à g;exact hi _ _ _ _ P
  .rename_i t;have:b.get i=Ä:=by
    unfold St.get;exact Å (ķ<|Ϣ.1 λc=>t ⟨rfl,c⟩) rfl
   exact ÿ<|this.symm.trans g) E
 exact Ϸ (R _ _ _ K H) λG g3 I=>⟨eh q1<|eh q2 G,g3,I⟩
def fc.Ŗ(t:Ϭ ρ D a a')(v:kE ρ D F p p')(m:kE ρ D F q q'):fc ρ D F (.Ŗ a p q) (.Ŗ a' p' q'):=λσ o τ h e=>Ka e λx n Ø s=>by
 exact Ϸ (t _ _ _ _ h s) λq1 w j=>⟨λc f=>Ϸ (v _ _ _ j f) λg k b=>⟨oW q1 ((wi x).trans c) g,k,b⟩,λc f=>Ϸ (m _ _ _ j f) λg k b=>⟨uY q1 ((wi x).trans c) g,k,b⟩⟩
def fc.az(J:Ϭ ρ D a a')(L:kE ρ D F p p'):fc ρ D F (.az a p) (.az a' p'):=by
 have key:∀(n:Á)(σ:St)(o:mj)(τ:St),Gd D σ->aO (λσ=>(ß a σ).bind λx=>(Ó x.1).map λb=>(b,x.2.2)) (λσ=>ċ F p σ) n σ=À (o,τ)->
   aO (λσ=>(ß a' σ).bind λx=>(Ó x.1).map λb=>(b,x.2.2)) (λσ=>ċ F p' σ) n (rS ρ σ)=À (rO ρ o,rS ρ τ)/\GO D o/\Gd D τ:=by
  intro n
  induction n with
  |zero=>intro σ o τ h e;exact ÿ e
  |succ n ih=>
   intro σ o τ h e;refine Ŵ (x:=(ß a σ).bind λx=>(Ó x.1).map λb=>(b,x.2.2)) e λt f s B=>Ŧ (x:=ß a σ) s λx m1 Ø H s=>?_;refine ì (lb.1 s) λb E C=>?_;obtain rfl:t=b:=(Ù Prod.fst C).symm;obtain rfl:f=Ø:=(Ù Prod.snd C).symm;refine Ϸ (J _ _ _ _ h H) λq1 O A=>?_;have c:((ß a'<|rS ρ σ).bind λx=>(Ó x.1).map λb=>(b,x.2.2))=À (t,rS ρ f):=fb (x:=ß a'<|rS ρ σ) q1<|Å (wi ..)<|Å (E ..) rfl
   induction t with
   |false=>exact â (M:=λo τ=>_=À (rO ρ o,rS ρ τ)/\GO D o/\Gd D τ) B ⟨fb (x:=(ß a'<|rS ρ σ).bind λx=>(Ó x.1).map λb=>(b,x.2.2)) c rfl,trivial,A⟩
   |true=>
    refine Ŵ (x:=ċ F p f) B λy g G j=>?_;refine Ϸ (L _ _ _ A G) λK I k=>?_;have go:∀{r},(match rO ρ y with|.next|.cont=>aO (λσ=>(ß a' σ).bind λx=>(Ó x.1).map λb=>(b,x.2.2)) (λσ=>ċ F p' σ) n (rS ρ g)|.brk=>À (.next,rS ρ g)|.ret v=>À (.ret v,rS ρ g))=r->
      aO (λσ=>(ß a' σ).bind λx=>(Ó x.1).map λb=>(b,x.2.2)) (λσ=>ċ F p' σ) (n+1) (rS ρ σ)=r:=λe=>fb (x:=(ß a'<|rS ρ σ).bind λx=>(Ó x.1).map λb=>(b,x.2.2)) c<|fb (x:=ċ F p'<|rS ρ f) K e
    induction y with
    |next=>
     exact Ϸ (ih _ _ _ k j) λq w m=>⟨go q,w,m⟩
    |cont=>
     exact Ϸ (ih _ _ _ k j) λq w m=>⟨go q,w,m⟩
    |brk=>exact â (M:=λo τ=>_=À (rO ρ o,rS ρ τ)/\GO D o/\Gd D τ) j ⟨go rfl,trivial,k⟩
    |ret v=>exact â (M:=λo τ=>_=À (rO ρ o,rS ρ τ)/\GO D o/\Gd D τ) j ⟨go rfl,I,k⟩
 exact λσ o τ h e=>key F σ o τ h e
def Ye(ρ:Á->Á)(D:Á->Prop)(f:Ã V->Ï (Ã V)):Prop:=∀xs items,(∀x∈xs,GV D x)->f xs=À items->f (xs.map<|rV ρ)=À items/\∀v∈items,∃i,v=.int i
def fc.Ū(E:Ye ρ D f)(I:wH ρ D ϝ Wi)(L:kE ρ D F p p'):fc ρ D F (.Ū (.one i) f ϝ p) (.Ū (.one i) f Wi p'):=by
 have key:∀(items:Ã V)(σ:St)(o:mj)(τ:St),(∀v∈items,∃i,v=.int i)->Gd D σ->bA (.one i) (λσ=>ċ F p σ) items σ=À (o,τ)->
   bA (.one i) (λσ=>ċ F p' σ) items (rS ρ σ)=À (rO ρ o,rS ρ τ)/\GO D o/\Gd D τ:=by
  intro items
  induction items with
  |nil=>intro σ o τ _ h e;cases e;exact⟨rfl,trivial,h⟩
  |cons v vs ih=>
   intro σ o τ s h e;obtain⟨j,rfl⟩:=s v<|.head _;refine Ŵ (x:=ċ F p<|σ.ö i (.int j) 0) e λt b B m=>?_;refine Ϸ (L _ _ _ (h.ö (v:=.int j) trivial) B) λw G q=>?_;rw[fZ] at w;have go:∀{r},(match rO ρ t with|.next|.cont=>bA (.one i) (λσ=>ċ F p' σ) vs (rS ρ b)|.brk=>À (.next,rS ρ b)|.ret v=>À (.ret v,rS ρ b))=r->
     bA (.one i) (λσ=>ċ F p' σ) (.int j::vs) (rS ρ σ)=r:=λe=>fb (x:=ċ F p'<|(rS ρ σ).ö i (.int j) 0) w e
   induction t with
   |next=>
    exact Ϸ (ih _ _ _ (λv a=>s v<|.tail _ a) q m) λg k c=>⟨go g,k,c⟩
   |cont=>
    exact Ϸ (ih _ _ _ (λv a=>s v<|.tail _ a) q m) λg k c=>⟨go g,k,c⟩
   |brk=>exact â (M:=λo τ=>_=À (rO ρ o,rS ρ τ)/\GO D o/\Gd D τ) m ⟨go rfl,trivial,q⟩
   |ret v=>exact â (M:=λo τ=>_=À (rO ρ o,rS ρ τ)/\GO D o/\Gd D τ) m ⟨go rfl,G,q⟩
 exact λσ o τ h e=>Gr e λxs Ø items C y K=>by
  exact Ϸ (I _ _ _ h C) λq1 H A=>Ö (λq2 J=>Ϸ (key items Ø o τ J A K) λg k c=>⟨aac q1 q2 g,k,c⟩)<|E _ _ H y
end
def iu(a:VF):Ã PS:=
 [.Ŗ (.cmp .Eq (.Æ 0)<|.Æ 1)
  [.ret (.c<|.int 0)]
  [],.î 3<|.c<|.int 0,Q0,.î 0<|.bp (.Æ 0) (.Æ 3)<|.c<|.none,.î 1<|.bp (.Æ 1) (.Æ 3)<|.c<|.none,.î 4<|.c<|.int 0,QV,.î 0<|.bp (.Æ 0) (.c<|.none)<|.iQ (.Æ 4)<|.c<|.none,.î 1<|.bp (.Æ 1) (.c<|.none)<|.iQ (.Æ 4)<|.c<|.none,Rt,PX,.Ŗ (.cmp .Lt (.č 1)<|.č 0)
  [.par [0,1] [(.Æ 1),(.Æ 0)]]
  [],.Ŗ Mn
  [.ret (.Õ .Add (.Æ 2)<|.c<|.int 1)]
  [],Oc,.î 6<|.c<|.int 0,.Ū (.one 7) ć [(.č 1)]
  [.î 8 (.ä 1<|.Æ 7),.jJ 9 6<|.Õ .Mult (.Æ 7)<|.c<|.int 2,.î 10<|.c<|.int 9223372036854775807,.Ū (.one 11) ć [(.č 0)]
    [.î 12 (.Õ .Add (.Æ 9)<|.fn a [(.Æ 8),(.ä 0<|.Æ 11)]),.î 9<|.ä 5<|.Æ 11,.î 13<|.Õ .Add (.fn bz [(.Æ 6),(.Æ 9)])<|.c<|.int 2,.î 6<|.fn bz [(.Æ 13),(.Æ 12)],.ö 5 (.Æ 11)<|.Æ 6,.Ŗ (.cmp .Lt (.Æ 6)<|.Æ 10)
      [.î 10 (.Æ 6)]
      []],Ia],.ret<|.Æ 6]
noncomputable def aC(c d:Á):Â:=if c=d then 0 else if c/3=d/3 then((c+d)%3:Á) else 2
noncomputable def gj:VF:=HK uv uv λa b=>if a.length=1/\b.length=1 then À (.int<|aC (a.cps.getD 0 0)<|b.cps.getD 0 0,0) else Ä
section
variable{ρ:Á->Á}{D:Á->Prop}
def vY{xs:Ã V}(h:∀x∈xs,∃i,x=.int i):xs.map (rV ρ)=xs:=by
 induction xs with
 |nil=>rfl
 |cons x xs ih=>exact(h x<|.head _).elim λi e=>by subst e;exact Ù (_::·)<|ih λy a=>h y<|.tail _ a
def fw:∀v∈û a n,∃i,v=.int i:=by
 intro v h;unfold û at h;obtain⟨i,_,rfl⟩:=dp.1 h;exact⟨_,rfl⟩
def we:Ye ρ D ć:=λxs items _ h=>by
 have k:(∀x∈xs,∃i,x=.int i)/\∀v∈items,∃i,v=.int i:=Ŀ (M:=λxs=>(∀x∈xs,∃i,x=.int i)/\∀v∈items,∃i,v=.int i) h
  (λa h=>ð (x:=ϐ a) h λb e h=>Ϲ h λ_ h=>à h▸⟨by refine Å (Ú e) ?_;simp,fw⟩)
  (λa b h=>Ć Ú Ú (M:=λa b=>(∀x∈[a,b],∃i,x=.int i)/\∀v∈items,∃i,v=.int i) h λa b h=>Ϲ h λ_ h=>à h▸⟨by simp,fw⟩) (λ_ _ _ h=>ÿ h)
 exact Å (vY k.1)<|⟨h,k.2⟩
def ql:OZ ρ D ź ź:=λxs r m _ h=>by
 have k:(∀x∈xs,∃i,x=.int i)/\∃y,r=.Ñ y/\∀v∈y,∃i,v=.int i:=Ŀ (M:=λxs=>(∀x∈xs,∃i,x=.int i)/\∃y,r=.Ñ y/\∀v∈y,∃i,v=.int i) h
  (λa h=>ð (x:=ϐ a) h λb e h=>Ϲ h λ_ h=>â (M:=λr _=>_/\∃y,r=V.Ñ y/\∀v∈y,∃i,v=V.int i) h<|Å (Ú e)<|⟨by simp,_,rfl,fw⟩)
  (λa b h=>Ć Ú Ú (M:=λa b=>(∀x∈[a,b],∃i,x=.int i)/\∃y,r=.Ñ y/\∀v∈y,∃i,v=.int i) h λa b h=>Ϲ h λ_ h=>â (M:=λr _=>_/\∃y,r=V.Ñ y/\∀v∈y,∃i,v=V.int i) h ⟨by simp,_,rfl,fw⟩)
  (λa b c h=>iP Ú Ú Ú (M:=λa b c=>(∀x∈[a,b,c],∃i,x=.int i)/\∃y,r=.Ñ y/\∀v∈y,∃i,v=.int i) h λa b c h=>Ϲ h λ_ h=>by
   cases h;refine⟨by simp,_,rfl,λv g=>?_⟩;obtain⟨i,_,rfl⟩:=dp.1 g;exact⟨_,rfl⟩)
 obtain⟨j,y,rfl,f⟩:=k;exact Å (vY j)<|⟨h,f⟩
def Ej:OZ ρ D bz bz:=λxs r m _ h=>Ŀ (M:=λxs=>bz (xs.map<|rV ρ)=À (rV ρ r,m)/\GV D r) h (λ_ h=>ÿ h)
 (λa b h=>Ć Ú Ú (M:=λa b=>bz ([a,b].map<|rV ρ)=À (rV ρ r,m)/\GV D r) h λa b h=>â (M:=λr m=>bz _=À (rV ρ r,m)/\GV D r) h ⟨rfl,trivial⟩)
 (λa b c h=>iP Ũ Ũ Ũ (M:=λa b c=>bz ([a,b,c].map<|rV ρ)=À (rV ρ r,m)/\GV D r) h λa b c h=>â (M:=λr m=>bz _=À (rV ρ r,m)/\GV D r) h ⟨rfl,trivial⟩)
def It(inj:∀a b,D a->D b->ρ a=ρ b->a=b)(E:OZ ρ D Fs Td):kE ρ D 50 (iu Fs) (iu Td):=by
 have w:∀{a f b g:PE},Ϭ ρ D a f->Ϭ ρ D b g->Ϭ ρ D (.cmp .Eq a b) (.cmp .Eq f g):=λh k=>.cmp inj (.inl rfl) h k;have s:∀{a f b g:PE},Ϭ ρ D a f->Ϭ ρ D b g->Ϭ ρ D (.cmp .Gt a b) (.cmp .Gt f g):=λh k=>.cmp inj (.inr<|.inl rfl) h k;have B:∀{a f b g:PE},Ϭ ρ D a f->Ϭ ρ D b g->Ϭ ρ D (.cmp .Lt a b) (.cmp .Lt f g):=λh k=>.cmp inj (.inr<|.inr rfl) h k;have j:∀{a f b g:PE},Ϭ ρ D a f->Ϭ ρ D b g->Ϭ ρ D (.Õ .Add a b) (.Õ .Add f g):=λh k=>.Õ (.inl rfl) h k;have t:∀{a f b g:PE},Ϭ ρ D a f->Ϭ ρ D b g->Ϭ ρ D (.Õ .Sub a b) (.Õ .Sub f g):=λh k=>.Õ (.inr<|.inl rfl) h k;have q:∀{a f b g:PE},Ϭ ρ D a f->Ϭ ρ D b g->Ϭ ρ D (.Õ .Mult a b) (.Õ .Mult f g):=λh k=>.Õ (.inr<|.inr rfl) h k;have p:∀{a f:PE},Ϭ ρ D a f->kE ρ D 50 [.ret a] [.ret f]:=λh=>.cons (.ret h) .nil;have o:Ϭ ρ D (.iQ (.Æ 4)<|.c .none) (.iQ (.Æ 4)<|.c .none):=.iQ .Æ .n;refine .cons (.Ŗ (w .Æ .Æ) (p .i) .nil) (.cons (.î .i) (.cons (.az (.cK (.bp .Æ .Æ .n)<|.cK (.bp .Æ .Æ .n)<|w (.ä .Æ)<|.ä .Æ)<|.cons (.aug .i) .nil)
  (.cons (.î<|.bp .Æ .Æ .n) (.cons (.î<|.bp .Æ .Æ .n) (.cons (.î .i) (.cons (.az (.cK (.bp .Æ .n o)<|.cK (.bp .Æ .n o)<|w (.ä<|t .Æ .i)<|.ä<|t .Æ .i)<|.cons (.aug .i) .nil)
  (.cons (.î<|.bp .Æ .n o) (.cons (.î<|.bp .Æ .n o) (.cons (.Ŗ (.iQ (.not .Æ)<|.not .Æ) (p<|q .i<|j .č .č) .nil) (.cons (.Ŗ (.iQ (s .č .i)<|s .č .i) (p<|j .Æ .i) .nil)
  (.cons (.Ŗ (B .č .č) (.cons (.V6 .Æ .Æ) .nil) .nil) (.cons (.Ŗ (s (q (t .č .č) .i) .Æ) (p<|j .Æ .i) .nil) (.cons (.î<|.fn ql<|.cons .i<|.cons (q .i<|j .č .i)<|.cons .i .nil) (.cons (.î .i)
  (.cons (.Ū we (.cons .č .nil) ?_)<|.cons (.ret .Æ) .nil)))))))))))))))
 refine .cons (.î<|.ä .Æ)<|.cons (.jJ<|q .Æ .i)<|.cons (.î .i)<|.cons (.Ū we (.cons .č .nil) ?_)<|.cons (.Ŗ (s .Æ .Æ) (p<|j .Æ .i) .nil) .nil;refine .cons (.î<|j .Æ<|.fn E<|.cons .Æ<|.cons (.ä .Æ) .nil)<|.cons (.î<|.ä .Æ)<|.cons (.î<|j (.fn Ej<|.cons .Æ<|.cons .Æ .nil) .i)<|.Mz (.fn Ej<|.cons .Æ<|.cons .Æ .nil) .Æ ?_<|.cons (.Ŗ (B .Æ .Æ) (.cons (.î .Æ) .nil) .nil) .nil;intro σ v m τ h;exact kq (M:=λv _ _=>∃i,v=.int i) h λxs Ø r m C G=>aV (N:=λxs _=>bz xs=À (r,m)->∃i,r=.int i) C (λx n Ø xs A _ h=>aV (N:=λxs _=>bz (x::xs)=À (r,m)->∃i,r=.int i) h λy n Ø xs A _ h=>
  fy (N:=λxs _=>bz (x::y::xs)=À (r,m)->∃i,r=.int i) h λe=>Ć Ú Ú (M:=λ_ _=>∃i,r=.int i) e λa b e=>â (M:=λr _=>∃i,r=.int i) e ⟨_,rfl⟩) G
end
noncomputable abbrev SL(cs:Ã Á):V:=.str ⟨cs.toArray⟩
def iE(s:Str)(a hi:Ï Â):ľ s a hi=Gm s a hi:=by
 unfold ľ Gm;simp
def dc(cs:Ã Á):(⟨cs.toArray⟩:Str).length=cs.length:=by simp[oh]
def iF(cs:Ã Á)(h:a<=cs.length):ľ ⟨cs.toArray⟩ (À (a:Â)) Ä=⟨(cs.drop a).toArray⟩:=by
 refine Å (iE ..) (Å (StrLaws.sliceText_from (by simp;assumption) ..) ?_);simp;exact Å (take_of_length_le<|by simp) rfl
def aai(cs:Ã Á)(h:b<=cs.length):ľ ⟨cs.toArray⟩ Ä (À (b:Â))=⟨(cs.take b).toArray⟩:=by
 refine Å (iE ..) (Å (StrLaws.sliceText_to (by simp;exact(A2 16781318) h) ..) ?_);simp
noncomputable def tk(cs:Ã Á)(q:Á):Ã Á:=cs.take<|cs.length-q
def Fe(cs:Ã Á)(a:0<q)(h:q<=cs.length):ľ ⟨cs.toArray⟩ Ä (À<|-(q:Â))=⟨(tk cs q).toArray⟩:=by
 rw[iE,StrLaws.sliceText_neg_hi _ _ (by exact(A1 64655462166) a)<|by rw[dc];exact(A2 945392128006) h,dc,<-iE,show -(q:Â)+cs.length=((cs.length-q:Á):Â) by exact(A2 74820468594770182) h,aai _<|by exact(A2 4240)];rfl
def Hl(cs:Ã Á):ľ ⟨cs.toArray⟩ Option.none Ä=⟨cs.toArray⟩:=by
 unfold ľ;refine Å (StrLaws.sliceIdx_none_hi ..)<|Å (dc ..) ?_;have:=aai cs<|aj _;unfold ľ at this;rw[dc] at this;exact Å this<|Å Dr rfl
def rU{a hi:V}(b:ϳ a=À l)(c:ϳ hi=À h)(e:ľ ⟨cs.toArray⟩ l h=⟨r.toArray⟩)(f:r.length<=1000000):au (SL cs) a hi=À (SL r,0):=by
 simp only[au,b,c,Option.bind_eq_bind,lR,e,dc];exact Å (ť f) rfl
def qq{cs:Ã Á}(h:cs.length<1000000):Ó (SL cs)=À (cs.length !=0):=by
 simp only[Ó,dc];exact Å (ť h) rfl
def Iv{cs:Ã Á}{k c:Á}(h:cs[k]?=À c)(f:cs.length<=1000000):ō (SL cs) (.int k)=À (Ģ c):=by
 have b:k<cs.length:=by
  rcases Ţ k cs.length with a|a
  .exact a
  .rw[ķ a] at h;exact ÿ h
 refine(?_:(place (⟨cs.toArray⟩:Str).length (k:Â)).bind (λk=>((⟨cs.toArray⟩:Str).cps[k]?).map λc=>V.str ⟨#[c]⟩)=_);refine Å (dc ..)<|Å (nJ b f ..) ?_;simp[h,Ģ]
def AJ{q c:Á}(h:cs.reverse[q]?=À c)(f:cs.length<=1000000):ō (SL cs) (.int<|-(q:Â)-1)=À (Ģ c):=by
 have b:q<cs.length:=by
  rcases Ţ q cs.length with a|a
  .exact a
  .rw[ķ (by simpa using a)] at h;exact ÿ h
 refine(?_:(place (⟨cs.toArray⟩:Str).length<|-(q:Â)-1).bind (λk=>((⟨cs.toArray⟩:Str).cps[k]?).map λc=>V.str ⟨#[c]⟩)=_);refine Å (dc ..) ?_;unfold place;refine Å (ť f) (Å (È<|by exact(A1 3772555065))<|Å (ť<|(A2 8410012388102166) b)<|Å (show(-(q:Â)-1+cs.length).toNat=cs.length-1-q by exact(A3 0x1e29902f02f2de1dc98472de1dc980d52de1dc98f3786)<|iY _) ?_);rw[getElem?_reverse b] at h;simp[h,Ģ]
noncomputable def Ϡ:Ã Á->Ã Á->Á
 |c::a,d::b=>if c=d then Ϡ a b+1 else 0
 |_,_=>0
def gO(c d:Á)(a b:Ã Á):Ϡ (c::a) (d::b)=if c=d then Ϡ a b+1 else 0:=rfl
def qL(a:Ã Á):∀b:Ã Á,Ϡ a b<=a.length/\Ϡ a b<=b.length:=by
 induction a with
 |nil=>exact λb=>⟨aj 0,Ϫ _⟩
 |cons c a ih=>intro b;cases b with
  |nil=>exact⟨Ϫ _,aj 0⟩
  |cons d b=>
   rw[gO];by_cases h:c=d
   .rw[ť h];exact⟨CU (ih b).1,CU (ih b).2⟩
   .rw[È h];exact⟨Ϫ _,Ϫ _⟩
noncomputable abbrev P1:PE:=.cK (.bp (.Æ 0) (.Æ 3)<|.c .none)<|.cK (.bp (.Æ 1) (.Æ 3)<|.c .none)<|.cmp .Eq (.ä 0<|.Æ 3)<|.ä 1<|.Æ 3
def Sp(c d:Á):Ĥ .Eq (Ģ c) (Ģ d)=À (c==d):=by
 show À ((⟨#[c]⟩:Str)==⟨#[d]⟩)=_;congr 1;rw[bL,ka,ka];simp
def EY(B:a.length<=1000)(C:b.length<=1000)(f:Á):∀(p:Á),Ϡ (a.drop p) (b.drop p)<f->p<=a.length->p<=b.length->
  WR 50 14 P1 [.aug 3 .Add (.c<|.int 1)] f ((3,(.int p,0))::[(0,(SL a,0)),(1,(SL b,0)),(2,(.int k,0))]) ((3,(.int (p+Ϡ (a.drop p) (b.drop p):Á),0))::[(0,(SL a,0)),(1,(SL b,0)),(2,(.int k,0))]):=by
 induction f with
 |zero=>intro p h _ _;exact((A1 61465) h).elim
 |succ f ihf=>
  intro p h I E;have s:EV 14 ((3,(.int p,0))::[(0,(SL a,0)),(1,(SL b,0)),(2,(.int k,0))]) (.bp (.Æ 0) (.Æ 3)<|.c .none) (SL<|a.drop p) 0 _:=.bp (.Æ rfl) (.Æ rfl) .ï (rU rfl rfl (iF a I)<|by exact Å bO<|(A2 0xf42405710903e837006) B);have v:EV 14 ((3,(.int p,0))::[(0,(SL a,0)),(1,(SL b,0)),(2,(.int k,0))]) (.bp (.Æ 1) (.Æ 3)<|.c .none) (SL<|b.drop p) 0 _:=.bp (.Æ rfl) (.Æ rfl) .ï (rU rfl rfl (iF b E)<|by exact Å bO<|(A2 0xf42405710903e837006) C);have o:(a.drop p).length<1000000:=by exact Å bO<|(A2 0xf42405710913e837006) B
  have t:(b.drop p).length<1000000:=by exact Å bO<|(A2 0xf42405710913e837006) C
  cases g:a.drop p with
  |nil=>rw[g] at s o;exact .stop (.vR s<|by exact Å (qq o) rfl)<|by exact Å (qq o) rfl
  |cons c x=>
   cases q:b.drop p with
   |nil=>rw[g] at s o;rw[q] at v t;exact .stop (.oC s (by exact Å (qq o) rfl)<|.vR v<|by exact Å (qq t) rfl)<|by exact Å (qq t) rfl
   |cons d w=>
    have J:a[p]?=À c:=by have:=oI (xs:=a) (i:=p) (j:=0);rw[g] at this;simpa using this.symm
    have D:b[p]?=À d:=by have:=oI (xs:=b) (i:=p) (j:=0);rw[q] at this;simpa using this.symm
    have A:a.drop (p+1)=x:=by exact Đ f3<|Å g rfl
    have y:b.drop (p+1)=w:=by exact Đ f3<|Å q rfl
    have G:p<a.length:=by rw[g] at o;have:=Ù qb g;rw[bO] at this;simp at this;exact(A3 1245012171046) this
    have H:p<b.length:=by have:=Ù qb q;rw[bO] at this;simp at this;exact(A3 1245012171046) this
    rw[g] at s o;rw[q] at v t;have m:EV 14 ((3,(.int p,0))::[(0,(SL a,0)),(1,(SL b,0)),(2,(.int k,0))]) P1 (.bool<|c==d) 0 ((3,(.int p,0))::[(0,(SL a,0)),(1,(SL b,0)),(2,(.int k,0))]):=
     .oC s (by exact Å (qq o) rfl) (.oC v (by exact Å (qq t) rfl)<|.cmp (.ä rfl (.Æ rfl) rfl<|Iv J<|by exact ϴ ‹_› rfl) (.ä rfl (.Æ rfl) rfl<|Iv D<|by exact ϴ ‹_› rfl)<|Sp c d)
    rw[g,q] at h;by_cases e:c=d
    .simp only[gO,ť e] at h⊢;have ih:=ihf (p+1) (by exact Å A<|Å y<|(A2 1107590776854) h) ((A2 8061456406) G)<|(A2 8061456406) H;exact .more m (by simp[Ó,e]) (.cons (S1.LL rfl .ï<|by decide) .nil)<|Å (show p+(Ϡ x w+1)=p+1+Ϡ x w by exact(A2 2063880781954))<|(y▸A▸ih).pre .shadow
    .simp[gO,È e];exact .stop m<|by simp[Ó,e]
noncomputable abbrev Wg:PE:=.iQ (.Æ 4)<|.c .none
abbrev N7:PE:=.cK (.bp (.Æ 0) (.c .none) Wg)<|.cK (.bp (.Æ 1) (.c .none) Wg) Pq
def t7(b:Γ.lookup i=À (SL cs,0))(a:Γ.lookup 4=À (.int<|-(q:Â),0))(hq:q<=cs.length)(f:cs.length<=1000):EV 14 Γ (.bp (.Æ i) (.c .none) Wg) (SL<|tk cs q) 0 Γ:=by
 have t:(tk cs q).length<=1000000:=by unfold tk;exact Å eD<|(A3 0xf4240570010221911721902121907863e837106) f<|Aj _ _
 by_cases h:q=0
 .subst h;exact .bp (.Æ b) .ï (.mR (.Æ a) rfl .ï)<|rU rfl rfl (by refine Å (Hl ..) ?_;unfold tk;exact Å (tn ..)<|Å (Dr ..) rfl) t
 .exact .bp (.Æ b) .ï (.Rh (.Æ a)<|by simp[Ó,Wq];assumption)<|rU rfl rfl (Fe cs (Xy ‹_›) hq) t
def C9{k:Â}(E:a.length<=1000)(I:b.length<=1000)(L:Γ.lookup 0=À (SL a,0))(K:Γ.lookup 1=À (SL b,0))(f:Á):∀(q:Á),Ϡ (a.reverse.drop q) (b.reverse.drop q)<f->q<=a.length->q<=b.length->
  WR 50 14 N7 [.aug 4 .Sub (.c<|.int 1)] f ((4,(.int<|-(q:Â),0))::Γ) ((4,(.int<|-((q+Ϡ (a.reverse.drop q) (b.reverse.drop q):Á):Â),0))::Γ):=by
 induction f with
 |zero=>intro q h _ _;exact((A1 61465) h).elim
 |succ f ihf=>
  intro q h P O;have y:((4,(V.int<|-(q:Â),0))::Γ:ĳ).lookup 0=À (SL a,0):=L;have v:((4,(V.int<|-(q:Â),0))::Γ:ĳ).lookup 1=À (SL b,0):=K;have w:=t7 y rfl P E;have J:=t7 v rfl O I;have C:(tk a q).length=a.length-q:=by unfold tk;exact Å eD<|(A3 0x219021022191172190212190786)<|Aj _ _
  have D:(tk b q).length=b.length-q:=by unfold tk;exact Å eD<|(A3 0x219021022191172190212190786)<|Aj _ _
  have t:=qq (cs:=tk a q)<|(A3 0xf424057012190263e837106) E C;have m:=qq (cs:=tk b q)<|(A3 0xf424057012190263e837106) I D;rw[C] at t;rw[D] at m;cases o:a.reverse.drop q with
  |nil=>
   have:a.length-q=0:=by have:=Ù qb o;simpa using this
   rw[this] at t;exact .stop (.vR w t) t
  |cons c x=>
   have G:q<a.length:=by have:=Ù qb o;rw[bO,eA] at this;simp at this;exact(A3 1245012171046) this
   rw[show(a.length-q !=0)=true by simp;exact(A2 0xf109290116) G] at t;cases p:b.reverse.drop q with
   |nil=>
    have:b.length-q=0:=by have:=Ù qb p;simpa using this
    rw[this] at m;exact .stop (.oC w t<|.vR J m) m
   |cons d s=>
    have H:q<b.length:=by have:=Ù qb p;rw[bO,eA] at this;simp at this;exact(A3 1245012171046) this
    rw[show(b.length-q !=0)=true by simp;exact(A2 0xf109290116) H] at m;have R:a.reverse[q]?=À c:=by have:=oI (xs:=a.reverse) (i:=q) (j:=0);rw[o] at this;simpa using this.symm
    have M:b.reverse[q]?=À d:=by have:=oI (xs:=b.reverse) (i:=q) (j:=0);rw[p] at this;simpa using this.symm
    have B:a.reverse.drop (q+1)=x:=Đ f3<|Å o rfl;have A:b.reverse.drop (q+1)=s:=Đ f3<|Å p rfl;have g:EV 14 ((4,(.int<|-(q:Â),0))::Γ) N7 (.bool<|c==d) 0 ((4,(.int<|-(q:Â),0))::Γ):=
     .oC w t (.oC J m<|.cmp (.ä y (.Õ (.Æ rfl) .ï rfl) y<|AJ R<|by exact(A1 0xf424057003e837006) E) (.ä v (.Õ (.Æ rfl) .ï rfl) v<|AJ M<|by exact(A1 0xf424057003e837006) I)<|Sp c d)
    rw[o,p] at h;by_cases e:c=d
    .simp only[gO,ť e] at h⊢;exact .more g (by simp[Ó,e]) (.cons (S1.Nf rfl .ï<|by decide) .nil)<|Å (show q+(Ϡ x s+1)=q+1+Ϡ x s by exact(A2 2063880781954))<|Å (show -(q:Â)-1=-((q+1:Á):Â) by exact(A1 0xe08dce0dc95))<|(A▸B▸(ihf (q+1) (Å B<|Å A<|(A2 1107590776854) h) ((A2 8061456406) G)<|(A2 8061456406) H)).pre .shadow
    .simp[gO,È e];exact .stop g<|by simp[Ó,e]
def Om(c d:Á):gj [Ģ c,Ģ d]=À (.int<|aC c d,0):=by decide
noncomputable abbrev S4:=Ã Â×Â×Â×Â
def CH(b:Á)(a:Ã Á)(i:Á)(s:S4):S4:=
 let d:=s.1.getD i 0
 let u:=(if d<s.2.1 then d else s.2.1)+2
 let r:=if s.2.2.1+aC b (a.getD i 0)<u then s.2.2.1+aC b (a.getD i 0) else u
 (s.1.set i r,r,d,if r<s.2.2.2 then r else s.2.2.2)
noncomputable def MW(b:Á)(a:Ã Á):Á->S4->S4
 |0,s=>s
 |i+1,s=>CH b a i<|MW b a i s
noncomputable def SN:Â:=9223372036854775807
noncomputable def outer(k:Â)(a:Ã Á):Ã Á->Á->Ã Â->Â->Â
 |[],_,_,res=>res
 |c::b,j,row,_=>
  let s:=MW c a a.length (row,(j:Â)*2,(j:Â)*2,SN)
  if k<s.2.2.2 then k+1 else outer k a b (j+1) s.1 s.2.1
noncomputable def vp(n:Á):Ã Â:=(range n).map λ(i:Á)=>2+2*(i:Â)
def ù(k:Â)(x y:Ã Á):Â:=if k<((y.length:Â)-x.length)*2 then k+1 else outer k x y 0 (vp x.length) 0
def dF(k:Â)(a b:Ã Á):Â:=
 if a=b then 0 else
 let p:=Ϡ a b
 let a:=a.drop p
 let b:=b.drop p
 let q:=Ϡ a.reverse b.reverse
 let a:=tk a q
 let b:=tk b q
 if a=[]\/b=[] then 2*((a.length:Â)+b.length) else if b.length<a.length then ù k b a else ù k a b
def zP(b:Á)(a:Ã Á)(s:S4):∀i,(MW b a i s).1.length=s.1.length:=by
 intro r0
 induction r0 with
 |zero=>exact rfl
 |succ i ih0=>exact GZ.trans ih0
noncomputable def IV(l:Ã Â):V:=.Ñ<|l.map .int
def Ku{i:Á}(h:i<l.length)(a:l.length<=1000):ō (IV l) (.int i)=À (.int<|l.getD i 0):=by
 unfold IV;refine Ϛ ?_<|Å (É ..)<|ϴ ‹_› rfl;refine Å (ô)<|Å (Ų h) ?_;simp[í,h]
def aF(h:k<n)(a:n<=1000000):Č n (k:Â)=À k:=by
 unfold Č;rw[ť ⟨(A1 0xf42405700f424057006) a,(A1 3571),(A2 7798525974) h⟩,Ě]
def cI(a b:Ã Á)(k:Â)(j c:Á)(s:S4):ĳ:=[(5,(IV s.1,1)),(6,(.int s.2.1,0)),(9,(.int s.2.2.1,0)),(10,(.int s.2.2.2,0)),(8,(Ģ c,0)),(7,(.int j,0)),(0,(SL a,0)),(1,(SL b,0)),(2,(.int k,0))]
abbrev Jn:Ã PS:=[.î 12 (.Õ .Add (.Æ 9)<|.fn gj [(.Æ 8),(.ä 0<|.Æ 11)]),.î 9<|.ä 5<|.Æ 11,.î 13<|.Õ .Add (.fn bz [(.Æ 6),(.Æ 9)])<|.c<|.int 2,.î 6<|.fn bz [(.Æ 13),(.Æ 12)],.ö 5 (.Æ 11)<|.Æ 6,.Ŗ (.cmp .Lt (.Æ 6)<|.Æ 10)
  [.î 10 (.Æ 6)]
  []]
def jm(x y:Â):Ĥ .Lt (.int x) (.int y)=À (decide<|x<y):=rfl
def vG(x y:Â):Ĥ .Gt (.int x) (.int y)=À (decide<|y<x):=rfl
def i9[Gq p](h:p):Ó (.bool<|decide p)=À true:=by simp[Ó,h]
def dI{p:Prop}[Gq p](h:¬p):Ó (.bool<|decide p)=À false:=by simp[Ó,h]
def Ht{j c i:Á}(hi:i<a.length)(g:a.length<=1000)(f:s.1.length=a.length):SV 50 14 ((11,(.int i,0))::cI a b k j c s) Jn .next (cI a b k j c<|CH c a i s):=by
 unfold cI;have key:∀m:Â,m=(CH c a i s).2.2.2->SV 50 14 ((5,(IV (CH c a i s).1,1))::(6,(.int (CH c a i s).2.1,0))::(13,(.int<|(if s.1.getD i 0<s.2.1 then s.1.getD i 0 else s.2.1)+2,0))::(9,(.int<|s.1.getD i 0,0))::(12,(.int<|s.2.2.1+aC c (a.getD i 0),0))::(11,(.int i,0))::cI a b k j c s)
   [.Ŗ (.cmp .Lt (.Æ 6)<|.Æ 10) [.î 10 (.Æ 6)] []] .next (cI a b k j c<|CH c a i s):=by
  intro m p;by_cases h:(CH c a i s).2.1<s.2.2.2
  .exact .Ī (.cons (S1.NU (.cmp (.Æ rfl) (.Æ rfl)<|jm _ _) (i9 h)<|.cons (S1.î (.Æ rfl)<|by decide) .nil) .nil)<|.to rfl<|.to rfl<|.to rfl<|.to (Å (show(CH c a i s).2.2.2=(CH c a i s).2.1 from ť h) rfl)<|.to rfl<|.to rfl<|.to rfl<|.to rfl<|.to rfl .ŉ
  .exact .Ī (.cons (S1.OF (.cmp (.Æ rfl) (.Æ rfl)<|jm _ _) (dI h) .nil) .nil)<|.to rfl<|.to rfl<|.to rfl<|.to (Å (show(CH c a i s).2.2.2=s.2.2.2 from È h) rfl)<|.to rfl<|.to rfl<|.to rfl<|.to rfl<|.to rfl .ŉ
 refine .cons (S1.î (.Õ (.Æ rfl) (.fn (ES.cons (EV.Æ rfl)<|ES.cons (EV.ä rfl (EV.Æ rfl) rfl<|Iv (show a[i]?=À (a.getD i 0) by simp[í,hi])<|ϴ ‹_› rfl) ES.nil)<|Om _ _) rfl)<|by decide) ?_;refine SV.cons (S1.î (EV.ä rfl (EV.Æ rfl) rfl<|Ku ((A3 2203622707222) hi f)<|(A2 0x3e8370010263e837106) g f)<|by decide) ?_;refine SV.cons (S1.î (EV.Õ (EV.fn (ES.cons (EV.Æ rfl)<|ES.cons (EV.Æ rfl) ES.nil) rfl) EV.ï rfl)<|by decide) ?_;refine SV.cons (S1.î (EV.fn (ES.cons (EV.Æ rfl)<|ES.cons (EV.Æ rfl) ES.nil) rfl)<|by decide) ?_;refine SV.cons (S1.ö (EV.Æ rfl) rfl (EV.Æ rfl) rfl (aF (Å (É ..)<|(A3 2203622707222) hi f)<|Å (É ..)<|(A2 0xf4240570010263e837106) g f)<|by decide) ?_;rw[(show∀r:Â,(s.1.map V.int).set i (.int r)=(s.1.set i r).map V.int from λr=>by rw[map_set])];exact key _ rfl
def C7{a b:Ã Á}{k:Â}(f:a.length<=1000)(h:s.1.length=a.length):FR 50 14 (.one 11) Jn (cI a b k j c s) (û 0 a.length) (cI a b k j c<|MW c a a.length s):=by
 have:=FR.idx (F:=50) (n:=14) (t:=.one 11) (p:=Jn) (items:=û 0 a.length) (λi=>cI a b k j c<|MW c a i s) 0 λi v g=>?_
 .rw[Ś,ů] at this;exact this
 .obtain⟨rfl,hi⟩:=ś g;exact Å (ž ..)<|Å (ů ..)<|⟨_,.one<|by decide,Ht hi f<|Å (zP ..) h⟩
def cO(a b:Ã Á)(k:Â)(row:Ã Â)(res:Â):ĳ:=[(5,(IV row,1)),(6,(.int res,0)),(0,(SL a,0)),(1,(SL b,0)),(2,(.int k,0))]
abbrev Jx:Ã PS:=[.î 8 (.ä 1<|.Æ 7),.jJ 9 6<|.Õ .Mult (.Æ 7)<|.c<|.int 2,.î 10<|.c<|.int 9223372036854775807,.Ū (.one 11) ć [(.č 0)] Jn,Ia]
def mh(h:cs.length<=1000000):dD (SL cs)=À (cs.length:Â):=by
 rw[show dD (SL cs)=if(⟨cs.toArray⟩:Str).length<=1000000 then À ((⟨cs.toArray⟩:Str).length:Â) else Ä from rfl,dc,ť h]
def AB(p:a.length<=1000)(q:b.length<=1000)(m:row.length=a.length)(f:b[j]?=À c)
  (h:SV 50 14 (cI a b k j c<|MW c a a.length (row,(j:Â)*2,(j:Â)*2,SN)) [Ia] o Γ):SV 50 14 ((7,(.int (j:Â),0))::cO a b k row res) Jx o Γ:=by
 have s:j<b.length:=by
  rcases Ţ j b.length with g|g
  .exact g
  .rw[ķ g] at f;exact ÿ f
 unfold cO;refine .cons (S1.î (.ä rfl (.Æ rfl) rfl<|Iv f<|ϴ ‹_› rfl)<|by decide) ?_;exact .cons (S1.jJ (.Õ (.Æ rfl) .ï<|gu ⟨(A1 958889220035),(A2 0xf4240571d301163e837006) q s⟩<|by decide) (by decide)<|by decide)<|.cons (S1.î .ï<|by decide)<|.pre (ò:=cI a b k j c (row,(j:Â)*2,(j:Â)*2,SN)) (.cons (S1.Ū (.cons (.č rfl<|mh<|ϴ ‹_› rfl) .nil) (ĩ<|ϴ ‹_› rfl)<|C7 p m) h)<|.to rfl<|.to rfl<|.to rfl<|.to rfl<|.to rfl<|.to rfl<|.to rfl<|.to rfl<|.to rfl .ŉ
def GJ(q:a.length<=1000)(t:b.length<=1000)(f:Ã Á):∀(j:Á)(row:Ã Â)(res:Â),b.drop j=f->row.length=a.length->
  (∃cL,FR 50 14 (.one 7) Jx (cO a b k row res) (û j f.length) cL/\cL.lookup 6=À (.int<|outer k a f j row res,0))\/FX 50 14 (.one 7) Jx (cO a b k row res) (û j f.length) (.int<|outer k a f j row res):=by
 induction f with
 |nil=>exact λj row res _ _=>.inl ⟨_,.nil,rfl⟩
 |cons c f ih=>
  intro j row res h o;have p:b[j]?=À c:=by have:=oI (xs:=b) (i:=j) (j:=0);rw[h] at this;simpa using this.symm
  have v:b.drop (j+1)=f:=Đ f3<|Å h rfl;rw[kc,aJ]
  let s:=MW c a a.length (row,(j:Â)*2,(j:Â)*2,SN)
  by_cases g:k<s.2.2.2
  .have e:outer k a (c::f) j row res=k+1:=ť g;rw[e];exact .inr<|.here (.one<|by decide)<|AB q t o p<|.gg (.cmp (.Æ rfl) (.Æ rfl)<|vG _ _) (i9 g)<|.ret<|.Õ (.Æ rfl) .ï rfl
  .have e:outer k a (c::f) j row res=outer k a f (j+1) s.1 s.2.1:=È g;rw[e];have body:SV 50 14 ((7,(.int (j:Â),0))::cO a b k row res) Jx .next (cO a b k s.1 s.2.1):=
    (AB q t o p<|.cons (S1.skip (.cmp (.Æ rfl) (.Æ rfl)<|vG _ _)<|dI g) .nil).Ī (.to rfl<|.to rfl<|.to rfl<|.to rfl<|.to rfl .ŉ)
   have ih:=ih (j+1) s.1 s.2.1 v (by rw[zP];exact o);rcases ih with⟨cL,m,w⟩|m
   .exact .inl ⟨cL,.cons (.one<|by decide) body m,w⟩
   .exact .inr<|.later (.one<|by decide) body m
def PH(a b:Ã Á):Ĥ .Eq (SL a) (SL b)=À (decide<|a=b):=by
 show À ((⟨a.toArray⟩:Str)==⟨b.toArray⟩)=_;congr 1;rw[bL,ka,ϻ];simp
def sx{n:Á}(h:n<=100):ź [.int 2,.int<|2*((n:Â)+1),.int 2]=À (IV<|vp n,1):=by
 refine Å (show ź [.int 2,.int<|2*((n:Â)+1),.int 2]=if(2:Â)=2/\(-1000<=(2:Â)/\(2:Â)<=1000)/\(-1000<=2*((n:Â)+1)/\2*((n:Â)+1)<=1000)/\2*((n:Â)+1)-2<=1000 then À (.Ñ<|iM 2 (2*((n:Â)+1)) 2 ((2*((n:Â)+1)-2+1)/2).toNat,1) else Ä from rfl) (Å (ť<|by(and_intros;omega;exact(A0 143678519235);exact(A0 16780829043);exact(A1 0xe0d821a3e837c3);exact(A1 0x3e837e0d821a36427006) h;exact(A1 0x3e837217e0d821a936427006) h)) ?_);refine Å (show((2*((n:Â)+1)-2+1)/2).toNat=n by exact(U8 0x102f2172217141f378e217e1d821a981021a8576f02f04700d50f3786) (iY _)<|dz _ 2) ?_;unfold IV vp iM;exact Å ſ rfl
def CS(n:Á):(vp n).length=n:=by unfold vp;exact Å (É ..)<|Å (bZ ..) rfl
def Ax(hx:x.length<=40)(s:y.length<=40)(q:x.length<=y.length)(g:Γ.lookup 0=À (SL x,0))(p:Γ.lookup 1=À (SL y,0))(j:Γ.lookup 2=À (.int k,0)):
  ∃cL,SV 50 14 Γ ((iu gj).drop 12) (.ret<|.int<|ù k x y) cL:=by
 have c:EV 14 Γ Mn (.bool<|decide<|k<((y.length:Â)-x.length)*2) 0 Γ:=
  .cmp (.Õ (.Õ (.č p<|mh<|by exact(A1 0xf424057002827006) s) (.č g<|mh<|by exact(A1 0xf424057002827006) hx) rfl) .ï<|gu ⟨(A2 0xd1d9f424057c32827006) hx,(A2 0xf4240571d0d932827006) s⟩<|by decide) (.Æ j) (vG _ _)
 by_cases f:k<((y.length:Â)-x.length)*2
 .exact Å (show ù k x y=k+1 from ť f)<|⟨_,.gg c (i9 f)<|.ret<|.Õ (.Æ j) .ï rfl⟩
 .refine Å (show ù k x y=outer k x y 0 (vp x.length) 0 from È f) ?_;have pre:∀{o:mj}{cL:ĳ},SV 50 14 (cO x y k (vp x.length) 0) ((iu gj).drop 15) o cL->SV 50 14 Γ ((iu gj).drop 12) o cL:=by
   intro o cL h;exact .cons (S1.skip c<|dI f)<|.cons (S1.î (.fn (.cons .ï<|.cons (.Õ .ï (.Õ (.č g<|mh<|by exact(A1 0xf424057002827006) hx) .ï rfl)<|gu (by decide) ⟨(A1 0xe0d8f424057c3),(A1 0xf424057e0d832827006) hx⟩)<|.cons .ï .nil)<|sx<|by exact(A1 0x6427002827006) hx)<|by decide)<|.cons (S1.î .ï<|by decide)<|h.pre<|.to rfl<|.to rfl<|.to g<|.to p<|.to j .ŉ
  rcases(GJ (k:=k) (a:=x) (b:=y) (by exact(A1 0x3e837002827006) hx) (by exact(A1 0x3e837002827006) s) y 0 (vp x.length) 0 rfl<|CS _) with⟨cL,m,t⟩|m
  .exact⟨_,pre<|.cons (S1.Ū (.cons (.č rfl<|mh<|by exact(A1 0xf424057002827006) s) .nil) (ĩ<|by exact(A1 0xf424057002827006) s) m)<|.ret<|.Æ t⟩
  .exact⟨_,pre<|.HZ (.cons (.č rfl<|mh<|by exact(A1 0xf424057002827006) s) .nil) (ĩ<|by exact(A1 0xf424057002827006) s) m⟩
def EK(cs:Ã Á)(q:Á):(tk cs q).length=cs.length-q:=by unfold tk;exact Å eD<|(A3 0x219021022191172190212190786)<|Aj _ _
def PZ(h:cs.length<=1000):HM .Not (SL cs)=À (.bool<|decide<|cs=[]):=by
 refine Å (show HM .Not (SL cs)=(Ó<|SL cs).map λb=>.bool !b from rfl)<|Å (qq<|(A1 0xf424057013e837006) h) ?_;cases cs<;>rfl
def C3(P:a.length<=40)(W:b.length<=40):ė 50 14 3 (iu gj) [SL a,SL b,.int k]=À (.int<|dF k a b,0):=by
 have B:∀{cL:ĳ},SV 50 14 [(0,(SL a,0)),(1,(SL b,0)),(2,(.int k,0))] (iu gj) (.ret<|.int<|dF k a b) cL->ė 50 14 3 (iu gj) [SL a,SL b,.int k]=À (.int<|dF k a b,0):=λh=>ew rfl (Ϙ rfl) h;by_cases v:a=b
 .rw[(show dF k a b=0 from ť v)] at B⊢;exact B<|.gg (.cmp (.Æ rfl) (.Æ rfl)<|PH a b) (i9 v)<|.ret .ï
 .refine Ö (λp1 S=>?_)<|qL a b;generalize M:Ϡ a b=p at p1 S;generalize s:a.drop p=E;generalize t:b.drop p=w;have H:E.length<=40:=Đ s<|Å bO<|(A2 0x282710902827006) P;have K:w.length<=40:=Đ t<|Å bO<|(A2 0x282710902827006) W;refine Ö (λq1 q2=>?_)<|qL E.reverse w.reverse;rw[eA] at q1 q2;generalize hq:Ϡ E.reverse w.reverse=q at q1 q2;generalize A:tk E q=m;generalize D:tk w q=j;have f:m.length<=40:=by rw[<-A,EK];exact(A2 0x282710902827006) H
  have o:j.length<=40:=by rw[<-D,EK];exact(A2 0x282710902827006) K
  have ev:dF k a b=if m=[]\/j=[] then 2*((m.length:Â)+j.length) else if j.length<m.length then ù k j m else ù k m j:=by
   unfold dF;refine Å (È v) ?_;simp only[M,s,t,hq,A,D]
  have O:=EY (a:=a) (b:=b) (k:=k) (ϴ ‹_› rfl) (ϴ ‹_› rfl) 50 0 (Å xU<|Å xU<|Å M<|(A2 0x32271101062827006) P p1) (Ϫ _)<|Ϫ _;rw[xU,xU,M,ů] at O
  let ò:ĳ:=[(1,(SL w,0)),(0,(SL E,0)),(2,(.int k,0))]
  have R:=C9 (a:=E) (b:=w) (k:=k) (Γ:=ò) (ϴ ‹_› rfl) (ϴ ‹_› rfl) rfl rfl 50 0 (Å xU<|Å xU<|Å hq<|(A2 0x32271101062827006) H q1) (Ϫ _)<|Ϫ _;rw[xU,xU,hq,ů] at R
  let ĕ:ĳ:=[(1,(SL j,0)),(0,(SL m,0)),(2,(.int k,0))]
  have go:∀{cL:ĳ},SV 50 14 ĕ ((iu gj).drop 9) (.ret<|.int<|dF k a b) cL->ė 50 14 3 (iu gj) [SL a,SL b,.int k]=À (.int<|dF k a b,0):=by
   intro cL h;refine B (cL:=cL) (.cons (S1.skip (.cmp (.Æ rfl) (.Æ rfl)<|PH a b)<|dI v)<|.cons (S1.î .ï<|by decide)<|.cons (S1.az O) ?_);refine .cons (S1.î (.bp (.Æ rfl) (.Æ rfl) .ï<|rU rfl rfl (iF a p1)<|Å s<|ϴ ‹_› rfl)<|by decide) ?_;refine .cons (S1.î (.bp (.Æ rfl) (.Æ rfl) .ï<|rU rfl rfl (iF b S)<|Å t<|ϴ ‹_› rfl)<|by decide) ?_;refine Å s<|Å t ?_;refine .pre (ò:=ò) ?_<|.to rfl<|.to rfl<|.to rfl .ŉ;exact .cons (S1.î .ï<|by decide)<|.cons (S1.az R)<|.cons (S1.î (t7 rfl rfl q1<|ϴ ‹_› rfl)<|by decide)<|.cons (S1.î (t7 (cs:=w) rfl rfl q2<|ϴ ‹_› rfl)<|by decide)<|Å A<|Å D<|h.pre<|.to rfl<|.to rfl<|.to rfl .ŉ
  have g:∀{Γ:ĳ}{cs:Ã Á}{i:Á},Γ.lookup i=À (SL cs,0)->cs.length<=40->EV 14 Γ (.cmp .Gt (.č i)<|.c<|.int 40) (.bool<|decide<|(40:Â)<cs.length) 0 Γ:=λh X=>.cmp (.č h<|mh<|ϴ ‹_› rfl) .ï<|vG _ _;have ln:EV 14 ĕ (.Õ .Mult (.c<|.int 2)<|.Õ .Add (.č 0)<|.č 1) (.int<|2*((m.length:Â)+j.length)) 0 ĕ:=.Õ .ï (.Õ (.č rfl<|mh<|ϴ ‹_› rfl) (.č rfl<|mh<|ϴ ‹_› rfl) rfl) (gu (by decide) ⟨(A2 8177683267606467),(A2 0xf4240571d0d8328271062827006) f o⟩);have J:EV 14 ĕ (.un .Not<|.Æ 0) (.bool<|decide<|m=[]) 0 ĕ:=.un (.Æ rfl)<|PZ<|ϴ ‹_› rfl;have L:EV 14 ĕ (.un .Not<|.Æ 1) (.bool<|decide<|j=[]) 0 ĕ:=.un (.Æ rfl)<|PZ<|ϴ ‹_› rfl;by_cases C:m=[]
  .rw[ev,ť<|.inl C] at go⊢;exact go<|.gg (.Rh J<|i9 C) (i9 C)<|.ret ln
  .by_cases G:j=[]
   .rw[ev,ť<|.inr G] at go⊢;exact go<|.gg (.mR J (dI C) L) (i9 G)<|.ret ln
   .rw[ev,È<|by rintro(h|h);exact C h;exact G h] at go⊢;by_cases I:j.length<m.length
    .rw[ť I] at go⊢;refine å (Ax (x:=j) (y:=m) (k:=k) (Γ:=eW [0,1] [(SL j,0),(SL m,0)] ĕ) o f (M6 ‹_›) rfl rfl rfl) λcL h=>?_;refine go (cL:=cL)<|.cons (S1.skip (.mR J (dI C) L)<|dI G)<|.cons (S1.skip (.mR (g rfl f) (dI<|(A1 0xd2827492827006) f)<|g rfl o)<|dI<|(A2 0x1d28274901162827006) f I)<|.cons (S1.NU (.cmp (.č rfl<|mh<|ϴ ‹_› rfl) (.č rfl<|mh<|ϴ ‹_› rfl)<|jm _ _) (i9<|(A2 7798525974) I)<|.cons (S1.par (.cons (.Æ rfl)<|.cons (.Æ rfl) .nil) (by decide) rfl) .nil) h
    .rw[È I] at go⊢;refine å (Ax (x:=m) (y:=j) (k:=k) (Γ:=ĕ) f o (M4 ‹_›) rfl rfl rfl) λcL h=>?_;refine go (cL:=cL)<|.cons (S1.skip (.mR J (dI C) L)<|dI G)<|.cons (S1.skip (.mR (g rfl f) (dI<|(A1 0xd2827492827006) f)<|g rfl o)<|dI<|(A1 0xd2827492827006) o)<|.cons (S1.skip (.cmp (.č rfl<|mh<|ϴ ‹_› rfl) (.č rfl<|mh<|ϴ ‹_› rfl)<|jm _ _)<|dI<|(A2 1996431098262) I) h
noncomputable def zs(m:Á):Ã Á:=(range m).map λl=>3*l
noncomputable def fl(m:Á)(v:Ã Á):Ã Á:=(range m).map λl=>3*l+v.getD l 0
noncomputable def Mt:Á->Ã (Ã Á)
 |0=>[[]]
 |m+1=>(Mt m).flatMap λl=>[0::l,1::l,2::l]
def G6(m:Á)(v:Ã Á):Ò:=
 dF 8 (zs m) (fl m v)==(v.sum:Â)&&dF ((v.sum:Â)-1) (zs m) (fl m v)==(v.sum:Â)&&dF (v.sum:Â) (zs m) (fl m v)==(v.sum:Â)&&dF 0 (zs m) (fl m v)==(if v.sum=0 then 0 else 1)
def Aa(m l c:Á):Ò:=
 let a:=(range m).map λi=>3*i+if i=l then c else 0
 let more:Á:=if 0<l then c else 0
 dF 8 (zs m) (a.drop 1)==((2+more:Á):Â)&&dF 8 (zs m) (a.drop 1++a.take 1)==((min (2*m) (4+more):Á):Â)
def Iw:[2,3,4].all (λm=>(Mt m).all<|G6 m)=true:=by decide
def DO:[2,3,4].all (λm=>(range m).all λl=>[1,2].all<|Aa m l)=true:=by decide
def IC(v:Ã Á):(∀c∈v,c<=2)->v∈Mt v.length:=by
 induction v with
 |nil=>exact λ_=>.head _
 |cons c v ih=>
  intro h;refine di.2 ⟨v,(ih λc b=>h c<|.tail _ b),?_⟩;obtain rfl|rfl|rfl:c=0\/c=1\/c=2:=((A1 0x21702e028f028217006)<|h c<|.head _)
  all_goals simp
def Nb(m:v.length=2\/v.length=3\/v.length=4)(h:∀c∈v,c<=2):dF 8 (zs v.length) (fl v.length v)=(v.sum:Â)/\dF ((v.sum:Â)-1) (zs v.length) (fl v.length v)=(v.sum:Â)/\dF (v.sum:Â) (zs v.length) (fl v.length v)=(v.sum:Â)/\dF 0 (zs v.length) (fl v.length v)=(if v.sum=0 then 0 else 1):=by
 have t:=Iw;have t:=ę.1 t;have b:=t v.length (by simpa using m);have b:=ę.1 b;have a:=b v<|IC v h;simp[G6] at a;exact⟨a.1.1.1,a.1.1.2,a.1.2,a.2⟩
def step_at(j:m=2\/m=3\/m=4)(g:l<m)(h:c=1\/c=2):
  dF 8 (zs m) (((range m).map λi=>3*i+if i=l then c else 0).drop 1)=((2+(if 0<l then c else 0):Á):Â)/\dF 8 (zs m) (((range m).map λi=>3*i+if i=l then c else 0).drop 1++((range m).map λi=>3*i+if i=l then c else 0).take 1)=((min (2*m) (4+(if 0<l then c else 0)):Á):Â):=by
 have t:=DO;rw[ę] at t;have b:=t m (by simpa using j);rw[ę] at b;have f:=b l<|gh.2 g;rw[ę] at f;have a:=f c (by simpa using h);simp only[Aa,è,ka] at a;exact a
noncomputable abbrev cN:=Á×Á×Á
def KJ(x:cN):Prop:=x.1∈Ť/\((x.2.2=1/\x.2.1=x.1-32)\/(x.2.2=2/\∃f∈c8,x.2.1=119711+52*f+x.1))
structure cA(ps:Ã cN):Prop where
 ok:∀x∈ps,KJ x
 nd:(ps.map (·.1)).Nodup
noncomputable def Ů(ps:Ã cN)(l:Á):cN:=ps.getD l (0,0,0)
def KG(ps:Ã cN)(l:Á)(b:Ò):Á:=if b then(Ů ps l).2.1 else(Ů ps l).1
def bH(ps:Ã cN)(β:Á->Ò):Ã Á:=(range ps.length).map λl=>KG ps l<|β l
def j8(ps:Ã cN)(β:Á->Ò)(c:Á):Á:=KG ps (c/3)<|β (c/3)^^(c%3 !=0)
def wu(ps:Ã cN)(c:Á):Prop:=c/3<ps.length/\(c%3=0\/c%3=(Ů ps<|c/3).2.2)
def Ao(x y:Á):Ò:=mH (m_lower [Ģ x]) ⟨#[y]⟩
def FZ:Ò:=Ť.all λn=>Ao n n&&Ao (n-32) n&&c8.all λf=>Ao (119711+52*f+n)<|119711+52*f+n
def Ih:FZ=true:=by decide
def pX(h:Ao x y=true):m_lower [Ģ x]=À (Ģ y,0):=dB h
noncomputable def low(x:cN)(b:Ò):Á:=if b&&x.2.2==2 then x.2.1 else x.1
def MB(h:KJ x)(b:Ò):m_lower [Ģ (if b then x.2.1 else x.1)]=À (Ģ<|low x b,0):=by
 have t:=Ih;unfold FZ at t;have t:=ę.1 t;have a:=t x.1 h.1;simp only[è] at a;obtain⟨⟨a,m⟩,j⟩:=a;have j:=ę.1 j
 induction b with
 |false=>exact pX a
 |true=>
  rcases h.2 with⟨c,g⟩|⟨c,f,k,g⟩
  .have:low x true=x.1:=by unfold low;exact Å c rfl
   exact Å this<|Å (ť rfl)<|Å g<|pX m
  .have:low x true=x.2.1:=by unfold low;exact Å c rfl
   exact Å this<|Å (ť rfl)<|Å g<|pX<|j f k
def G1(g:m_lower [Ģ x]=À (Ģ x',0))(k:m_lower [Ģ y]=À (Ģ y',0)):þ [Ģ x,Ģ y]=À (.int<|if x=y then 0 else if x'=y' then 1 else 2,0):=by
 have b:Ĥ .Eq (Ģ x) (Ģ y)=À (decide<|x=y):=(Sp x y).trans (by congr 1);have f:∀{r:V}{cL:ĳ},SV 50 2 [(0,(Ģ x,0)),(1,(Ģ y,0))] ũ (.ret r) cL->þ [Ģ x,Ģ y]=À (r,0):=λh=>ew rfl (Ϙ rfl) h;by_cases h:x=y
 .exact Å (ť h)<|f<|.gg (.cmp (.Æ rfl) (.Æ rfl) b) (i9 h)<|.ret .ï
 .refine Å (È h) ?_;have c:EV 2 [(0,(Ģ x,0)),(1,(Ģ y,0))] (.cmp .Eq (.fn m_lower [(.Æ 0)])<|.fn m_lower [(.Æ 1)]) (.bool<|decide<|x'=y') 0 [(0,(Ģ x,0)),(1,(Ģ y,0))]:=.cmp (.fn (.cons (.Æ rfl) .nil) g) (.fn (.cons (.Æ rfl) .nil) k) ((Sp x' y').trans<|by congr 1);by_cases a:x'=y'
  .exact Å (ť a)<|f<|.cons (S1.skip (.cmp (.Æ rfl) (.Æ rfl) b)<|dI h)<|.gg c (i9 a)<|.ret .ï
  .exact Å (È a)<|f<|.cons (S1.skip (.cmp (.Æ rfl) (.Æ rfl) b)<|dI h)<|.cons (S1.skip c<|dI a)<|.ret .ï
def KJ.bd(h:KJ x):102<=x.1/\x.1<=116/\(x.2.2=1/\x.2.1=x.1-32\/x.2.2=2/\∃f,f<=12/\x.2.1=119711+52*f+x.1):=
 oM ((by decide:∀n∈Ť,102<=n/\n<=116) _ h.1).1 ⟨((by decide:∀n∈Ť,102<=n/\n<=116) _ h.1).2,h.2.imp id<|.imp id<|.imp λf=>.imp (λh=>(by decide:∀f∈c8,f<=12) f h) id⟩
def cM(H:cA ps)(h:l<ps.length):KJ (Ů ps l):=by
 refine H.ok _ ?_;unfold Ů;simp[í,h]
def Aw(H:cA ps)(c:l<ps.length)(a:l'<ps.length)(h:l≠l'):(Ů ps l).1≠(Ů ps l').1:=by
 intro e;apply h;have b:(ps.map (·.1))[l]?=À (Ů ps l).1:=by simp[Ů,í,c]
 have f:(ps.map (·.1))[l']?=À (Ů ps l').1:=by simp[Ů,í,a]
 rw[e,<-f] at b;exact(nV (Å (É ..) c) H.nd).1 b
def qS(hx:KJ x)(m:KJ y)(h:x.1≠y.1)(b a:Ò):(if b then x.2.1 else x.1)≠(if a then y.2.1 else y.1)/\low x b≠low y a:=by
 refine Ϸ hx.bd λs t o=>?_;refine Ϸ m.bd λw v q=>?_;unfold low;rcases o with⟨c,g⟩|⟨c,f,A,g⟩<;>rcases q with⟨j,k⟩|⟨j,B,p,k⟩<;>cases b<;>cases a<;>simp[c,g,j,k]<;>(and_intros<;>omega)
def jP(hx:KJ x):x.1≠x.2.1/\(x.2.2=1\/x.2.2=2)/\(low x true=low x false↔x.2.2=1)/\low x false=x.1:=by
 refine Ϸ hx.bd λg h c=>?_;unfold low;rcases c with⟨a,b⟩|⟨a,f,j,b⟩<;>simp[a,b]<;>exact(A1 0x2027090290662706) g
set_option tactic.hygienic true
variable{ps:Ã cN}{β γ:Á->Ò}
def Bb(H:cA ps)(h:l<ps.length)(b:Ò):m_lower [Ģ (KG ps l b)]=À (Ģ<|low (Ů ps l) b,0):=MB (cM H h) b
def H9(H:cA ps):∀a b,wu ps a->wu ps b->j8 ps β a=j8 ps β b->a=b:=by
 intro a b ⟨o,m⟩ ⟨k,p⟩ h;unfold j8 KG at h;by_cases e:a/3=b/3
 .rw[e] at h m;refine sm (jP<|cM H k) λf q _ _=>?_;generalize(Ů ps<|b/3).2.2=c at*;by_cases j:a%3=0<;>by_cases g:b%3=0
  .exact(A6 0x202f317231741824331a8276f317231751805131a8276f426f5263126) e j g (dm _ 3)<|dm _ 3
  .exfalso;rw[j,show(b%3 !=0)=true by simpa using g] at h;generalize β (b/3)=z at h;cases z<;>simp at h<;>first|exact f h|exact f h.symm
  .exfalso;rw[g,show(a%3 !=0)=true by simpa using j] at h;generalize β (b/3)=z at h;cases z<;>simp at h<;>first|exact f h|exact f h.symm
  .exact(A7 0x242f317231701820331a8276f317231711841531a8276f0296f12966602f02866612f12863526) e m p j g (dm _ 3)<|dm _ 3
 .exfalso;exact(qS (cM H o) (cM H k) (Aw H o k e) _ _).1 h
def Me(H:cA ps)(p:wu ps c)(w:wu ps d):þ [Ģ (j8 ps β c),Ģ<|j8 ps β d]=À (.int<|aC c d,0):=by
 refine Ö (λj t=>?_) p;refine Ö (λg y=>?_) w;unfold j8;refine Å (G1 (Bb H j _)<|Bb H g _) ?_;congr 3;unfold aC;by_cases e:c/3=d/3
 .have n:=jP<|cM H g;rw[e] at t⊢;refine Å (ť rfl) ?_;unfold KG;generalize Ů ps (d/3)=x at*;refine sm n λm o f A=>?_;by_cases a:c=d
  .subst a;exact Å (ť rfl)<|Å (ť rfl) rfl
  .have B:c%3≠d%3:=((A6 0x4529f317231741814331a8276f317231751805231a8276102963226) e a (dm _ 3)<|dm _ 3)
   refine Å (È a) ?_;have ev:((c+d)%3:Á)=x.2.2:=by
    have q1:=Nat.add_mod c d 3;omega
   refine Å ev ?_;have hx:((β (d/3)^^(c%3 !=0))=true/\(β (d/3)^^(d%3 !=0))=false)\/((β (d/3)^^(c%3 !=0))=false/\(β (d/3)^^(d%3 !=0))=true):=by
    have:(c%3=0/\d%3≠0)\/(c%3≠0/\d%3=0):=by omega
    rcases this with⟨b,k⟩|⟨b,k⟩
    .refine Å (show(c%3 !=0)=false by simpa using b) (Å (show(d%3 !=0)=true by simpa using k) ?_);cases β (d/3)<;>simp
    .refine Å (show(c%3 !=0)=true by simpa using b) (Å (show(d%3 !=0)=false by simpa using k) ?_);cases β (d/3)<;>simp
   rcases hx with⟨b,k⟩|⟨b,k⟩
   .refine Å b<|Å k ?_;simp;refine Å (È λh=>m h.symm) ?_;rcases o with h|h
    .exact Å (ť<|f.2 h)<|Å h rfl
    .exact Å (È (λq=>by have:=f.1 q;omega))<|Å h rfl
   .refine Å b<|Å k ?_;simp;refine Å (È m) ?_;rcases o with h|h
    .exact Å (ť (f.2 h).symm)<|Å h rfl
    .exact Å (È (λq=>by have:=f.1 q.symm;omega))<|Å h rfl
 .refine Ö (λv s=>?_)<|qS (cM H j) (cM H g) (Aw H j g e) (β (c/3)^^(c%3 !=0))<|β (d/3)^^(d%3 !=0);have:c≠d:=λh=>e<|Å h rfl;unfold KG;exact Å (È v)<|Å (È s)<|Å (È this)<|Å (È e) rfl
def Jb(H:cA ps):OZ (j8 ps β) (wu ps) gj þ:=by
 intro xs r m hx h;refine iT į į (M:=λxs=>(∀x∈xs,GV (wu ps) x)->þ (xs.map<|rV<|j8 ps β)=À (rV (j8 ps β) r,m)/\GV (wu ps) r) h (λ⟨⟨a⟩⟩⟨⟨b⟩⟩h hx=>Ϲ h λg h=>?_) hx;obtain⟨c,rfl⟩:=bU.1 g.1;obtain⟨d,rfl⟩:=bU.1 g.2;refine â (M:=λr m=>þ [rV (j8 ps β) (.str ⟨#[c]⟩),rV (j8 ps β)<|.str ⟨#[d]⟩]=À (rV (j8 ps β) r,m)/\GV (wu ps) r) h ⟨?_,trivial⟩;have e:∀z:Á,rV (j8 ps β) (.str ⟨#[z]⟩)=Ģ (j8 ps β z):=λz=>by
  show V.str ⟨#[z].map (j8 ps β)⟩=_;simp[Ģ]
 rw[e,e];exact Me (β:=β) H (hx (.str ⟨#[c]⟩) (.head _) c<|by simp)<|hx (.str ⟨#[d]⟩) (by simp) d<|by simp
def Pb(cs:Ã Á)(ρ:Á->Á):rV ρ (SL cs)=SL (cs.map ρ):=by
 show V.str ⟨cs.toArray.map ρ⟩=_;simp[SL]
def nB(H:cA ps)(A:∀c∈a,wu ps c)(B:∀c∈b,wu ps c)(t:a.length<=40)(p:b.length<=40):Í [SL (a.map<|j8 ps β),SL<|b.map<|j8 ps β,.int k]=À (.int<|dF k a b,0):=by
 have h:=C3 (k:=k) t p;unfold ė at h;rw[ť (show[SL a,SL b,V.int k].length=3 from rfl)] at h;generalize y:ċ 50 (iu gj) _=R at h;rcases R with _|⟨o,τ⟩
 .exact ÿ h
 induction o with
 |ret v=>
  cases h;have x:Gd (wu ps) (([SL a,SL b,V.int k].map λv=>À (v,0))++replicate (14-[SL a,SL b,V.int k].length) Ä):=by
   intro i v m f;have j:À (v,m)∈(([SL a,SL b,V.int k].map λv=>À (v,0))++replicate 11 Ä:St):=by
    unfold St.get at f;generalize hq:(map (λv=>À (v,0)) [SL a,SL b,V.int k]++replicate (14-[SL a,SL b,V.int k].length) Ä)[i]?=q at f
    induction q with
    |none=>exact ÿ f
    |some w=>simp at f;subst f;exact Ŕ hq
   simp at j;rcases j with⟨rfl,_⟩|⟨rfl,_⟩|⟨rfl,_⟩
   .exact λc g=>A c<|by simpa using g
   .exact λc g=>B c<|by simpa using g
   .trivial
  refine Ϸ (It (H9 (β:=β) H) (Jb H) _ _ _ x y) λs _ _=>?_;have e:rS (j8 ps β) (([SL a,SL b,V.int k].map λv=>À (v,0))++replicate (14-[SL a,SL b,V.int k].length) Ä)=([SL (a.map<|j8 ps β),SL<|b.map<|j8 ps β,V.int k].map λv=>À (v,0))++replicate (14-[SL (a.map<|j8 ps β),SL<|b.map<|j8 ps β,V.int k].length) Ä:=by
   unfold rS;simp[Pb];rfl
  exact kH rfl<|e▸s
 |_=>cases h
set_option tactic.hygienic false
variable{ps:Ã cN}{β γ:Á->Ò}
def ņ(ps:Ã cN)(l:Á):Á:=(Ů ps l).2.2
def cu(ps:Ã cN)(β γ:Á->Ò):Ã Á:=(List.range ps.length).map λl=>if β l=γ l then 0 else ņ ps l
def zY:bH ps β=(zs ps.length).map (j8 ps β):=by
 unfold bH zs;refine Å ſ ?_;refine ae λl _=>?_;refine(?_:_=j8 ps β (3*l));unfold j8;refine Å (show 3*l/3=l by exact(A3 0x12f3172317218031a2131a8276)<|dm _ 3) (Å (show 3*l%3=0 by exact(A3 0xf02f3172317018131a0231a8276)<|dm _ 3) ?_);simp
def mW(H:cA ps)(h:l<ps.length):ņ ps l=1\/ņ ps l=2:=(jP<|cM H h).2.1
def xK(H:cA ps)(g:l<ps.length)(b:Ò)(a:c=if β l=b then 0 else ņ ps l):j8 ps β (3*l+c)=KG ps l b/\wu ps (3*l+c):=by
 have f:=mW H g;have q1:(3*l+c)/3=l:=by subst a;split;exact(A3 0x12f3172317218f031a82131a8276)<|dm _ 3;exact(A4 0x12f31723173182031a83131a827621722e2286) f<|dm _ 3
 have q2:(3*l+c)%3=c:=by subst a;split;exact(A3 0xf02f3172317018f131a80231a8276)<|dm _ 3;omega
 refine⟨?_,by refine Å q1 ?_;exact g,?_⟩
 .unfold j8;refine Å q1<|Å q2 ?_;congr 1;by_cases h:β l=b
  .rw[ť h] at a;subst a;simp[h]
  .rw[È h] at a;refine Å (show(c !=0)=true by simp;exact(A2 0xf02921712e12861026) a f) ?_;cases j:β l<;>cases b<;>simp_all
 .refine Å q1<|Å q2 ?_;by_cases h:β l=b
  .rw[ť h] at a;exact .inl a
  .rw[È h] at a;exact .inr a
def HU(H:cA ps):bH ps γ=(fl ps.length<|cu ps β γ).map (j8 ps β)/\∀c∈fl ps.length (cu ps β γ),wu ps c:=by
 have at_:∀l∈range ps.length,(cu ps β γ).getD l 0=if β l=γ l then 0 else ņ ps l:=by
  intro l h;have h:=gh.1 h;unfold cu;simp[í,h]
 constructor
 .unfold bH fl;exact Å ſ<|ae λl h=>((xK H (gh.1 h) (γ l)<|at_ l h).1).symm
 .intro c a;unfold fl at a;obtain⟨l,h,rfl⟩:=dp.1 a;exact(xK H (gh.1 h) (γ l)<|at_ l h).2
def zC(h:c∈zs ps.length):wu ps c:=by
 unfold zs at h;obtain⟨l,a,rfl⟩:=dp.1 h;have:=gh.1 a;exact⟨((A4 0x101f3172317318231a3031a82761216) this<|dm _ 3),.inl<|(A3 0xf02f3172317018131a0231a8276)<|dm _ 3⟩
def dist(ps:Ã cN)(β γ:Á->Ò):Á:=(cu ps β γ).sum
def fS(m:Á):Prop:=m=2\/m=3\/m=4
def iO(H:cA ps)(m:fS ps.length)(k:Â):Í [SL (bH ps β),SL<|bH ps γ,.int k]=À (.int<|dF k (zs ps.length)<|fl ps.length<|cu ps β γ,0):=by
 refine Ö (λa h=>?_)<|HU (β:=β) (γ:=γ) H;refine Å a<|Å (zY (β:=β)) ?_;unfold fS at m;exact nB H (λ_=>zC) h (by simp[zs];exact(A1 0x282700417023170282170286) m)<|by simp[fl];exact(A1 0x282700417023170282170286) m
def Iu(H:cA ps)(m:fS ps.length):Í [SL (bH ps β),SL<|bH ps γ,.int 8]=À (.int<|dist ps β γ,0)/\Í [SL (bH ps β),SL<|bH ps γ,.int<|(dist ps β γ:Â)-1]=À (.int<|dist ps β γ,0)/\
  Í [SL (bH ps β),SL<|bH ps γ,.int<|dist ps β γ]=À (.int<|dist ps β γ,0)/\Í [SL (bH ps β),SL<|bH ps γ,.int 0]=À (.int<|if dist ps β γ=0 then 0 else 1,0):=by
 have h:(cu ps β γ).length=ps.length:=by unfold cu;exact Å (É ..)<|Å (bZ ..) rfl
 have t:=Nb (v:=cu ps β γ) (Å h m) (by
  intro c a;unfold cu at a;obtain⟨l,h,rfl⟩:=dp.1 a;have:=mW H<|gh.1 h;split;exact(A0 137200);exact(A1 0x2170021702e0286) this)
 refine sm (h▸t) λf j b g=>?_;unfold dist;exact Å (iO H m ..)<|Å (iO H m ..)<|Å (iO H m ..)<|Å (iO H m ..)<|Å (f ..)<|Å (j ..)<|Å (b ..)<|Å (g ..)<|⟨rfl,rfl,rfl,rfl⟩
def Ja(H:cA ps)(m:fS ps.length)(j:l<ps.length)(g:∀i,i<ps.length->γ i=(β i^^(i==l))):
  Í [SL (bH ps β),SL<|(bH ps γ).drop 1,.int 8]=À (.int ((2+(if 0<l then ņ ps l else 0):Á):Â),0)/\
  Í [SL (bH ps β),SL<|(bH ps γ).drop 1++(bH ps γ).take 1,.int 8]=À (.int ((min (2*ps.length) (4+(if 0<l then ņ ps l else 0)):Á):Â),0):=by
 have q:∀i∈range ps.length,j8 ps β (3*i+if i=l then ņ ps l else 0)=KG ps i (γ i)/\wu ps (3*i+if i=l then ņ ps l else 0):=by
  intro i hi;have hi:=gh.1 hi;refine xK H hi (γ i) ?_;refine Å (g i hi) ?_;by_cases e:i=l
  .subst e;simp
  .refine Å (È e) (Å (show(i==l)=false by simpa using e) ?_);simp
 have k:bH ps γ=((range ps.length).map λi=>3*i+if i=l then ņ ps l else 0).map (j8 ps β):=by
  unfold bH;exact Å ſ<|ae λi hi=>(q i hi).1.symm
 have f:∀c∈(range ps.length).map (λi=>3*i+if i=l then ņ ps l else 0),wu ps c:=by
  intro c b;obtain⟨i,hi,rfl⟩:=dp.1 b;exact(q i hi).2
 have a:((range ps.length).map λi=>3*i+if i=l then ņ ps l else 0).length=ps.length:=Å (É ..)<|Å (bZ ..) rfl;refine Ö (λo s=>?_)<|step_at m j<|mW H j;generalize(range ps.length).map (λi=>3*i+if i=l then ņ ps l else 0)=w at*;refine Å k<|Å (zY (β:=β))<|Đ map_drop<|Đ map_take<|Đ bG ?_;unfold fS at m;have hz:(zs ps.length).length<=40:=by simp[zs];exact(A1 0x282700417023170282170286) m
 constructor
 .exact Å (nB H (λ_=>zC) (λc b=>f c<|ta b) hz<|by rw[bO];exact(A2 0x2827e0901026417123171282171286) m a)<|Å o rfl
 .rw[nB H (λ_=>zC) (λc b=>?_) hz (by rw[eU,bO,eD];exact(A3 0x28270e1980102e117e021e07862126417223172282172286) m a<|Aj _ _),s];rcases æ.1 b with h|h
  .exact f c<|ta h
  .exact f c<|su h
section
variable{n F:Á}{Γ ò ĕ gD:ĳ}{e a b c k':PE}{v x y z r:V}{m k l:Á}
def dE.get'(h:dE n Γ σ)(f:Γ.lookup i=À w):σ.get i=À w:=by unfold St.get;exact Å (h.get f) rfl
def S1.put2(C:EV n Γ e v l ò)(J:ò.lookup i=À w)(I:EV n ò k' (.int q) m ĕ)(o:ĕ.lookup i=À (.Ñ xs,2))(H:ĕ.lookup j=À (.int t,0))(B:Č xs.length q=À p)(D:xs[p]?=À (.Ñ ys))(E:Č ys.length t=À s)(hi:i<n):
  S1 F n Γ (.put2 i k' j e) ((i,(.Ñ<|xs.set p<|.Ñ<|ys.set s v,2))::ĕ):=λσ h=>by
 exact ì (C σ h) λτ A f=>ì (I τ f) λρ G g=>⟨_,MO A (f.get' J) G (g.get' o) (g.get' H) B D E,g.ö hi _ _⟩
def EV.gJ(H:Γ.lookup i=À w)(G:EV n Γ k' (.int q) m ĕ)(f:ĕ.lookup i=À (.Ñ xs,2))(E:ĕ.lookup j=À (.int t,0))(o:Č xs.length q=À p)(B:xs[p]?=À (.Ñ ys))(C:Č ys.length t=À s)(A:ys[s]?=À v):
  EV n Γ (.gJ i k' j) v 0 ĕ:=λσ h=>by
 exact ì (G σ h) λρ D g=>⟨ρ,H3 (h.get' H) D (g.get' f) (g.get' E) o B C A,g⟩
def S1.mS(B:ES n Γ ϝ vs ò)(J:f vs=À items)(o:ò.lookup t=Ä)(I:t<n)(hi:i<n)(H:∀v,EV n ((t,(v,0))::ò) e (.Ñ ys) 1 ((t,(v,0))::ò))(q:items.length<=1000000):
  S1 F n Γ (.mS i e (.one t) f ϝ) ((i,(.Ñ<|replicate items.length<|.Ñ ys,2))::ò):=λσ g=>by
 refine ì (B σ g) λτ s w=>?_;have key:∀(items:Ã V)(σ:St),dE n ò σ->∃τ,Ĉ (.one t) Ä (ji e) items σ=À (replicate items.length<|.Ñ ys,τ)/\dE n ò τ:=by
  intro items
  induction items with
  |nil=>exact λσ h=>⟨σ,rfl,h⟩
  |cons v vs ih=>
   intro σ h;refine ì (H v _<|h.ö I v 0) λρ G g3=>?_;refine ì (ih ρ<|g3.sub<|.skip o .refl) λp K C=>?_;refine⟨p,?_,C⟩;have L:ji e (σ.ö t v 0)=À ([.Ñ ys],ρ):=by unfold ji;exact Å G rfl
   exact fb (x:=ji e<|σ.ö t v 0) L<|fb (x:=Ĉ (.one t) Ä (ji e) vs ρ) K rfl
 exact ì (key items _<|w.aaa [t] λj D=>Å (Ċ.1 D) o) λρ E A=>⟨_,(fb (x:=ď ϝ σ) s<|fb (x:=f vs) J<|fb (x:=Ĉ (.one t) Ä (ji e) items<|τ.aaa [t]) E<|ť<|Å oL q),A.ö hi _ _⟩
end
structure Sw(ws:Ã (Ã Á))(eO:Á->Á->Á):Prop where
 d:∀(r c:Á)(wr wc:Ã Á),ws[r]?=À wr->ws[c]?=À wc->Í [SL wr,SL wc,.int 8]=À (.int<|eO r c,0)/\Í [SL wr,SL wc,.int<|(eO r c:Â)-1]=À (.int<|eO r c,0)/\
  Í [SL wr,SL wc,.int<|eO r c]=À (.int<|eO r c,0)/\Í [SL wr,SL wc,.int 0]=À (.int<|if eO r c=0 then 0 else 1,0)
 sym:∀r c,eO r c=eO c r
 zero:∀r c,r<ws.length->c<ws.length->(eO r c=0↔r=c)
 le:∀r c,eO r c<=8
noncomputable def gA(f:Á->Á->Á)(base:Â)(row col i j:Á):Â:=if(i<row/\j<row)\/(i=row/\j<col)\/(j=row/\i<col) then base^f i j else 1
def cP(N:Á)(f:Á->Á->Á)(base:Â)(row col:Á):Ã (Ã Â):=(range N).map λi=>(range N).map λj=>gA f base row col i j
def TV(t:Ã (Ã Â)):Ã V:=t.map IV
def zW(hi:i<N):(TV<|cP N eO base row col)[i]?=À (.Ñ<|((range N).map λj=>gA eO base row col i j).map V.int):=by
 unfold TV cP;exact Å (ô)<|Å (ô)<|Å (ag hi) rfl
def AZ:(TV<|cP N eO base row col).length=N:=by simp[TV,cP]
def Ph(N:Á)(f:Á->Á->Â)(r c:Á)(v:Â):Ã V:=(TV<|(range N).map λi=>(range N).map λj=>f i j).set r<|.Ñ<|(((range N).map λj=>f r j).map V.int).set c<|.int v
def zM(N:Á)(f:Á->Á->Â)(r c:Á)(v:Â):Ph N f r c v=TV ((range N).map λi=>(range N).map λj=>if i=r/\j=c then v else f i j):=by
 unfold Ph TV;refine fR λi=>?_;refine Å (kU) ?_;by_cases h:r=i
 .subst h;refine Å (ť rfl) ?_;by_cases p:r<N
  .refine Å (ť<|by simpa using p)<|Å (ô)<|Å (ô)<|Å (ag p) ?_;simp only[ej,IV];congr 2;refine fR λj=>?_;refine Å (kU) ?_;by_cases s:c=j
   .subst s;refine Å (ť rfl) ?_;by_cases o:c<N
    .refine Å (ť<|by simpa using o)<|Å (ô)<|Å (ô)<|Å (ag o) ?_;simp
    .exact Å (È<|by simpa using o)<|Å (ķ<|by simpa using o) rfl
   .refine Å (È s)<|Å (ô)<|Å (ô)<|Å (ô)<|Å (ô) ?_;cases q:(range N)[j]? with
    |none=>rfl
    |some A=>
     have:A=j:=by
      refine å (se.1 q) λt g=>?_;rw[EO] at g;exact g.symm
     subst this;simp[Ne.symm s]
  .exact Å (È<|by simpa using p)<|Å (ķ<|by simpa using p) rfl
 .refine Å (È h)<|Å (ô)<|Å (ô)<|Å (ô)<|Å (ô) ?_;cases q:(List.range N)[i]? with
  |none=>rfl
  |some w=>
   have:w=i:=by
    refine å (se.1 q) λt g=>?_;rw[EO] at g;exact g.symm
   subst this;simp[Ne.symm h]
def QU(v:V)(n:Á):(replicate n [v]).flatten=replicate n v:=by
 induction n with
 |zero=>rfl
 |succ n ih=>refine Å hU<|Å gZ<|Å ih ?_;rfl
def iB(x y:Â):Ĥ .Eq (.int x) (.int y)=À (decide<|x=y):=by
 refine(?_:À (x==y)=_);congr 1
def ET(x y:Â):Ĥ .NotEq (.int x) (.int y)=À (!decide (x=y)):=by
 show(À<|x==y).map not=_;simp only[ej,dy];congr 1
def ze{k:Á}(b:-4<=base/\base<=4)(c:k<=100):ü .Pow (.int base) (.int k)=À (.int<|base^k,0):=by
 have a:base.natAbs.log2<100:=by
  by_cases h:base.natAbs=0
  .rw[h];decide
  .exact(Wy h).2<|dU (show base.natAbs<=4 by exact(wo 0x417000c0d5f04700d50f3786417030417c376) b<|Rc _)<|by decide
 rw[show ü .Pow (.int base) (.int (k:Â))=if 0<=(k:Â)/\(k:Â)<=100/\base.natAbs.log2<100 then À (.int<|base^(k:Â).toNat,0) else Ä from rfl,ť ⟨by omega,by exact(A1 0x64270d36427006) c,a⟩,Ě]
def N9{k:Á}(h:k<3):ō (.ñ [a,b,c]) (.int k)=À (if k=0 then a else if k=1 then b else c):=by
 obtain rfl|rfl|rfl:k=0\/k=1\/k=2:=((A1 0x21702e028f028317016) h)
 all_goals rfl
def oi{a b:Á}(c:0<b)(h:a<=1000000):ü .Mod (.int a) (.int b)=À (.int ((a%b:Á):Â),0):=by
 exact Å (vD (by omega)<|by exact⟨(A1 958889220035),(A1 0xf4240570d3f424057006) h⟩)<|Å (Ę _<|by omega) rfl
def cT(ws:Ã (Ã Á))(base:Â)(t:Ã V)(row:Á):ĳ:=[(3,(.Ñ t,2)),(0,(.Ñ<|ws.map SL,0)),(1,(.int base,0)),(4,(.int row,0))]
abbrev Cw:Ã PS:=XK
def Er(H:Sw ws eO)(hb:-4<=base/\base<=4)(M:ws.length<=100)(o:r<ws.length)(hc:c<=r):
  SV 50 9 ((5,(.int c,0))::cT ws base (TV<|cP ws.length eO base r c) r) Cw .next (cT ws base (TV<|cP ws.length eO base r<|c+1) r):=by
 have k:c<ws.length:=ZR ‹_› ‹_›;have G:=Ų o;have I:=Ų k;generalize ws[r]=wr at G;generalize ws[c]=B at I;have vr:ō (.Ñ<|ws.map SL) (.int r)=À (SL wr):=Ϛ (dA G) (by rw[É];exact ϴ ‹_› rfl);have X:ō (.Ñ<|ws.map SL) (.int c)=À (SL B):=Ϛ (dA I) (by rw[É];exact ϴ ‹_› rfl);refine sm (H.d r c wr B G I) λd1 d2 d3 d4=>?_;refine sm (H.d c r B wr I G) λR P W f4=>?_;rw[H.sym c r] at R P W f4;have nx:=H.le r c;have hz:=H.zero r c o k;generalize S:eO r c=f at*;have hm:ü .Mod (.int<|(r:Â)+c) (.int 2)=À (.int (((r+c)%2:Á):Â),0):=oi (a:=r+c) (b:=2) (by decide)<|(A3 0xf4240572180120601166427006) M o hc;have C:ü .Mod (.int (r:Â)) (.int 3)=À (.int ((r%3:Á):Â),0):=oi (a:=r) (b:=3) (by decide)<|(A2 0xf4240571001166427006) M o
 let t0:=TV (cP ws.length eO base r c)
 let Γ0:ĳ:=(5,(.int c,0))::cT ws base t0 r
 have m:∀{t:Ã V}{i:Á},t.length=ws.length->i<ws.length->Č t.length (i:Â)=À i:=λh hi=>aF ((A3 1241280545062) h hi)<|(A2 0xf4240570010266427106) M h;have q:∀{Γ:ĳ},Γ.lookup 3=À (.Ñ t0,2)->Γ.lookup 0=À (.Ñ<|ws.map SL,0)->Γ.lookup 1=À (.int base,0)->Γ.lookup 4=À (.int r,0)->Γ.lookup 5=À (.int c,0)->Γ.lookup 8=À (.int f,0)->
   SV 50 9 Γ (Cw.drop 3) .next (cT ws base (TV<|cP ws.length eO base r<|c+1) r):=by
  intro Γ k3 k0 k1 w A s;have v:t0.set r (.Ñ<|(((range ws.length).map λj=>gA eO base r c r j).map V.int).set c<|.int<|base^f)=TV ((range ws.length).map λi=>(range ws.length).map λj=>if i=r/\j=c then base^f else gA eO base r c i j):=zM ws.length (gA eO base r c) r c<|base^f;have p:∀g:Á->Â,(((range ws.length).map λj=>g j).map V.int).length=ws.length:=λg=>by simp
  refine .cons (S1.put2 (.Õ (.Æ k1) (.Æ s)<|ze hb<|ϴ ‹_› rfl) k3 (.Æ w) k3 A (m AZ o) (zW o) (aF (by rw[p];exact k)<|by rw[p];exact ϴ ‹_› rfl)<|by decide) ?_;rw[v]
  let g:Á->Á->Â:=λi j=>if i=r/\j=c then base^f else gA eO base r c i j
  have D:(TV<|(range ws.length).map λi=>(range ws.length).map λj=>g i j).length=ws.length:=by simp[TV]
  have row:∀i,i<ws.length->(TV<|(range ws.length).map λi=>(range ws.length).map λj=>g i j)[i]?=À (.Ñ<|((range ws.length).map λj=>g i j).map V.int):=by
   intro i hi;unfold TV;rw[ô,ô,ag hi];rfl
  have at_:(((range ws.length).map λj=>g r j).map V.int)[c]?=À (.int<|base^f):=by
   rw[ô,ô,ag k];simp[g]
  refine .Ī (.cons (S1.put2 (.gJ rfl (.Æ w) rfl A (m D o) (row r o) (aF (by rw[p];exact k)<|by rw[p];exact ϴ ‹_› rfl) at_) rfl (.Æ A) rfl w (m D k) (row c k) (aF (by rw[p];exact o)<|by rw[p];exact ϴ ‹_› rfl)<|by decide) .nil) ?_;have e3:(TV<|(range ws.length).map λi=>(range ws.length).map λj=>g i j).set c (.Ñ<|(((range ws.length).map λj=>g c j).map V.int).set r<|.int<|base^f)=TV (cP ws.length eO base r<|c+1):=by
   refine Eq.trans (zM ws.length g c r<|base^f) ?_;unfold cP;congr 1;refine ae λi _=>ae λj _=>?_;refine(?_:(if i=c/\j=r then base^f else if i=r/\j=c then base^f else gA eO base r c i j)=gA eO base r (c+1) i j);unfold gA;by_cases q1:i=c/\j=r
   .obtain⟨rfl,rfl⟩:=q1;rw[ť ⟨rfl,rfl⟩,ť<|.inr<|.inr ⟨rfl,by omega⟩,H.sym,S]
   .rw[È q1];by_cases q2:i=r/\j=c
    .obtain⟨rfl,rfl⟩:=q2;rw[ť ⟨rfl,rfl⟩,ť<|.inr<|.inl ⟨rfl,by omega⟩,S]
    .rw[È q2];have O:∀{x y:Á},x<y+1->x≠y->x<y:=λh e=>ie (so h) e;have:((i<r/\j<r)\/(i=r/\j<c)\/(j=r/\i<c))↔((i<r/\j<r)\/(i=r/\j<c+1)\/(j=r/\i<c+1)):=
      ⟨.imp id<|.imp (.imp id ic)<|.imp id ic,.imp id<|.imp (λh=>⟨h.1,O h.2 λe=>q2 ⟨h.1,e⟩⟩) λh=>⟨h.1,O h.2 λe=>q1 ⟨e,h.1⟩⟩⟩
     simp only[this]
  rw[e3];exact .to rfl<|.to k0<|.to k1<|.to w .ŉ
 have c1:∀{Γ:ĳ},Γ.lookup 8=À (.int f,0)->EV 9 Γ (.cmp .IsNot (.fn eX [(.Æ 8)])<|.c<|.ty "int") (.bool false) 0 Γ:=λh=>.cmp (.fn (.cons (.Æ h) .nil) rfl) .ï rfl;have E:∀{Γ:ĳ}{one other:Ã Á},Γ.lookup 4=À (.int r,0)->Γ.lookup 5=À (.int c,0)->Γ.lookup 8=À (.int f,0)->Γ.lookup 6=À (SL one,0)->Γ.lookup 7=À (SL other,0)->
   Í [SL other,SL one,.int<|(f:Â)-1]=À (.int f,0)->Í [SL other,SL one,.int f]=À (.int f,0)->Í [SL other,SL one,.int 0]=À (.int<|if f=0 then 0 else 1,0)->
   EV 9 Γ Xn (.bool false) 0 Γ:=by
  intro Γ one other w A s k6 k7 p l2 l3;by_cases h0:c=0
  .subst h0;have h3:r%3<3:=ϊ _ (by decide);have L:r%3=1->f≠0:=λh e=>by have:=hz.1 e;omega
   have K:Í [SL other,SL one,if r%3=0 then .int ((f:Â)-1) else if r%3=1 then .int 0 else .int f]=À (.int<|if r%3=0 then(f:Â) else if r%3=1 then 1 else f,0):=by
    by_cases J:r%3=0
    .rw[ť J,ť J];exact p
    .rw[È J,È J];by_cases v:r%3=1
     .rw[ť v,ť v,l3,È<|L v]
     .rw[È v,È v];exact l2
   have rhs:ō (.ñ [.int f,.int 1,.int f]) (.int ((r%3:Á):Â))=À (.int<|if r%3=0 then(f:Â) else if r%3=1 then 1 else f):=by
    rw[N9 h3];congr 1;split
    .rfl
    .split<;>rfl
   refine .mR (c1 s) rfl<|.oC (.cmp (.Æ A) .ï<|iB _ _) (i9 rfl)<|.cmp (.fn (.cons (.Æ k7)<|.cons (.Æ k6)<|.cons (.sub (.ñ<|.cons (.Õ (.Æ s) .ï rfl)<|.cons .ï<|.cons (.Æ s) .nil) (.Õ (.Æ w) .ï C)<|N9 h3) .nil) K) (.sub (.ñ<|.cons (.Æ s)<|.cons .ï<|.cons (.Æ s) .nil) (.Õ (.Æ w) .ï C) rhs)<|by rw[ET];simp
  .exact(.mR (c1 s) rfl<|.vR (x:=.bool false) (.cmp (.Æ A) .ï<|by rw[iB];congr 1;simp;assumption) rfl)
 by_cases Y:(r+c)%2=0
 .exact .cons (S1.mO (vs:=[SL wr,SL B]) (.z8 (.cmp (.Õ (.Õ (.Æ rfl) (.Æ rfl) rfl) .ï hm) .ï<|iB _ _) (i9<|(A1 4040552486) Y)<|.ñ<|.cons (.ä rfl (.Æ rfl) rfl vr)<|.cons (.ä rfl (.Æ rfl) rfl X) .nil) (by decide) rfl)<|.cons (S1.î (.fn (.cons (.Æ rfl)<|.cons (.Æ rfl)<|.cons .ï .nil) d1)<|by decide)<|.cons (S1.skip (E rfl rfl rfl rfl rfl P W f4) rfl)<|q rfl rfl rfl rfl rfl rfl
 .exact .cons (S1.mO (vs:=[SL B,SL wr]) (.zR (.cmp (.Õ (.Õ (.Æ rfl) (.Æ rfl) rfl) .ï hm) .ï<|iB _ _) (dI<|(A1 0xf0d59f0296) Y)<|.ñ<|.cons (.ä rfl (.Æ rfl) rfl X)<|.cons (.ä rfl (.Æ rfl) rfl vr) .nil) (by decide) rfl)<|.cons (S1.î (.fn (.cons (.Æ rfl)<|.cons (.Æ rfl)<|.cons .ï .nil) R)<|by decide)<|.cons (S1.skip (E rfl rfl rfl rfl rfl d2 d3 d4) rfl)<|q rfl rfl rfl rfl rfl rfl
def DW(H:Sw ws eO)(g:-4<=base/\base<=4)(h:ws.length<=100)(f:r<ws.length):
  FR 50 9 (.one 5) Cw (cT ws base (TV<|cP ws.length eO base r 0) r) (û 0<|r+1) (cT ws base (TV<|cP ws.length eO base r<|r+1) r):=by
 have:=FR.idx (F:=50) (n:=9) (t:=.one 5) (p:=Cw) (items:=û 0<|r+1) (λc=>cT ws base (TV<|cP ws.length eO base r c) r) 0 λc v b=>?_
 .rw[Ś,ů] at this;exact this
 .obtain⟨rfl,a⟩:=ś b;exact Å (ž ..)<|Å (ů ..)<|⟨_,.one<|by decide,Er H g h f<|(A2 4309745686) a⟩
def Fw:cP N eO base r (r+1)=cP N eO base (r+1) 0:=by
 unfold cP;refine ae λi _=>ae λj _=>?_;unfold gA;have:((i<r/\j<r)\/(i=r/\j<r+1)\/(j=r/\i<r+1))↔((i<r+1/\j<r+1)\/(i=r+1/\j<0)\/(j=r+1/\i<0)):=
  ⟨λh=>.inl<|h.elim (.imp ic ic) λh=>h.elim (λh=>⟨h.1▸jZ r,h.2⟩) λh=>⟨h.2,h.1▸jZ r⟩,λh=>h.elim (λh=>(Fv<|so h.1).elim (λa=>(Fv<|so h.2).elim (λb=>.inl ⟨a,b⟩) λb=>.inr<|.inr ⟨b,h.1⟩) λa=>.inr<|.inl ⟨a,h.2⟩) λh=>h.elim (λh=>ó h.2<|GW _) λh=>ó h.2<|GW _⟩
 simp only[this]
noncomputable def sM(N:Á)(f:Á->Á->Á)(base:Â):Ã (Ã Â):=(range N).map λi=>(range N).map λj=>base^f i j
def Fj(H:Sw ws eO)(q:-4<=base/\base<=4)(h:ws.length<=100):Ϥ [.Ñ (ws.map SL),.int base]=À (.Ñ<|TV<|sM ws.length eO base,0):=by
 have a:(ws.map SL).length=ws.length:=É _
 let f:Ã V->ĳ:=λt=>[(3,(.Ñ t,2)),(0,(.Ñ<|ws.map SL,0)),(1,(.int base,0))]
 have ù:FR 50 9 (.one 4) [.Ū (.one 5) ć [(.Õ .Add (.Æ 4)<|.c<|.int 1)] Cw] (f<|TV<|cP ws.length eO base 0 0) (û 0 ws.length) (f<|TV<|cP ws.length eO base ws.length 0):=by
  have:=FR.idx (F:=50) (n:=9) (t:=.one 4) (p:=[.Ū (.one 5) ć [(.Õ .Add (.Æ 4)<|.c<|.int 1)] Cw]) (items:=û 0 ws.length) (λr=>f<|TV<|cP ws.length eO base r 0) 0 λr v m=>?_
  .rw[Ś,ů] at this;exact this
  .obtain⟨rfl,g⟩:=ś m;exact Å (ž ..)<|Å (ů ..) ⟨_,.one<|by decide,.pre (ò:=cT ws base (TV<|cP ws.length eO base r 0) r) (.Ī (.cons (S1.Ū (.cons (.Õ (.Æ rfl) .ï (r:=.int ((r+1:Á):Â)) rfl) .nil) (ĩ<|(A2 0xf424057e18001166427006) h g)<|DW H q h g) .nil)<|Å Fw<|.to rfl<|.to rfl<|.to rfl .ŉ)<|.to rfl<|.to rfl<|.to rfl<|.to rfl .ŉ⟩
 have s:replicate (ws.map SL).length (V.Ñ<|replicate ws.length<|V.int 1)=TV (cP ws.length eO base 0 0):=by
  refine fR λi=>?_;rcases Ţ i ws.length with hi|hi
  .refine Å (aad) (Å (ť<|by exact(A3 1241280545062) a hi)<|Å (zW hi) ?_);congr 2;refine fR λj=>?_;rcases Ţ j ws.length with b|b
   .refine Å (aad)<|Å (ť b)<|Å (ô)<|Å (ô)<|Å (ag b) ?_;simp[gA]
   .exact Å (ķ<|by simpa using b)<|Å (ķ<|by simpa using b) rfl
  .exact Å (ķ<|by exact Å oL<|(A3 2199577301030) a hi)<|Å (ķ<|by exact Å AZ hi) rfl
 have k:cP ws.length eO base ws.length 0=sM ws.length eO base:=by
  unfold cP sM;refine ae λi hi=>ae λj b=>?_;unfold gA;exact Å (ť<|.inl ⟨gh.1 hi,gh.1 b⟩) rfl
 rw[k] at ù;have o:S1 50 9 [(0,(.Ñ<|ws.map SL,0)),(1,(.int base,0))] (.mS 3 (.Õ .Mult (.Ñ [(.c<|.int 1)])<|.č 0) (.one 2) Ń [(.Æ 0)]) ((3,(.Ñ<|TV<|cP ws.length eO base 0 0,2))::[(0,(.Ñ<|ws.map SL,0)),(1,(.int base,0))]):=by
  exact Đ s<|S1.mS (.cons (.Æ rfl) .nil) (ϡ<|(A2 0xf4240570010266427106) h a) rfl (by decide) (by decide) (λv=>.Õ (.Ñ<|.cons .ï .nil) (.č rfl<|ug<|(A2 0xf4240570010266427106) h a)<|Đ (QU ..)<|Đ (a ..)<|wk ((A2 0x3e8370010266427106) h a)<|Ϙ rfl)<|(A2 0xf4240570010266427106) h a
 exact ew rfl (Ϙ rfl)<|.cons o<|.cons (S1.Ū (.cons (.č rfl<|ug<|(A2 0xf4240570010266427106) h a) .nil) (by exact Å a<|ĩ<|by omega) ù)<|.ret<|.dK rfl (by decide)<|by decide
noncomputable def elim(step:Á)(a:Â)(first r:Ã Â):Ã Â:=List.zipWith (λx y=>(x*first.getD step 0-r.getD step 0*y).fdiv a) r first
noncomputable def upd(N step:Á)(a:Â)(ù:Ã (Ã Â))(p:Á):Ã (Ã Â):=(List.range N).map λq=>if step<q/\q<p then elim step a (ù.getD step []) (ù.getD q []) else ù.getD q []
noncomputable def Mg(ù:Ã (Ã Â))(step:Á):Â:=(ù.getD step []).getD step 0
noncomputable def qo(N:Á)(t:Ã (Ã Â)):Á->Ã (Ã Â)×Â
 |0=>(t,1)
 |k+1=>(upd N k (qo N t k).2 (qo N t k).1 N,Mg (qo N t k).1 k)
noncomputable def MN(x:Â):Ò:=decide<|x.natAbs<10^60
noncomputable def Mo(N:Á)(ù:Ã (Ã Â)):Ò:=decide (ù.length=N)&&ù.all λr=>decide (r.length=N)&&r.all MN
noncomputable def So(N:Á)(t:Ã (Ã Â)):Ò:=(List.range N).all λk=>Mo N (qo N t k).1&&MN (qo N t k).2&&decide ((qo N t k).2≠0)&&decide (Mg (qo N t k).1 k≠0)
noncomputable def BG(N:Á)(t:Ã (Ã Â)):Â:=Mg (qo N t<|N-1).1<|N-1
noncomputable def kb(cs:Ã Á)(i j:Á):Á:=((List.range cs.length).map λk=>if(decide (k<=i) !=decide (k+cs.length<=i)) !=(decide (k<=j) !=decide (k+cs.length<=j)) then cs.getD k 0 else 0).sum
noncomputable def fF(cs:Ã Á)(base:Â):Ã Â:=rX (cs.length-2) (1-base^(2*cs.sum))++(cs.map λ(c:Á)=>1-base^(2*c))++(cs.map λ(c:Á)=>1-base^(2*c))
noncomputable def Ġ(l:Ã Â):Â:=l.foldl (·*·) 1
noncomputable def BA(cs:Ã Á)(base:Â):Ò:=So (2*cs.length) (sM (2*cs.length) (kb cs) base)&&decide (BG (2*cs.length) (sM (2*cs.length) (kb cs) base)=Ġ (fF cs base))
noncomputable def hO:Á->Ã (Ã Á)
 |0=>[[]]
 |m+1=>(hO m).flatMap λl=>[1::l,2::l]
noncomputable def gH:Ã Â:=[-4,-3,-2,2,3,4]
def Pe:(hO 2).all (λcs=>gH.all<|BA cs)=true:=by decide
def Qt:(hO 3).all (λcs=>gH.all<|BA cs)=true:=by decide
def OI:(hO 4).all (λcs=>gH.all<|BA cs)=true:=by decide
structure jD(N:Á)(ù:Ã (Ã Â)):Prop where
 l:ù.length=N
 r:∀(i:Á)(r:Ã Â),ù[i]?=À r->r.length=N/\∀x∈r,x.natAbs<10^60
def JD{ù:Ã (Ã Â)}(h:Mo N ù=true):jD N ù:=by
 unfold Mo at h;rw[è,ϻ,ę] at h;refine⟨h.1,λi r a=>?_⟩;have:=h.2 r<|Ŕ a;rw[è,ϻ,ę] at this;refine⟨this.1,λx hx=>?_⟩;have:=this.2 x hx;unfold MN at this;exact ma this
def jD.row{ù:Ã (Ã Â)}(h:jD N ù)(hi:i<N):ù[i]?=À (ù.getD i [])/\(ù.getD i []).length=N/\(∀x∈ù.getD i [],x.natAbs<10^60):=by
 have e:ù[i]?=À (ù.getD i []):=by simp[í,h.l,hi]
 exact⟨e,h.r i _ e⟩
def jD.at_{ù:Ã (Ã Â)}(h:jD N ù)(hi:i<N)(b:j<N):((ù.getD i []).getD j 0).natAbs<10^60:=by
 refine Ϸ (h.row hi) λ_ c a=>?_;generalize ù.getD i []=r at*;exact a _<|Å (í)<|Å (Ų<|Å c b)<|lh _
def CP{N:Á}{ù:Ã (Ã Â)}(h:jD N ù)(a:N<=100)(hi:i<N):ō (.Ñ<|TV ù) (.int i)=À (IV<|ù.getD i []):=by
 refine Ϛ ?_ (by simp[TV,h.l];exact ϴ ‹_› rfl);unfold TV;exact Å (ô)<|Å ((h.row hi).1) rfl
def lA(h:r.length=N)(b:N<=100){j:Á}(a:j<N):ō (IV r) (.int j)=À (.int<|r.getD j 0):=Ku ((A3 1241280545062) h a)<|(A2 0x3e8370064271061026) h b
def Fm(hx:x.natAbs<10^60)(h:y.natAbs<10^60):ü .Mult (.int x) (.int y)=À (.int<|x*y,0)/\(x*y).natAbs<10^60*10^60:=by
 have a:(10:Á)^60<=10^2000:=by decide
 refine⟨by refine Å (show ü .Mult (.int x) (.int y)=if Ĕ x&&Ĕ y then À (.int<|x*y,0) else Ä from rfl)<|Å (m8<|ú (oa hx) a)<|Å (m8<|ú (oa h) a) ?_;rfl,?_⟩;exact Å (Int.natAbs_mul ..)<|Nat.mul_lt_mul_of_lt_of_lt hx h
def Qg(hx:x.natAbs<10^60*10^60)(h:y.natAbs<10^60*10^60)(hz:z≠0):ü .FloorDiv (.int<|x-y) (.int z)=À (.int<|(x-y).fdiv z,0):=by
 exact Å (show ü .FloorDiv (.int<|x-y) (.int z)=if z≠0/\Ĕ (x-y)=true then À (.int<|(x-y).fdiv z,0) else Ä from rfl)<|Å (ť ⟨hz,(m8 (i:=x-y)<|ú (Int.natAbs_sub_le x y)<|ú (Nat.add_le_add (oa hx)<|oa h)<|by decide)⟩) rfl
def fj.Rj{items:Ã V}:(∀v∈items,∃ò x m ĕ r f gD,TP n Γ t v ò/\EV n ò c x m ĕ/\(Ó x=À true/\EV n ĕ e r f gD/\Sub gD Γ\/Ó x=À false/\Sub ĕ Γ))->∃rs,fj n t c e Γ items rs Γ/\rs.length<=items.length:=by
 induction items with
 |nil=>exact λ_=>⟨[],.nil,aj _⟩
 |cons v vs ih=>
  intro H;refine ì (ih λv k=>H v<|.tail _ k) λrs h i=>?_;obtain⟨ò,x,m,ĕ,r,f,gD,g,j,a⟩:=H v<|.head _;rcases a with⟨a,b,o⟩|⟨a,b⟩
  .exact⟨r::rs,.yes g j a (b.Ī o) h,CU i⟩
  .exact⟨rs,.no g (j.Ī b) a h,Ew i⟩
def vZ{a b:Á}(h:a<=b)(c:b<=1000):ć [.int a,.int b]=À (û a<|b-a):=by
 refine Å (show ć [.int (a:Â),.int (b:Â)]=if(-1000000<=(a:Â)/\(a:Â)<=1000000)/\(-1000000<=(b:Â)/\(b:Â)<=1000000)/\(b:Â)-a<=1000000 then À (û a ((b:Â)-a).toNat) else Ä from rfl) (Å (ť<|by(and_intros<;>omega)) ?_);congr 2;exact(A3 0x21902f02f2d1d9472d1d90d52d1d9f3786)<|iY _
def cD(ù:Ã (Ã Â))(a:Â):ĳ:=[(2,(.Ñ<|TV ù,1)),(3,(.int a,0)),(4,(.int 1,0))]
abbrev zQ:Ã PS:=[.î 10 (.sub (.ä 2<|.Æ 9)<|.Æ 5),.ö 2 (.Æ 9) VU]
def cE(ù:Ã (Ã Â))(a:Â)(first:Ã Â)(step:Á):ĳ:=[(2,(.Ñ<|TV ù,1)),(3,(.int a,0)),(4,(.int 1,0)),(8,(IV first,0)),(5,(.int step,0))]
def Bx{N step p:Á}{ù:Ã (Ã Â)}(h:N<=100)(H:jD N ù)(f:first.length=N)(g:∀x∈first,x.natAbs<10^60)(s:step<N)(o:p<N)(A:last≠0):
  SV 50 12 ((9,(.int p,0))::cE ù last first step) zQ .next (cE (ù.set p<|elim step last first<|ù.getD p []) last first step):=by
 refine Ϸ (H.row o) λL c t=>?_;have vr:=CP H h o;generalize M:ù.getD p []=r at*;have m:∀{l:Ã Â}{j:Á},l.length=N->(∀x∈l,x.natAbs<10^60)->j<N->(l.getD j 0).natAbs<10^60:=by
  intro l j C K G;exact K _<|Å (í)<|Å (Ų<|(A3 1241280545062) C G)<|lh _
 have b:(TV ù).length=N:=by simp[TV,H.l]
 refine .cons (S1.î (.sub (.ä rfl (.Æ rfl) rfl vr) (.Æ rfl)<|lA c h s)<|by decide) ?_;have E:(elim step last first r).length=N:=by unfold elim;exact Å length_zipWith<|(A4 0x202102311730213078623262126) f c<|Aj _ _
 have D:EV 12 ((10,(.int<|r.getD step 0,0))::(9,(.int p,0))::cE ù last first step) VU (IV<|elim step last first r) 1 ((10,(.int<|r.getD step 0,0))::(9,(.int p,0))::cE ù last first step):=by
  refine .comp (.cons (.č rfl<|ug<|(A2 0xf4240570010266427106) h b) .nil) (ĩ<|(A2 0xf4240570010266427106) h b) rfl (.gp (by decide) rfl (Å (Ś ..)<|Å (b ..)<|Å (É ..)<|Å (E ..) rfl) λk v w y I=>?_);obtain⟨rfl,a⟩:=ś y;rw[b] at a;refine Å (ž ..) ?_;have q:w=.int ((r.getD k 0*first.getD step 0-r.getD step 0*first.getD k 0).fdiv last):=by
   obtain⟨x,hx,rfl⟩:=ŧ I;unfold elim at hx;rw[getElem?_zipWith] at hx;rw[(show r[k]?=À (r.getD k 0) by simp[í,c,a]),(show first[k]?=À (first.getD k 0) by simp[í,f,a])] at hx;simp only[dy] at hx;exact Đ hx rfl
  subst q;obtain⟨m1,m2⟩:=Fm (m c t a)<|m f g s;obtain⟨B,J⟩:=Fm (m c t s)<|m f g a;exact⟨_,EV.Õ (EV.Õ (EV.Õ (EV.sub (EV.ä rfl (EV.Æ rfl) rfl vr) (EV.Æ rfl)<|lA c h a) (EV.ä rfl (EV.Æ rfl) rfl<|lA f h s) m1) (EV.Õ (EV.Æ rfl) (EV.ä rfl (EV.Æ rfl) rfl<|lA f h a) B) rfl) (EV.Æ rfl)<|Qg m2 J A⟩
 refine SV.Ī (SV.cons (S1.ö D rfl (EV.Æ rfl) rfl (aF (Å b o)<|(A2 0xf4240570010266427106) h b)<|by decide) SV.nil) ?_;have e:(TV ù).set p (IV<|elim step last first r)=TV (ù.set p<|elim step last first r):=by unfold TV;exact Å List.map_set rfl
 exact Å e<|.to rfl<|.to rfl<|.to rfl<|.to rfl<|.to rfl .ŉ
def y6{N step:Á}{ù:Ã (Ã Â)}(hq:q<N):(upd N step last ù p).getD q []=if step<q/\q<p then elim step last (ù.getD step []) (ù.getD q []) else ù.getD q []:=by
 unfold upd;exact Å (í)<|Å (ô)<|Å (ag hq) rfl
def iL{N step:Á}{ù:Ã (Ã Â)}:(upd N step last ù p).length=N:=by unfold upd;exact Å (É ..)<|Å (bZ ..) rfl
def Fp{N step:Á}{a:Â}{ù:Ã (Ã Â)}(h:ù.length=N):upd N step a ù (step+1)=ù:=by
 refine fR λq=>?_;rcases Ţ q N with hq|hq
 .unfold upd;refine Å (ô)<|Å (ag hq) ?_;simp;refine Å (È<|by exact(A2 964238049657)) ?_;simp[í,h,hq]
 .exact Å (ķ<|by exact Å iL hq)<|Å (ķ<|by exact(A3 2199577301030) h hq) rfl
def DT{N step:Á}{a:Â}{ù:Ã (Ã Â)}(h:p<N)(s:step<p):(upd N step a ù p).set p (elim step a (ù.getD step [])<|(upd N step a ù p).getD p [])=upd N step a ù (p+1):=by
 refine Å (y6 h) (Å (È<|by exact(A2 1053049)) ?_);refine fR λq=>?_;refine Å (kU) ?_;rcases Ţ q N with hq|hq
 .by_cases e:p=q
  .subst e;refine Å (ť rfl) (Å (ť<|by exact Å iL h) ?_);unfold upd;refine Å (ô)<|Å (ag hq) ?_;simp only[ej];exact Å (ť<|by exact⟨(A2 16846870) s,(A1 919553)⟩) rfl
  .refine Å (È e) ?_;unfold upd;refine Å (ô)<|Å (ô)<|Å (List.getElem?_range hq) ?_;simp only[ej];simp only[(show(step<q/\q<p)↔(step<q/\q<p+1) by omega)]
 .exact Å (È<|by exact(A3 1275639243030) h hq)<|Å (ķ<|by rw[iL];exact hq)<|Å (ķ<|by rw[iL];exact hq) rfl
def G4{N step:Á}{a:Â}{ù:Ã (Ã Â)}(b:jD N ù)(f:jD N (upd N step a ù N))(p:Á)(g:p<=N):jD N (upd N step a ù p):=by
 refine⟨iL,λi r h=>?_⟩;have hi:i<N:=by have:=ĵ h;rwa [iL] at this
 have e:r=(upd N step a ù p).getD i []:=by simp[í,h]
 rw[y6 hi] at e;by_cases c:step<i/\i<p
 .rw[ť c] at e;have:=f.row hi;rw[y6 hi,ť ⟨c.1,hi⟩,<-e] at this;exact this.2
 .rw[È c] at e;have:=b.row hi;rw[<-e] at this;exact this.2
def Br{N step:Á}{ù:Ã (Ã Â)}{a:Â}(c:N<=100)(H:jD N ù)(b:jD N (upd N step a ù N))(s:step<N)(g:a≠0):
  FR 50 12 (.one 9) zQ (cE ù a (ù.getD step []) step) (û ((step+1:Á):Â)<|N-(step+1)) (cE (upd N step a ù N) a (ù.getD step []) step):=by
 have h:=FR.idx (F:=50) (n:=12) (t:=.one 9) (p:=zQ) (items:=û ((step+1:Á):Â)<|N-(step+1)) (λp=>cE (upd N step a ù p) a (ù.getD step []) step) (step+1) λk v j=>?_
 .rw[Ś,show step+1+(N-(step+1))=N by exact(A2 0xe1809e18820116) s] at h;simp only[Fp H.l] at h;exact h
 .obtain⟨rfl,o⟩:=ś j;obtain⟨_,m,f⟩:=H.row s;refine⟨_,.one<|by decide,?_⟩;have:=Bx (p:=step+1+k) c (G4 H b (step+1+k)<|by exact(A3 76042777732943894) o) m f s (by exact(A3 76042782027911190) o) g;rw[DT (by exact(A3 76042782027911190) o) (by exact(A2 31492097))] at this;exact Å (show((step+1:Á):Â)+(k:Â)=((step+1+k:Á):Â) by exact(A2 8453651485986181)) this
abbrev Fc:Ã PS:=[.î 7 LC,.Ŗ (.cmp .Eq (.Æ 7)<|.Ñ [])
  [.ret (.c<|.int 0)]
  [],PI,.î 8<|.ä 2<|.Æ 5,.Ū (.one 9) ć [(.Õ .Add (.Æ 5)<|.c<|.int 1),(.č 2)] zQ,.î 3<|.ä 8<|.Æ 5]
def BX{N step:Á}{ù:Ã (Ã Â)}(a:N<=100)(H:jD N ù)(w:jD N (upd N step last ù N))(s:step<N)(x:last≠0)(y:Mg ù step≠0):
  SV 50 12 ((5,(.int step,0))::cD ù last) Fc .next (cD (upd N step last ù N)<|Mg ù step):=by
 have o:∀{rs:Ã (Ã Â)},rs.length=N->(TV rs).length=N:=λh=>by simp[TV,h]
 obtain⟨_,D,E⟩:=H.row s
 let Γ0:ĳ:=(5,(.int step,0))::cD ù last
 have B:û (step:Â) (N-step)=.int step::û ((step:Â)+1) (N-(step+1)):=by
  rw[show N-step=(N-(step+1))+1 by exact(A2 0xee1809810920116) s,aJ]
 have b:∀q:Á,q<N->EV 12 ((6,(.int q,0))::Γ0) (.cmp .NotEq (.sub (.ä 2<|.Æ 6)<|.Æ 5)<|.c<|.int 0) (.bool<|!decide ((ù.getD q []).getD step 0=0)) 0 ((6,(.int q,0))::Γ0):=λq hq=>
  .cmp (.sub (.ä rfl (.Æ rfl) rfl<|CP H a hq) (.Æ rfl)<|lA (H.row hq).2.1 a s) .ï (ET _ _)
 have f:=fj.Rj (n:=12) (t:=.one 6) (c:=.cmp .NotEq (.sub (.ä 2<|.Æ 6)<|.Æ 5)<|.c<|.int 0) (e:=.Æ 6) (Γ:=Γ0) (items:=û ((step:Â)+1)<|N-(step+1)) λv A=>by
  obtain⟨k,p⟩:=List.mem_iff_getElem?.mp A;obtain⟨rfl,p⟩:=ś p;rw[show((step:Â)+1+(k:Â))=((step+1+k:Á):Â) by exact(A2 8453651486005381)];refine⟨_,_,_,_,.int ((step+1+k:Á):Â),0,(6,(.int ((step+1+k:Á):Â),0))::Γ0,TP.one<|by decide,b (step+1+k)<|by omega,?_⟩;by_cases h:(ù.getD (step+1+k) []).getD step 0=0
  .exact .inr ⟨by simp only[Ó,h,oD,aam],.skip rfl .refl⟩
  .exact .inl ⟨by simp only[Ó,h,og,Bool.not_false],EV.Æ rfl,.skip rfl .refl⟩
 obtain⟨rs,j,this⟩:=f;have g:EV 12 Γ0 LC (.Ñ (.int step::rs)) 1 Γ0:=by
  refine EV.oS (ES.cons (EV.Æ rfl)<|ES.cons (EV.č rfl<|ug<|by rw[o H.l];exact ϴ ‹_› rfl) ES.nil) (by rw[o H.l];exact vZ (by exact M6 ‹_›)<|by exact ϴ ‹_› rfl) rfl ?_;rw[B];exact .yes (TP.one<|by decide) (b step s) (by simp only[Ó];rw[mE (show¬(ù.getD step []).getD step 0=0 from y)];rfl) ((EV.Æ rfl).Ī<|.skip rfl .refl) j
 refine SV.cons (S1.î g<|by decide) ?_;refine SV.cons (S1.skip (EV.cmp (EV.dK rfl (by decide)<|by decide) (EV.Ñ ES.nil) (t:=false) rfl) rfl) ?_;have C:ō (.Ñ (.int step::rs)) (.int 0)=À (.int step):=by
  have m:(V.int (step:Â)::rs).length<=1000000:=by
   rw[Ś] at this;simp only[kc];exact(A3 0xf424057e080e28190066427106) a this
  exact Ϛ (k:=0) rfl m
 refine SV.cons (S1.skip (EV.cmp (EV.ä rfl EV.ï rfl C) (EV.Æ rfl) (t:=false)<|by rw[ET];simp) rfl) ?_;exact SV.cons (S1.î (EV.ä rfl (EV.Æ rfl) rfl<|CP H a s)<|by decide)<|SV.pre (ò:=cE ù last (ù.getD step []) step) (SV.Ī (SV.cons (S1.Ū (ES.cons (EV.Õ (EV.Æ rfl) EV.ï (r:=.int ((step+1:Á):Â)) rfl)<|ES.cons (EV.č rfl<|ug<|by rw[o H.l];exact ϴ ‹_› rfl) ES.nil) (by rw[o H.l];exact vZ ((A2 8061456406) s)<|by exact ϴ ‹_› rfl)<|Br a H w s x)<|SV.cons (S1.î (EV.ä rfl (EV.Æ rfl) rfl<|lA D a s)<|by decide) SV.nil)<|.to rfl<|.to rfl<|.to rfl .ŉ)<|.to rfl<|.to rfl<|.to rfl<|.to rfl<|.to rfl .ŉ
def tG(h:So N t=true)(a:k<N):jD N (qo N t k).1/\(qo N t k).2≠0/\Mg (qo N t k).1 k≠0:=by
 unfold So at h;rw[ę] at h;have:=h k<|gh.2 a;simp at this;exact⟨JD this.1.1.1,this.1.2,this.2⟩
def Mb{N:Á}{t:Ã (Ã Â)}(a:2<=N)(b:N<=100)(h:So N t=true):Ĭ [.Ñ (TV t)]=À (.int<|BG N t,0):=by
 have R:=(tG h (k:=0)<|(A1 4043446022) a).1;have j:∀{rs:Ã (Ã Â)},rs.length=N->(TV rs).length=N:=λh=>by simp[TV,h]
 have m:(TV t).length=N:=j R.l;have s:EV 12 [(0,(.Ñ<|TV t,0))] (.comp (.fn AF [(.Æ 1)]) (.one 1) Ń [(.Æ 0)] Ä) (.Ñ<|TV t) 1 [(0,(.Ñ<|TV t,0))]:=by
  refine .comp (.cons (.Æ rfl) .nil) (ϡ<|(A2 0xf4240570010266427106) b m) rfl (.gp (by decide) rfl rfl λk v r g B=>?_);obtain rfl:=à<|g▸B;obtain⟨x,hx,rfl⟩:=ŧ g;exact⟨_,.fn (.cons (.Æ rfl) .nil)<|show AF [IV x]=À (IV x,1) from ť<|Å (É ..)<|(A2 0xf4240570010266427106) b<|(R.r k x hx).1⟩
 have c:FR 50 12 (.one 5) Fc (cD t 1) (û 0<|N-1) (cD (qo N t<|N-1).1 (qo N t<|N-1).2):=by
  have q:=FR.idx (F:=50) (n:=12) (t:=.one 5) (p:=Fc) (items:=û 0<|N-1) (λk=>cD (qo N t k).1 (qo N t k).2) 0 λk v g=>?_
  .rw[Ś,ů] at q;exact q
  .obtain⟨rfl,y⟩:=ś g;exact Å (ž ..)<|Å (ů ..)<|Ϸ (tG h (k:=k)<|(A2 4326526998) y) λo G H=>⟨_,TP.one<|by decide,BX b o ((tG h (k:=k+1)<|(A2 2063763345430) y).1) ((A2 4326526998) y) G H⟩
 refine Ϸ (tG h (k:=N-1)<|(A1 964505507590) a) λo _ _=>?_;refine Ϸ (o.row (i:=N-1)<|(A1 964505507590) a) λD A K=>?_;have f:ü .Mult (.int 1) (.int<|BG N t)=À (.int<|1*BG N t,0):=(Fm (by decide)<|o.at_ ((A1 964505507590) a)<|(A1 964505507590) a).1;rw[U3] at f;have E:ć [.int ((N:Â)-1)]=À (û 0<|N-1):=by
  exact Å (show(N:Â)-1=((N-1:Á):Â) by exact(A1 0xe09de0d95021706) a)<|ĩ<|(A1 0xf424057e0906427006) b
 have C:ō (.Ñ<|TV (qo N t<|N-1).1) (.int<|-1)=À (IV<|(qo N t<|N-1).1.getD (N-1) []):=by
  refine kz (k:=N-1) (by exact Å (j o.l)<|(A1 0xde09d9ec5021706) a) ?_ (by refine Å (j o.l) ?_;omega);unfold TV;exact Å (ô)<|Å D rfl
 have J:ō (IV<|(qo N t<|N-1).1.getD (N-1) []) (.int<|-1)=À (.int<|BG N t):=by
  unfold BG Mg;generalize(qo N t<|N-1).1.getD (N-1) []=r at*;refine kz (k:=N-1) (by exact Å (É ..)<|(A2 0x1de09d9ec50126021706) a A) ?_ (by exact Å (É ..)<|(A2 0xf4240570010266427106) b A);refine Å (ô) ?_;simp[í,A,show N-1<N by exact(A1 964505507590) a]
 exact ew rfl (Ϙ rfl) (ò:=cD (qo N t<|N-1).1 (qo N t<|N-1).2)<|SV.cons (S1.par (vs:=[(.Ñ<|TV t,1),(.int 1,0),(.int 1,0)]) (EM.cons s<|EM.cons EV.ï<|EM.cons EV.ï EM.nil) (by decide) rfl)<|SV.pre (ò:=cD t 1) (SV.cons (S1.Ū (ES.cons (EV.Õ (EV.č rfl<|ug<|(A2 0xf4240570010266427106) b m) EV.ï (r:=.int<|(N:Â)-1)<|by refine Å m ?_;rfl) ES.nil) E c)<|SV.ret<|EV.Õ (EV.Æ rfl) (EV.sub (EV.ä rfl EV.ï rfl C) EV.ï J) f)<|.to rfl<|.to rfl<|.to rfl .ŉ
noncomputable def bw(n:Á)(ds:Ã Á)(v:Á):Á:=ds.foldl (λv d=>v*2^n+d) v
noncomputable def B6(b n:Á):Ã Á->Ã Á×Á->Ã Á×Á
 |[],s=>s
 |d::ds,s=>B6 b n ds (s.1++[(s.2*2^n+d)/b],(s.2*2^n+d)%b)
def Nn(k:0<b)(ds:Ã Á):∀(qs:Ã Á)(r:Á),r<b->(∀d∈ds,d<2^n)->(∀q∈qs,q<2^n)->
  (B6 b n ds (qs,r)).2<b/\(∀q∈(B6 b n ds (qs,r)).1,q<2^n)/\bw n (B6 b n ds (qs,r)).1 0*b+(B6 b n ds (qs,r)).2=bw n ds (bw n qs 0*b+r)/\(B6 b n ds (qs,r)).1.length=qs.length+ds.length:=by
 induction ds with
 |nil=>exact λqs r g _ hq=>⟨g,hq,rfl,rfl⟩
 |cons d ds ih=>
  intro qs r g m hq;have j:(r*2^n+d)/b<2^n:=by
   refine Å (pI<|om k ..) ?_;have:(r+1)*2^n<=b*2^n:=ye _ g;rw[j4,pM] at this;exact Å (fY (2^n) b)<|(A4 81206712031654422) (m d<|.head _) this
  obtain⟨p,w,o,t⟩:=ih (qs++[(r*2^n+d)/b]) ((r*2^n+d)%b) (ϊ _ k) (λd a=>m d<|by simp[a]) (by
   intro q f;rcases æ.1 f with h|h
   .exact hq q h
   .exact Å (Ċ.1 h) j)
  refine⟨p,w,?_,?_⟩
  .refine(?_:bw n (B6 b n ds (qs++[(r*2^n+d)/b],(r*2^n+d)%b)).1 0*b+(B6 b n ds (qs++[(r*2^n+d)/b],(r*2^n+d)%b)).2=_);refine Å o ?_;refine(?_:bw n ds _=bw n ds ((bw n qs 0*b+r)*2^n+d));congr 1;have e:bw n (qs++[(r*2^n+d)/b]) 0=bw n qs 0*2^n+(r*2^n+d)/b:=by unfold bw;exact Å tF rfl
   refine Å e ?_;have:=ł (r*2^n+d) b;generalize bw n qs 0=v at*;generalize(r*2^n+d)/b=q at*;generalize(r*2^n+d)%b=s at*;exact Å (j4 ..)<|Å (j4 ..)<|Å (Nat.mul_right_comm ..)<|Å (fY q b ..)<|(A5 0x1438820388214820826) this
  .refine(?_:(B6 b n ds (qs++[(r*2^n+d)/b],(r*2^n+d)%b)).1.length=_);refine Å t ?_;simp;exact(A2 0xe18081e0882)
noncomputable def dN(n:Á):Á->Á->Ã Á
 |0,_=>[]
 |k+1,a=>a%2^n::dN n k (a/2^n)
def NX(n:Á):∀k a,Ď n k a=(dN n k a).map λ(x:Á)=>(x:Â):=by
 intro r0
 induction r0 with
 |zero=>exact λ_=>rfl
 |succ k ih0=>exact λa=>Ù (_::·)<|ih0 _
def L8(n:Á):∀k a,(dN n k a).length=k:=by
 intro r0
 induction r0 with
 |zero=>exact λ_=>rfl
 |succ k ih0=>exact λa=>Ù (·+1)<|ih0 _
def Og(n:Á):∀k a,∀d∈dN n k a,d<2^n:=by
 intro r0
 induction r0 with
 |zero=>intro _ d h;exact ϭ h
 |succ k ih0=>
  intro a d h;rcases ő.1 h with rfl|h
  .exact ϊ _<|ϑ _
  .exact ih0 _ d h
def Lq(n:Á):∀k a,a<2^(n*k)->bw n (dN n k a).reverse 0=a:=by
 intro r0
 induction r0 with
 |zero=>intro a h;simp at h;subst h;rfl
 |succ k ih0=>
  intro a h;have b:a/2^n<2^(n*k):=by
   refine Å (pI<|om (ϑ _) ..)<|Đ (lI ..) ?_;rw[Nat.mul_succ] at h;exact h
  rw[show dN n (k+1) a=a%2^n::dN n k (a/2^n) from rfl,reverse_cons];unfold bw at*;refine Å tF<|Å (ih0 _ b) ?_;simp;exact Å (fY ..)<|(ł a<|2^n)
def Cj(n:Á):∀(ds:Ã Á),(ds.map λ(x:Á)=>(x:Â)).foldr (λ(d r:Â)=>r*2^n+d) 0=((bw n ds.reverse 0:Á):Â):=by
 intro r0
 induction r0 with
 |nil=>exact rfl
 |cons d ds ih0=>
  refine Å mC<|Å oY<|Å (ih0)<|Å reverse_cons ?_;unfold bw;refine Å tF ?_;simp only[DN,foldl_nil,yB,xn,Int.natCast_pow];rfl
def ints_map:∀(ds:Ã Á),ϫ (ds.map λ(x:Á)=>V.int x)=À (ds.map λ(x:Á)=>(x:Â)):=by
 intro r0
 induction r0 with
 |nil=>exact rfl
 |cons d ds ih0=>
  have:=ih0;unfold ϫ at this⊢;exact Å mC<|Å gU<|Å this rfl
noncomputable def bN(b:Á):Á:=if b=0 then 0 else Nat.log2 b+1
def nq(b:Á):ϖ b=(bN b:Â):=by unfold ϖ bN;split<;>rfl
def Ra(b:Á):b<2^bN b:=by
 unfold bN;split
 .omega
 .exact yU
def qX(h:b<2^k):bN b<=k:=by
 unfold bN;split
 .exact Ϫ _
 .rename_i a;have:=(Wy a).2 h;exact(A2 8061456406) this
noncomputable def NV(ds:Ã Á):V:=.Ñ<|ds.map λ(x:Á)=>V.int x
def rb{a b:Á}(m:0<b)(j:a<2^250)(c:b<2^250):ĝ [.int a,.int<|bN b]=À (NV<|dN (bN b) ((bN a+bN b-1)/bN b) a,0):=by
 have h:1<=bN b:=by unfold bN;refine Å (È<|Yc ‹_›) ?_;exact(A1 919776)
 have f:=qX j;have k:(bN a+bN b-1)/bN b<=250:=by
  refine Å (pI<|Gk ((A1 15797766) h) ..) ?_;have:bN b*250>=250:=ly _ h;exact(A2 0xe090fa2b8e01890fa271060e06) h f
 have e:(ϖ a+(bN b:Â)-1).fdiv (bN b)=(((bN a+bN b-1)/bN b:Á):Â):=by
  exact Å (nq ..)<|Å (mu _ (by exact(A1 3571)) ..)<|Å (show(bN a:Â)+bN b-1=((bN a+bN b-1:Á):Â) by exact(A2 0xe0189de0d1d8950e06) h ..) rfl
 exact(Å (Ě ..) (Å (e ..)<|Å (Ě ..)<|Å (Ě ..)<|Å (ť ⟨by exact(A1 3571),by exact(A1 232984070) h,by exact(A1 0xfa0370d3fa27006)<|qX c,by rw[nq];exact(A1 0xfa0370d3fa27006) f,by exact(A1 72118124079640582) k⟩ ..)<|Å (NX ..)<|Å (ſ ..) rfl):(if 0<=(a:Â)/\1<=(bN b:Â)/\(bN b:Â)<=4000/\ϖ (a:Â).toNat<=4000/\(ϖ (a:Â).toNat+(bN b:Â)-1).fdiv (bN b)<=256 then À (V.Ñ<|(Ď (bN b:Â).toNat ((ϖ (a:Â).toNat+(bN b:Â)-1).fdiv<|bN b).toNat (a:Â).toNat).map .int,0) else Ä)=_)
def my{ds:Ã Á}(c:n<=1000)(f:ds.length<=256)(a:n*ds.length<=8000)(g:∀d∈ds,d<2^n):ğ [NV ds,.int n]=À (.int<|bw n ds.reverse 0,0):=by
 refine(?_:(ϫ<|ds.map λ(x:Á)=>V.int x).bind (λb=>if 0<=(n:Â)/\(n:Â)<=4000/\(ds.map λ(x:Á)=>V.int x).length<=256/\(n:Â)*(ds.map λ(x:Á)=>V.int x).length<=8000/\(∀d∈b,0<=d/\d<2^(n:Â).toNat) then À (V.int<|b.foldr (λd r=>r*2^(n:Â).toNat+d) 0,0) else Ä)=_);rw[ints_map,lR,ť,Ě,Cj];refine⟨by omega,((A1 0xfa0370d33e837006) c),by refine Å (É ..) ?_;exact f,?_,?_⟩
 .refine Å (É ..) ?_;exact_mod_cast a
 .intro d h;obtain⟨x,hx,rfl⟩:=dp.1 h;exact Å (Ě ..)<|⟨by omega,by exact_mod_cast(g x hx)⟩
def S1.rev(h:Γ.lookup i=À (.Ñ xs,1))(b:xs.length<=1000000)(hi:i<n):S1 F n Γ (.rev i) ((i,(.Ñ xs.reverse,1))::Γ):=λσ a=>
 ⟨_,OR (a.get' h) b,a.ö hi _ _⟩
def SV.e7(f:EV n Γ e v m ò)(k:Ó v=À false)(a:SV F n ò q (.ret r) ĕ):SV F n Γ (.Ŗ e p q::ss) (.ret r) ĕ:=λσ h=>by
 exact ì (f σ h) λτ b g=>ì (a τ g) λρ j c=>⟨ρ,ra<|uY b k j,c⟩
def kh(h:x.natAbs<2^600):Ĕ x=true:=by
 have a:(2:Á)^600<=10^2000:=by decide
 exact rG x<|by refine Đ (show((10^2000:Á):Â)=(10:Â)^2000 by norm_cast) ?_;generalize(10:Á)^2000=z at*;generalize(2:Á)^600=w at*;(and_intros<;>omega)
def cV(b:Á)(qs:Ã Á)(r:Á):ĳ:=[(5,(NV qs,1)),(4,(.int r,0)),(2,(.int<|bN b,0)),(1,(.int b,0))]
abbrev Z7:Ã PS:=QR
def L0{x b:Á}(j:0<b)(hx:x<2^600)(a:b<2^250):cU [.int x,.int b,.int<|bN b]=À (.ñ [.int ((x/b:Á):Â),.int ((x%b:Á):Â)],0):=by
 have g:=qX hx;have c:∀y:Á,y<2^600->y.log2<8000:=by
  intro y f;by_cases h:y=0
  .subst h;decide
  .have:=(Wy h).2 f;omega
 refine(?_:(if(b:Â)≠0/\ϖ (x:Â).natAbs-(bN b:Â)<=4000/\(x:Â).natAbs.log2<8000/\(b:Â).natAbs.log2<8000 then À (V.ñ [.int ((x:Â).fdiv b),.int<|(x:Â).fmod b],0) else Ä)=_);refine Å (ť ⟨by omega,by refine Å (rp ..)<|Å (nq ..) ?_;omega,c _<|Å (rp ..) hx,c _<|Å (rp ..)<|r9 a<|by decide⟩) (Å (mu _<|by omega)<|Å (Ę _<|by omega) ?_);rfl
def Iz{b:Á}(g:0<b)(h:b<2^250)(ds:Ã Á):∀(qs:Ã Á)(r:Á),r<b->(∀d∈ds,d<2^bN b)->qs.length+ds.length<=1000->
  FR 50 9 (.one 6) Z7 (cV b qs r) (ds.map λ(x:Á)=>V.int x) (cV b (B6 b (bN b) ds (qs,r)).1 (B6 b (bN b) ds (qs,r)).2):=by
 induction ds with
 |nil=>exact λqs r _ _ _=>.nil
 |cons d ds ih=>
  intro qs r s j f;have k:=qX h;have m:=j d<|.head _;have p:(2:Á)^bN b<=2^250:=a8 (by decide) k;have hx:r*2^bN b+d<2^600:=by
   have q:r*2^bN b<=2^250*2^250:=aae (by omega) p;have t:(2:Á)^250*2^250+2^250<=2^600:=by decide
   omega
  have sh:ü .LShift (.int r) (.int<|bN b)=À (.int (r*2^bN b:Á),0):=by
   show(if 0<=(bN b:Â)/\(bN b:Â)<=10000/\Ĕ (r:Â)=true then À (V.int<|(r:Â)*2^(bN b:Â).toNat,0) else Option.none)=_;have o:(2:Á)^250<=2^600:=by decide
   rw[ť ⟨by omega,by omega,kh<|by rw[rp];generalize(2:Á)^600=w at*;omega⟩,Ě];congr 3
  have c:qs.length<=1000000:=by simp at f;omega
  refine .cons (.one<|by decide) (.Ī (.cons (S1.mO (vs:=[.int (((r*2^bN b+d)/b:Á):Â),.int (((r*2^bN b+d)%b:Á):Â)]) (.fn (.cons (.Õ (.Õ (.Æ rfl) (.Æ rfl) sh) (.Æ rfl) (r:=.int ((r*2^bN b+d:Á):Â)) rfl)<|.cons (.Æ rfl)<|.cons (.Æ rfl) .nil)<|L0 g hx h) (by decide) rfl)<|.cons (S1.app rfl (.Æ rfl) rfl (by decide)<|by rw[É];exact c) .nil) ?_) (ih (qs++[(r*2^bN b+d)/b]) ((r*2^bN b+d)%b) (ϊ _ g) (λd a=>j d<|by simp[a])<|by simp at f⊢;omega);rw[(show(qs.map λ(x:Á)=>V.int x)++[V.int (((r*2^bN b+d)/b:Á):Â)]=(qs++[(r*2^bN b+d)/b]).map λ(x:Á)=>V.int x by simp)];exact .to rfl<|.to rfl<|.to rfl<|.to rfl .ŉ
def qE{a b:Á}(c:0<b)(t:a<2^250)(h:b<2^250):aS [.int a,.int b]=À (.ñ [.int ((a/b:Á):Â),.int ((a%b:Á):Â)],0):=by
 have K:=qX h;have E:1<=bN b:=by unfold bN;refine Å (È<|Yc ‹_›) ?_;omega
 have M:=qX t;have y:(bN a+bN b-1)/bN b<=250/\bN a<=bN b*((bN a+bN b-1)/bN b)/\bN b*((bN a+bN b-1)/bN b)<=600:=by
  have J:=ł (bN a+bN b-1)<|bN b;have L:=ϊ (bN a+bN b-1) (show 0<bN b by omega);refine⟨?_,by omega,by omega⟩;refine Å (pI<|Gk (OD ‹_›) ..) ?_;have:bN b*250>=250:=ly _ E;omega
 have H:=rb c t h;generalize v:(bN a+bN b-1)/bN b=k at*;have q:=Og (bN b) k a;have val:=Lq (bN b) k a (ϱ (Ra a)<|a8 (by decide) y.2.1);have len:=L8 (bN b) k a;generalize dN (bN b) k a=ds at*;refine sm (Nn (n:=bN b) c ds.reverse [] 0 c (λd m=>q d<|l8.1 m)<|by decide) λw D o s=>?_;have G:=Iz c h ds.reverse [] 0 c (λd m=>q d<|l8.1 m) (by simp;omega);have C:bw (bN b) [] 0*b+0=0:=by show 0*b+0=0;omega
 rw[C,val] at o;generalize(B6 (b:=b) (bN b) ds.reverse ([],0)).1=qs at*;generalize(B6 (b:=b) (bN b) ds.reverse ([],0)).2=r at*;rw[length_nil,ů,eA,len] at s;have q1:a/b=bw (bN b) qs 0:=Đ o (Nat.div_eq_of_lt_le (by omega)<|by rw[j4];omega);have un:=my (n:=bN b) (ds:=qs.reverse) (ϴ ‹_› rfl) (by refine Å eA ?_;omega) (by refine Å eA<|Å s ?_;omega) λd m=>D d<|l8.1 m;rw[reverse_reverse,<-q1] at un;refine Å (show a%b=r by rw[<-o,fY,EA,bR w]) ?_;have rv:(qs.map λ(x:Á)=>V.int x).reverse=qs.reverse.map λ(x:Á)=>V.int x:=map_reverse.symm;have p:Hs [NV ds]=À (ds.reverse.map λ(x:Á)=>V.int x):=by
  refine(?_:qh (ds.map λ(x:Á)=>V.int x).reverse=_);rw[<-map_reverse];exact ni<|by rw[É,eA];omega
 have bl:Ź [.int b]=À (.int<|bN b,0):=by
  refine(?_:À (V.int<|ϖ (b:Â).natAbs,0)=_);rw[rp,nq]
 refine ew rfl (Ϙ rfl) (.cons (S1.î (.fn (.cons (.Æ rfl) .nil) bl)<|by decide)<|.cons (S1.î (.fn (.cons (.Æ rfl)<|.cons (.Æ rfl) .nil) H)<|by decide)<|.cons (S1.î .ï<|by decide)<|.cons (S1.î (.Ñ .nil)<|by decide)<|.cons (ò:=cV b qs r) ?_<|.cons (S1.rev rfl (by rw[É];omega)<|by decide)<|.cons (S1.î (.fn (.cons (.dK rfl (by decide)<|by decide)<|.cons (.Æ rfl) .nil)<|by rw[rv];exact un)<|by decide)<|.ret<|EV.ñ<|ES.cons (EV.Æ rfl)<|ES.cons (EV.Æ rfl) ES.nil);intro σ g;have j:dE 9 ((3,(NV ds,0))::cV b [] 0) σ:=g.sub<|.to rfl<|.to rfl<|.to rfl<|.to rfl<|.to rfl .ŉ;have f:dE 9 (cV b [] 0) σ:=g.sub<|.to rfl<|.to rfl<|.to rfl<|.to rfl .ŉ;refine ì (G σ f) λρ A I=>?_;have B:ď [.Æ 3] σ=À ([NV ds],σ):=Ð (Ç<|j.get rfl) Ą;exact⟨ρ,aac B p A,I⟩
noncomputable def DM(a b:Â):V:=.ñ [.int (a.fdiv b),.int<|a.fmod b]
def FA{a b q r:Â}(h:a=b*q+r)(f:0<=r)(j:r<b):a.fdiv b=q/\a.fmod b=r:=by
 refine Å (mu _<|by omega) (Å (Ę _<|by omega) ?_);have c:a/b=q:=by
  rw[h,GH,Int.add_mul_ediv_left _ _<|by omega,Int.ediv_eq_zero_of_lt f j,ž]
 have g:=Ŏ a b;rw[c] at g;exact⟨c,by omega⟩
def Ac{d:Á}{a b:Â}(h:0<=a)(g:0<b)(f:a.natAbs<2^250)(c:b.natAbs<2^250):NG (d+1) [.int a,.int b]=À (DM a b,0):=by
 obtain⟨a,rfl⟩:=et h;obtain⟨b,rfl⟩:=et<|pQ g;rw[rp] at f c;have e:DM a b=.ñ [.int ((a/b:Á):Â),.int ((a%b:Á):Â)]:=by
  unfold DM;exact Å (mu _<|by omega)<|Å (Ę _<|by omega) rfl
 exact Å e<|ew rfl (Ϙ rfl)<|.e7 (.cmp (.Æ rfl) .ï<|show Ĥ .Eq (.int (b:Â)) (.int 0)=À false by exact Å (iB ..)<|Å (mE (by omega) ..) rfl) rfl<|.e7 (.cmp (.Æ rfl) .ï<|show Ĥ .Lt (.int (b:Â)) (.int 0)=À false by exact Å (jm ..)<|Å (mE (by omega) ..) rfl) rfl<|.e7 (.cmp (.Æ rfl) .ï<|show Ĥ .Lt (.int (a:Â)) (.int 0)=À false by exact Å (jm ..)<|Å (mE (by omega) ..) rfl) rfl<|.ret<|.fn (.cons (.Æ rfl)<|.cons (.Æ rfl) .nil)<|qE (a:=a) (b:=b) (by omega) f c
def zT(h:0<b)(f:a.natAbs<2^249)(c:b.natAbs<2^249):NG (d+2) [.int a,.int b]=À (DM a b,0):=by
 have p:(2:Á)^249+1<=2^250:=by decide
 generalize(2:Á)^249=z at f c p;by_cases j:0<=a
 .exact Ac j h (by omega)<|by omega
 .have k:=Ac (d:=d) (a:=-a-1) (b:=b) (by omega) h (by omega) (by omega);have o:=Int.mul_fdiv_add_fmod (-a-1) b;have s:=EC (-a-1) h;have t:=Df (-a-1) h;unfold DM at k;generalize(-a-1).fdiv b=q at*;generalize(-a-1).fmod b=r at*;refine Ö (λm g=>?_) (FA (a:=a) (b:=b) (q:=-q-1) (r:=b+(-r-1)) (by refine Å (Int.mul_sub ..)<|Å (Int.mul_neg ..) ?_;omega) (by omega)<|by omega);unfold DM;refine Å m<|Å g ?_;exact ew rfl (Ϙ rfl) (.e7 (.cmp (.Æ rfl) .ï<|show Ĥ .Eq (.int b) (.int 0)=À false by exact Å (iB ..)<|Å (mE (by omega) ..) rfl) rfl (.e7 (.cmp (.Æ rfl) .ï<|show Ĥ .Lt (.int b) (.int 0)=À false by exact Å (jm ..)<|Å (mE (by omega) ..) rfl) rfl (.gg (.cmp (.Æ rfl) .ï<|show Ĥ .Lt (.int a) (.int 0)=À true by exact Å (jm ..)<|Å (ix (by omega) ..) rfl) rfl
   (.cons (S1.mO (.fn (.cons (.un (.Æ rfl) rfl)<|.cons (.Æ rfl) .nil) k) (by decide) rfl)<|.ret<|.ñ<|.cons (.un (.Æ rfl) rfl)<|.cons (.Õ (.Æ rfl) (.un (.Æ rfl) rfl) rfl) .nil))))
def jh(o:b≠0)(g:a.natAbs<2^249)(f:b.natAbs<2^249):Ņ [.int a,.int b]=À (DM a b,0):=by
 by_cases h:0<b
 .exact zT (d:=1) h g f
 .have k:=zT (d:=0) (a:=-a) (b:=-b) (by omega) (by omega) (by omega);have c:(-a).fdiv (-b)=a.fdiv b:=Int.neg_fdiv_neg a b;have j:(-a).fmod (-b)=-(a.fmod b):=by refine Å (Int.fmod_def ..)<|Å (Int.fmod_def ..)<|Å (c ..)<|Å (xt ..) ?_;omega
  unfold DM at k;rw[c,j] at k;have m:HM .USub (.int<|-(a.fmod b))=À (.int<|a.fmod b):=by
   exact(Å (Int.neg_neg ..) rfl:À (V.int<|- -(a.fmod b))=_)
  refine(?_:ė 50 4 2 (cB<|NG 2) [.int a,.int b]=_);exact ew rfl (Ϙ rfl) (.e7 (.cmp (.Æ rfl) .ï<|show Ĥ .Eq (.int b) (.int 0)=À false by exact Å (iB ..)<|Å (mE (by assumption) ..) rfl) rfl (.gg (.cmp (.Æ rfl) .ï<|show Ĥ .Lt (.int b) (.int 0)=À true by exact Å (jm ..)<|Å (ix (by omega) ..) rfl) rfl
   (.cons (S1.mO (.fn (.cons (.un (.Æ rfl) rfl)<|.cons (.un (.Æ rfl) rfl) .nil) k) (by decide) rfl)<|.ret<|.ñ<|.cons (.Æ rfl)<|.cons (.un (.Æ rfl) m) .nil)))
structure eN(m:Á)(E:Ã Á):Prop where
 len:E.length=m
 nd:E.Nodup
 lt:∀x∈E,x<48
noncomputable def ord(E:Ã Á):Ã Á:=(range E.length).mergeSort λi j=>decide<|E.getD i 0<=E.getD j 0
def nz(E:Ã Á)(t:Á):Á:=(ord E).getD (t%E.length) 0
def ř(E:Ã Á)(t:Á):Á:=E.getD (nz E t) 0+if t<E.length then 0 else 48
noncomputable def par(m j t:Á):Ò:=decide (j<=t) !=decide (j+m<=t)
section
variable{m:Á}{E:Ã Á}
def dn:(ord E).Perm (range E.length):=mergeSort_perm _ _
def dQ:(ord E).length=E.length:=Å dn.length_eq<|Å bZ rfl
def jA(a:k<E.length):(ord E).getD k 0<E.length:=by
 have h:(ord E).getD k 0∈ord E:=by
  exact Å (í)<|Å (Ų<|by rw[dQ];exact a)<|lh _
 exact gh.1<|dn.mem_iff.1 h
def Dh(H:eN m E)(hi:i<m)(c:j<m)(h:E.getD i 0=E.getD j 0):i=j:=by
 have a:E[i]?=À (E.getD i 0):=by simp[í,H.len,hi]
 have b:E[j]?=À (E.getD j 0):=by simp[í,H.len,c]
 rw[h,<-b] at a;exact(nV (Å H.len hi) H.nd).1 a
def cW(H:eN m E)(h:k<k')(p:k'<m):E.getD ((ord E).getD k 0) 0<E.getD ((ord E).getD k' 0) 0:=by
 have l:=@dQ E;have l:=(H.len ..)▸l;have g:(ord E)[k]?=À ((ord E).getD k 0):=by simp[í,l,show k<m by exact Vr ‹_› ‹_›]
 have o:(ord E)[k']?=À ((ord E).getD k' 0):=by simp[í,l,p]
 have le:E.getD ((ord E).getD k 0) 0<=E.getD ((ord E).getD k' 0) 0:=by
  have:=(Ed.1<|show List.Pairwise (λa b=>decide (E.getD a 0<=E.getD b 0)=true) (ord E) from pairwise_mergeSort (λa b c q s=>by simp at*;exact UD ‹_› ‹_›) (λa b=>by simp;exact(A2 1052680)) _) k k' (by omega) (by omega) h;rw[Ų (by omega)] at g o;rw[dy] at g o;have this:=o▸g▸this;exact ma this
 refine ie le λe=>?_;have j:=jA (E:=E) (k:=k) (by exact Å H.len<|Vr ‹_› ‹_›);have f:=jA (E:=E) (k:=k') (by exact Å H.len p);rw[H.len] at j f;have g:=o.symm▸(Dh H j f e)▸g;have:=(nV (by omega)<|dn.nodup_iff.2 nodup_range).1 g;omega
def oB(H:eN m E)(hi:i<m):E.getD i 0<48:=by
 exact H.lt _<|Å (í)<|Å (Ų<|Å H.len hi)<|lh _
def pJ(H:eN m E)(h:0<m)(t:Á):nz E t<m:=by
 have:=jA (E:=E) (k:=t%E.length)<|Å H.len<|ϊ _ h;rw[H.len] at this;unfold nz;exact Å H.len this
def WW(H:eN m E)(b:Ò)(q:t<2*m)(o:j<m):
  decide (((ř E t:Â)-((E.getD ((ord E).getD j 0) 0+(if b then 48 else 0):Á):Â)).fmod 96<48)=(par m j t !=b):=by
 refine Å (Ę _<|by decide) ?_;unfold ř nz par;refine Å H.len ?_;have p:t%m<m:=ϊ _ (show 0<m by exact OD ‹_›);have el:=oB H (i:=(ord E).getD (t%m) 0) (by have:=jA (E:=E) (k:=t%m) (by exact Å H.len p);rwa [H.len] at this);have g:=oB H (i:=(ord E).getD j 0) (by have:=jA (E:=E) (k:=j) (by exact Å H.len o);rwa [H.len] at this);have c:(t%m<j/\E.getD ((ord E).getD (t%m) 0) 0<E.getD ((ord E).getD j 0) 0)\/(t%m=j/\E.getD ((ord E).getD (t%m) 0) 0=E.getD ((ord E).getD j 0) 0)\/(j<t%m/\E.getD ((ord E).getD j 0) 0<E.getD ((ord E).getD (t%m) 0) 0):=by
  rcases GP (t%m) j with h|h|h
  .exact .inl ⟨h,cW H h o⟩
  .exact .inr<|.inl ⟨h,by exact Å h rfl⟩
  .exact .inr<|.inr ⟨h,cW H h p⟩
 generalize E.getD ((ord E).getD (t%m) 0) 0=x at*;generalize E.getD ((ord E).getD j 0) 0=y at*;by_cases f:t<m
 .have a:=bR f;refine Å (ť f) (Å (mE<|show¬j+m<=t by exact(A3 4966649878) f) ?_);cases b<;>by_cases h:j<=t<;>simp[h];exact(Sy 0x302704f602726027040f3780d1d901602a8576340632261012417012422780114217863027116) el c a h<|dz _ 96;exact(Sy 0x30273f602726027040f3781d0d901602a85763409632260112417102422781014217863027116) g c a h<|dz _ 96;exact(Sy 0x30273f602726027040f37830270d81d901602a8576340632261012417012422780114217863027116) el c a h<|dz _ 96;exact(Sy 0x302704f602726027040f37830271d80d901602a85763409632260112417102422781014217863027116) g c a h<|dz _ 96
 .have a:t%m=t-m:=by exact Å (y9<|by exact M4 ‹_›) (Å (bR<|(A2 18730639794198) q) rfl)
  refine Å (È f) (Å (ix<|show j<=t by exact(A3 35189230538774) o f) ?_);cases b<;>by_cases h:j+m<=t<;>simp[h];exact(R9 0x30273f602726027040f3780d30272d8901602a85763418064395262015117022152780211517863027216) el c a h<|dz _ 96;exact(R9 0x302704f602726027040f3782d30271d8901602a85765408096459326451961213017212032782110317863027216) g c f a h<|dz _ 96;exact(R9 0x302704f602726027040f37830270d830272d8901602a85763418064395262015117022152780211517863027216) el c a h<|dz _ 96;exact(R9 0x30273f602726027040f37830272d830271d8901602a85765408096459326451961213017212032782110317863027216) g c f a h<|dz _ 96
def Jv:∀m<5,∀j<m,∀t<2*m,par m j (if t=0 then 2*m-1 else t-1)=(par m j t^^decide (j=t%m)):=by decide
def DC(b:m<=4)(h:j<m)(a:t<2*m):par m j (if t=0 then 2*m-1 else t-1)=(par m j t^^(decide<|j=t%m)):=Jv m (GS b) j h t a
end
def Bt:∀l:Ã Â,(sortI l).Perm l:=by
 intro r0
 induction r0 with
 |nil=>exact .refl _
 |cons x l ih0=>exact(gb x _).trans<|(ih0).cons x
def vq:∀l:Ã Â,(sortI l).Pairwise (·<=·):=by
 intro r0
 induction r0 with
 |nil=>exact .nil
 |cons x l ih0=>exact gW x _<|ih0
section
variable{m:Á}{E:Ã Á}
def c7(l:Ã Á):(range l.length).map (λt=>l.getD t 0)=l:=by
 refine fR λi=>?_;rcases Ţ i l.length with h|h
 .refine Å (ô)<|Å (ag h) ?_;simp[í,h]
 .exact Å (ķ<|by simpa using h)<|Å (ķ h) rfl
def cv(E:Ã Á):Ã Á:=(range<|2*E.length).map<|ř E
def zE(H:eN m E)(a:0<m):(cv E).Perm (E++E.map (·+48)):=by
 have e:cv E=(ord E).map (λi=>E.getD i 0)++(ord E).map (λi=>E.getD i 0+48):=by
  unfold cv;refine Å (show 2*E.length=E.length+E.length by exact(A1 8397218))<|Å range_add<|Å bG<|Å ſ ?_
  conv=>rhs;rw[<-c7 (ord E),(@dQ E),ſ,ſ]
  congr 1
  .refine ae λt h=>?_;have h:=gh.1 h;unfold ř nz;rw[bR h,ť h];rfl
  .refine ae λt h=>?_;simp only[zo];unfold ř nz;rw[Nat.add_mod_left,bR<|gh.1 h,È<|by exact(A2 67609)]
 have p1:((ord E).map λi=>E.getD i 0).Perm E:=by
  have:=(dn (E:=E)).map λi=>E.getD i 0;rwa [c7] at this
 have p:((ord E).map λi=>E.getD i 0+48).Perm (E.map (·+48)):=by
  have:=p1.map (·+48);rw[ſ] at this;exact this
 rw[e];exact p1.append p
def Il(H:eN m E)(h:t<t')(j:t'<2*m):ř E t<ř E t':=by
 have o:0<m:=((A2 133431402518) j)
 unfold ř nz;refine Å H.len ?_;have g:t'%m<m:=ϊ _ o;have q:=oB H (i:=(ord E).getD (t'%m) 0) (by have:=jA (E:=E) (k:=t'%m)<|Å H.len g;rwa [H.len] at this);have m1:(t<m/\t%m=t)\/(m<=t/\t%m=t-m):=by
  by_cases h:t<m
  .exact .inl ⟨h,bR h⟩
  .exact .inr ⟨M4 ‹_›,Å (y9<|by exact M4 ‹_›)<|Å (bR<|by omega) rfl⟩
 have m2:(t'<m/\t'%m=t')\/(m<=t'/\t'%m=t'-m):=by
  by_cases h:t'<m
  .exact .inl ⟨h,bR h⟩
  .exact .inr ⟨M4 ‹_›,Å (y9<|by exact M4 ‹_›)<|Å (bR<|by exact(A2 18730639794198) j) rfl⟩
 rcases m1 with⟨a,f⟩|⟨a,f⟩<;>rcases m2 with⟨c,b⟩|⟨c,b⟩
 .exact Å f<|Å b<|Å (ť a)<|Å (ť c)<|(A2 0xf18f0811016)<|cW H (k:=t) (k':=t') h c
 .exact Å (ť a)<|Å (È<|(A2 18419718) c)<|(A2 0x302718f0813027016)<|oB H (i:=(ord E).getD (t%m) 0) (by have:=jA (E:=E) (k:=t%m)<|Å H.len<|ϊ _ o;rwa [H.len] at this)
 .exact(A7 0x66584381211602061016) h a c
 .exact Å f<|Å b<|Å (È<|(A2 18419718) a)<|Å (È<|(A3 36391291850774) h a)<|(A2 0x30271830270811016)<|cW H (k:=t-m) (k':=t'-m) ((A3 0x209219112060116) h a)<|(A3 76720694022771222) g b
def cQ(H:eN m E):(cv E).length=2*m:=by unfold cv;exact Å (É ..)<|Å (bZ ..)<|Å (H.len ..) rfl
def nj(H:eN m E)(h:t<2*m):(cv E)[t]?=À (ř E t):=by
 unfold cv;exact Å (ô)<|Å (ag<|by exact Å H.len h) rfl
def r8(H:eN m E):((cv E).map λ(x:Á)=>(x:Â)).Pairwise (·<=·):=by
 refine Å (pI<|Ed ..) ?_;intro i j hi a h;simp[cQ H] at hi a;simp;have c:=nj H hi;have b:=nj H a;rw[Ų (by refine Å (cQ H) ?_;assumption),dy] at c b;refine Å c<|Å b ?_;have:=Il H h a;exact M6 ‹_›
def BB(H:eN m E)(c:0<m):sortI ((E++E.map (·+48)).map λ(x:Á)=>(x:Â))=(cv E).map λ(x:Á)=>(x:Â):=by
 exact Gx (le:=(·<=·)) (λa b _ _ f h=>((qU 1121006784566) f h)) (vq _) (r8 H)<|(Bt _).trans<|((zE H c).map _).symm
def Aq(H:eN m E)(h:0<m)(t:Á):ř E t<96/\ř E t%48=E.getD (nz E t) 0:=by
 have:=oB H<|pJ H h t;unfold ř;split<;>(and_intros<;>omega)
def bk(E:Ã Á)(b:Á->Ò)(t l:Á):Ò:=decide<|((ř E t:Â)-((E.getD l 0+(if b l then 48 else 0):Á):Â)).fmod 96<48
def JT(H:eN m E)(b:j<m)(a:k<m)(h:(ord E).getD j 0=(ord E).getD k 0):j=k:=by
 rcases GP j k with c|c|c
 .have:=cW H c a;rw[h] at this;exact(A3 34734102) this
 .exact c
 .have:=cW H c b;rw[h] at this;exact(A3 34734102) this
def mY(H:eN m E)(b:Á->Ò)(a:t<2*m)(h:j<m):bk E b t ((ord E).getD j 0)=(par m j t !=b ((ord E).getD j 0)):=WW H _ a h
def Jt(H:eN m E)(a:l<m):∃j,j<m/\(ord E).getD j 0=l:=by
 obtain⟨j,h,e⟩:=mem_iff_getElem.1<|dn.mem_iff.2<|gh.2<|Å H.len a;rw[dQ,H.len] at h;exact⟨j,h,by refine Å (í)<|Å (Ų<|Å dQ<|Å H.len h)<|Å e ?_;rfl⟩
noncomputable def kO(m t:Á):Á:=if t=0 then 2*m-1 else t-1
def vA(H:eN m E)(b:Á->Ò)(g:m<=4)(c:t<2*m)(f:l<m):bk E b (kO m t) l=(bk E b t l^^(l==nz E t)):=by
 obtain⟨j,a,rfl⟩:=Jt H f;have p:kO m t<2*m:=by unfold kO;split<;>omega
 refine Å (mY H b p a)<|Å (mY H b c a)<|Å (show kO m t=if t=0 then 2*m-1 else t-1 from rfl)<|Å (DC g a c) ?_;have e:((ord E).getD j 0==nz E t)=decide (j=t%m):=by
  rw[bL,ka,ϻ];unfold nz;exact Å H.len<|⟨λh=>JT H a (ϊ _<|OD ‹_›) h,λh=>by rw[h]⟩
 refine Å e ?_;cases par m j t<;>cases b ((ord E).getD j 0)<;>cases decide (j=t%m)<;>rfl
def DH(H:eN m E)(b:Á->Ò)(ps:Ã cN)(f:ps.length=m)(g:t<2*m)(a:t'<2*m):
  dist ps (bk E b t) (bk E b t')=kb ((ord E).map<|ņ ps) t t':=by
 unfold dist cu kb;have l:((ord E).map<|ņ ps).length=m:=Å (É ..)<|Å (dQ ..)<|Å (H.len ..) rfl;refine Å l<|Å f ?_;have p:=(dn (E:=E)).map λl=>if bk E b t l=bk E b t' l then 0 else ņ ps l;rw[H.len] at p;refine Đ p.sum_nat ?_
 conv=>lhs;rw[<-c7 (ord E),dQ,H.len,ſ]
 congr 1;refine ae λk h=>?_;have h:=gh.1 h;simp only[zo];rw[mY H b g h,mY H b a h];have e:((ord E).map<|ņ ps).getD k 0=ņ ps ((ord E).getD k 0):=by
  simp[í,dQ,H.len,h]
 rw[e];unfold par;generalize(decide (k<=t) !=decide (k+m<=t))=p1;generalize(decide (k<=t') !=decide (k+m<=t'))=c;cases p1<;>cases c<;>cases b ((ord E).getD k 0)<;>rfl
end
def Ec(cs:Ã Á):Ò:=(range<|2*cs.length).all λi=>(range<|2*cs.length).all λj=>decide (kb cs i j<=8)&&decide (kb cs i j=kb cs j i)&&(decide (kb cs i j=0)==decide (i=j))
def Ig:[2,3,4].all (λm=>(hO m).all Ec)=true:=by decide
def kR:∀(v:Ã Á),(∀c∈v,c=1\/c=2)->v∈hO v.length:=by
 intro r0
 induction r0 with
 |nil=>exact λ_=>.head _
 |cons c v ih0=>
  intro h;refine di.2 ⟨v,(ih0 λc a=>h c<|.tail _ a),?_⟩;rcases h c (.head _) with rfl|rfl<;>simp
def L7{cs:Ã Á}(o:fS cs.length)(h:∀c∈cs,c=1\/c=2){i j:Á}(hi:i<2*cs.length)(k:j<2*cs.length):kb cs i j<=8/\kb cs i j=kb cs j i/\(kb cs i j=0↔i=j):=by
 have t:=Ig;have t:=ę.1 t;have g:=t cs.length (by simpa[fS] using o);have g:=ę.1 g;have b:=g cs<|kR cs h;unfold Ec at b;have b:=ę.1 b;have f:=b i<|gh.2 hi;have f:=ę.1 f;have a:=f j<|gh.2 k;simp only[è,ϻ,ka] at a;exact⟨a.1.1,a.1.2,by have:=a.2;have this:=decide_eq_decide.1 this;exact this⟩
def Ll(h:fS cs.length)(f:∀c∈cs,c=1\/c=2)(b:base∈gH):BA cs base=true:=by
 have key:∀m,fS m->(hO m).all (λcs=>gH.all<|BA cs)=true:=by
  rintro m (rfl|rfl|rfl)
  .exact Pe
  .exact Qt
  .exact OI
 have t:=key _ h;have t:=ę.1 t;have a:=t cs<|kR cs f;have a:=ę.1 a;exact a base b
def AN(a:Á){b:Á}(h:0<b):ü .Mod (.int a) (.int b)=À (.int ((a%b:Á):Â),0):=by
 exact Å (show ü .Mod (.int (a:Â)) (.int (b:Â))=if(b:Â)≠0 then À (.int<|(a:Â).fmod b,0) else Ä from rfl)<|Å (ť<|by exact(A1 64648449814) h)<|Å (Ę _<|by exact(A1 3571)) rfl
noncomputable def bt:Á:=1000000000000000
def JC{a:Á}(h:a<=bt):Ĕ (a:Â)=true:=kh<|Å (rp ..)<|dU h<|by decide
def Gs{a b:Á}(f:0<b)(h:a<=bt):ü .FloorDiv (.int a) (.int b)=À (.int ((a/b:Á):Â),0):=by
 exact Å (show ü .FloorDiv (.int (a:Â)) (.int (b:Â))=if(b:Â)≠0/\Ĕ (a:Â)=true then À (.int<|(a:Â).fdiv b,0) else Ä from rfl)<|Å (ť ⟨by omega,JC h⟩)<|Å (mu _<|by omega) rfl
def D1{k:Á}(h:xs[k]?=À v)(a:xs.length<=1000000):ō (.ñ xs) (.int (k:Â))=À v:=by
 exact Å (show ō (.ñ xs) (.int (k:Â))=(place xs.length (k:Â)).bind λk=>xs[k]? from rfl)<|Å (nJ (ĵ h) a) h
def DX(a k:Á):ü .RShift (.int a) (.int k)=À (.int ((a/2^k:Á):Â),0)/\ü .BitAnd (.int ((a/2^k:Á):Â)) (.int 1)=À (.int ((a/2^k%2:Á):Â),0):=by
 constructor
 .rw[show ü .RShift (.int (a:Â)) (.int (k:Â))=if 0<=(k:Â) then À (.int<|(a:Â).fdiv<|2^(k:Â).toNat,0) else Ä from rfl,ť<|by exact(A1 3571),Ě,mu _<|pQ<|Int.pow_pos<|by decide];congr 3
 .rw[show ü .BitAnd (.int ((a/2^k:Á):Â)) (.int 1)=À (.int<|ck ((a/2^k:Á):Â) 1,0) from rfl];congr 3;unfold ck;rw[ix (show(0:Â)<=((a/2^k:Á):Â) from Fl _),ix<|show(0:Â)<=1 by decide];show(((a/2^k)&&&1:Á):Â)=_;rw[Nat.and_one_is_mod]
def rA:∀(ds:Ã Â),ϫ (ds.map V.int)=À ds:=by
 intro r0
 induction r0 with
 |nil=>exact rfl
 |cons d ds ih0=>
  have:=ih0;unfold ϫ at this⊢;exact Å mC<|Å gU<|Å this rfl
section
variable{n:Á}{Γ:ĳ}{c e:PE}
def fj.vals(hB:0<=B){items:Ã V}:(∀v∈items,∃ò x m ĕ,TP n Γ t v ò/\EV n ò c x m ĕ/\((Ó x=À true/\∃(z:Â)(b:Á)(gD:ĳ),EV n ĕ e (.int z) b gD/\Sub gD Γ/\0<=z/\z<=B)\/Ó x=À false/\Sub ĕ Γ))->∃a:Ã Â,fj n t c e Γ items (a.map V.int) Γ/\a.length<=items.length/\0<=a.sum/\a.sum<=B*items.length:=by
 induction items with
 |nil=>exact λ_=>⟨[],.nil,aj _,Int.le_refl _,Hr (tY _).symm⟩
 |cons v vs ih=>
  intro H;refine HG (ih λv w=>H v<|.tail _ w) λa h f p o=>?_;refine OV (H v<|.head _) λò x m ĕ j k g3=>?_;have e:B*(((v::vs).length:Á):Â)=B*vs.length+B:=by rw[kc,Int.natCast_succ,tH,Int.mul_one]
  rcases g3 with⟨g3,z,b,gD,g,y,s,q⟩|⟨g3,g⟩
  .refine⟨z::a,.yes j k g3 (g.Ī y) h,by simpa using f,?_,?_⟩
   .rw[oK];exact(qU 27432479756086) p s
   .rw[oK,e];exact(Yd 0x308218331360236) o q
  .refine⟨a,.no j (k.Ī g) g3 h,by simp;exact(A2 60532199430) f,p,?_⟩;rw[e];exact(W8 44062626680630) hB o
def Ck(f:Á->V)(K:Ã Á):∀p:Á,(K.map f).eraseIdx p=(K.eraseIdx p).map f:=by
 induction K with
 |nil=>exact λ_=>rfl
 |cons x K ih=>intro p;cases p with
  |zero=>rfl
  |succ p=>exact Ù (f x::·)<|ih p
def CR.Rd(hi:i<n)(y:Γ.lookup i=Ä)(b:Γ.lookup j=Ä)(J:i≠j)
  (H:∀(l:Á)(K:Ã Á),l<4->K.length+l=N->∃p,p<K.length/\∀v,K[p]?=À v->EV n ((i,(.int l,0))::(j,(.Ñ<|K.map f,1))::Γ) e (f v) 0 ((j,(.Ñ<|(K.map f).eraseIdx p,1))::(i,(.int l,0))::(j,(.Ñ<|K.map f,1))::Γ)):
  ∀(q l:Á)(K:Ã Á),q+l<=4->K.length+l=N->K.Nodup->∃(es:Ã Á)(cL:ĳ),CR n (.one i) e ((j,(.Ñ<|K.map f,1))::Γ) (û l q) (es.map f) cL/\es.length=q/\es.Nodup/\(∀x∈es,x∈K)/\Sub cL Γ:=by
 intro q
 induction q with
 |zero=>exact λl K _ _ _=>⟨[],_,.nil,rfl,by simp,by simp,.skip b .refl⟩
 |succ q ih=>
  intro l K B C t;refine ì (H l K ((A2 0x417114171e08806) B) C) λp s D=>?_;have k:=Ų s;refine UL (ih (l+1) (K.eraseIdx p) ((A2 0x417e180804171e08806) B) (Å length_eraseIdx<|Å (ť s)<|(A4 0xe18e29822316012826) C s)<|t.sublist<|eraseIdx_sublist _ _) λes cL E L g3 A G=>?_;have g:K[p]∉K.eraseIdx p:=by
   intro m;refine å (mem_iff_getElem?.1 m) λa h=>?_;rw[getElem?_eraseIdx] at h;split at h
   .have:=(nV (i:=a) (j:=p) (Vr ‹_› ‹_›) t).1<|h.trans k.symm;omega
   .rename_i w;have:=(nV (i:=a+1) (j:=p) (ĵ h) t).1<|h.trans k.symm;exact((A2 2063774843286) w this).elim
  refine⟨K[p]::es,cL,(Å (aJ ..)<|.cons (ĕ:=(j,(.Ñ<|(K.eraseIdx p).map f,1))::Γ) (.one hi) (.Ī (D _ k)<|Å (show(K.map f).eraseIdx p=(K.eraseIdx p).map f from Ck f K p)<|.keep<|.skip y<|.skip b .refl) E),by simp[L],dg.2 ⟨λI=>g<|A _ I,g3⟩,?_,G⟩
  .intro x hx;rcases ő.1 hx with rfl|hx
   .exact lh _
   .exact(eraseIdx_sublist _ _).subset<|A x hx
end
abbrev QO:PE:=.Õ .Add (.Æ 2)<|.fn xY [VM]
def AH{a:Ã Â}(h:a.length<=1000000):xY [.Ñ (a.map V.int)]=À (.int a.sum,0):=by
 show(if(a.map V.int).length<=1000000 then(ϫ<|a.map V.int).map λa=>(V.int a.sum,0) else Option.none)=_;rw[ť (by rw[É];exact h),rA];rfl
def rM{xs:Ã Â}(hx:xs.length<=63):∃o:Á,s<=o/\o<=s+60000000000000/\EV 62 [(2,(.int s,0)),(1,(.int p,0)),(0,(.Ñ<|xs.map V.int,0))] QO (.int o) 0 [(2,(.int s,0)),(1,(.int p,0)),(0,(.Ñ<|xs.map V.int,0))]:=by
 let Γ:ĳ:=[(2,(.int s,0)),(1,(.int p,0)),(0,(.Ñ<|xs.map V.int,0))]
 have G:(xs.map V.int).length<=63:=Å (É ..) hx;have g:((xs.map V.int).take 60).length<=60:=length_take_le _ _;have q:ü .Pow (.int 10) (.int 12)=À (.int 1000000000000,0):=by
  exact Å (show ü .Pow (.int 10) (.int 12)=if 0<=(12:Â)/\(12:Â)<=100/\(10:Â).natAbs.log2<100 then À (.int<|(10:Â)^(12:Â).toNat,0) else Ä from rfl)<|Å (ť<|by decide) rfl
 have m:∀z:Â,ü .Mod (.int z) (.int 1000000000000)=À (.int<|z.fmod 1000000000000,0):=λz=>by
  exact Å (show ü .Mod (.int z) (.int 1000000000000)=if(1000000000000:Â)≠0 then À (.int<|z.fmod 1000000000000,0) else Ä from rfl)<|Å (ť<|by decide) rfl
 obtain⟨E,y,D,j,C⟩:=fj.vals (n:=62) (Γ:=Γ) (c:=.cmp .Eq (.Õ .Mod (.Æ 3)<|.c<|.int 4)<|.Æ 1) (e:=.Õ .Mod (.Æ 4)<|.Õ .Pow (.c<|.int 10)<|.c<|.int 12) (t:=.two 3 4) (B:=1000000000000) (by decide) (items:=((xs.map V.int).take 60).zipIdx.map λx=>V.ñ [.int x.2,x.1]) λv w=>by
  obtain⟨k,A⟩:=mem_iff_getElem?.1 w;obtain⟨x,hx,rfl⟩:=kj A;obtain⟨z,rfl⟩:∃z,x=V.int z:=by
   obtain⟨z,_,rfl⟩:=dp.1<|su<|Ŕ hx;exact⟨z,rfl⟩
  have a:EV 62 ((4,(.int z,0))::(3,(.int k,0))::Γ) (.cmp .Eq (.Õ .Mod (.Æ 3)<|.c<|.int 4)<|.Æ 1) (.bool<|decide<|((k%4:Á):Â)=(p:Â)) 0 ((4,(.int z,0))::(3,(.int k,0))::Γ):=
   .cmp (.Õ (.Æ rfl) .ï<|AN k (b:=4)<|by decide) (.Æ rfl) (iB _ _)
  refine⟨_,_,_,_,.two (by decide)<|by decide,a,?_⟩;by_cases hq:((k%4:Á):Â)=(p:Â)
  .exact .inl ⟨i9 hq,z.fmod 1000000000000,0,_,EV.Õ (EV.Æ rfl) (EV.Õ EV.ï EV.ï q)<|m z,.skip rfl<|.skip rfl .refl,EC _<|by decide,((Ad 0xe8d4a51000a703e8d4a51000a7046)<|Df z<|show(0:Â)<1000000000000 by decide)⟩
  .exact .inr ⟨dI hq,.skip rfl<|.skip rfl .refl⟩
 have f:(((xs.map V.int).take 60).zipIdx.map λx=>V.ñ [.int x.2,x.1]).length<=60:=Å (É ..)<|Å (zp ..) g;obtain⟨S,h⟩:=et j;refine⟨s+S,by exact(A2 67584),((Sr 0x3691d6afc000c72812801d0563c270060de8d4a51000aa036) C f h),?_⟩;have ev:EV 62 Γ VM (.Ñ<|E.map V.int) 1 Γ:=
  EV.oS (ES.cons (EV.bp (EV.Æ rfl) EV.ï EV.ï<|Kk (k:=60)<|ϴ ‹_› rfl) ES.nil) (iZ<|ϴ ‹_› rfl) rfl y
 exact EV.Õ (EV.Æ rfl) (EV.fn (ES.cons ev ES.nil)<|AH<|(A2 0xf424057003c271061006) D f)<|Å h rfl
def ZY{xs:Ã Â}(hx:xs.length<=63):∃o t a fo:Á,o<=bt/\t<=bt/\a<=bt/\fo<=bt/\
  SV 50 62 [(0,(.Ñ<|xs.map V.int,0))] (Į.take 1) .next [(8,(.int fo,0)),(7,(.int a,0)),(6,(.int t,0)),(5,(.int o,0))]:=by
 refine qJ (rM (p:=0) (s:=31853392) hx) λo _ k g=>?_;refine qJ (rM (p:=1) (s:=138333) hx) λt _ m b=>?_;refine qJ (rM (p:=2) (s:=1440) hx) λa _ q h=>?_;refine qJ (rM (p:=3) (s:=0) hx) λfo _ j f=>?_;refine⟨o,t,a,fo,by unfold bt;exact ϴ ‹_› rfl,by unfold bt;exact ϴ ‹_› rfl,by unfold bt;exact ϴ ‹_› rfl,by unfold bt;exact ϴ ‹_› rfl,?_⟩
 let Γ:ĳ:=[(0,(.Ñ<|xs.map V.int,0))]
 have c:EV 62 Γ (.comp QO (.two 1 2) gE [(.Ñ [(.c<|.int 31853392),(.c<|.int 138333),(.c<|.int 1440),(.c<|.int 0)])] Ä) (.Ñ [.int o,.int t,.int a,.int fo]) 1 Γ:=by
  exact .comp (items:=[.ñ [.int 0,.int 31853392],.ñ [.int 1,.int 138333],.ñ [.int 2,.int 1440],.ñ [.int 3,.int 0]]) (.cons (.Ñ<|.cons .ï<|.cons .ï<|.cons .ï<|.cons .ï .nil) .nil) rfl rfl<|.cons (.two (by decide)<|by decide) (g.Ī<|.skip rfl<|.skip rfl .refl)<|.cons (.two (by decide)<|by decide) (b.Ī<|.skip rfl<|.skip rfl .refl)<|.cons (.two (by decide)<|by decide) (h.Ī<|.skip rfl<|.skip rfl .refl)<|.cons (.two (by decide)<|by decide) (f.Ī<|.skip rfl<|.skip rfl .refl) .nil
 exact .Ī (.cons (S1.qt c (by decide) rfl) .nil)<|.to rfl<|.to rfl<|.to rfl<|.to rfl .ŉ
def vQ(n:Á):û 0 n=(range n).map λ(i:Á)=>V.int i:=by
 unfold û;exact ae λi _=>Å (ž ..) rfl
def xI:[V.str (ϰ "f"),V.str<|ϰ "i",V.str<|ϰ "l",V.str<|ϰ "s",V.str<|ϰ "t",V.str<|ϰ "k"]=Ť.map Ģ:=by
 exact Å (show ϰ "f"=⟨#[102]⟩ by decide)<|Å (show ϰ "i"=⟨#[105]⟩ by decide)<|Å (show ϰ "l"=⟨#[108]⟩ by decide)<|Å (show ϰ "s"=⟨#[115]⟩ by decide)<|Å (show ϰ "t"=⟨#[116]⟩ by decide)<|Å (show ϰ "k"=⟨#[107]⟩ by decide) rfl
def QK{k:Á}(h:k<4):ō (.ñ [a,b,c,d]) (.int k)=À (if k=0 then a else if k=1 then b else if k=2 then c else d):=by
 obtain rfl|rfl|rfl|rfl:k=0\/k=1\/k=2\/k=3:=((A1 0x31702217028e028f028417016) h)
 all_goals rfl
def Ic(s:o<=bt)(c:fS m)(A:Γ.lookup 5=À (.int o,0))(q:Γ.lookup 9=À (.int m,0))(g:Γ.lookup 10=Ä)(RZ:Γ.lookup 12=Ä):
  ∃E,eN m E/\EV 62 ((10,(.Ñ<|(range 48).map λ(i:Á)=>V.int i,1))::Γ) (.comp (.pop 10 MV) (.one 12) ć [(.Æ 9)] Ä) (NV E) 1 Γ:=by
 have h:m=2\/m=3\/m=4:=c;obtain⟨E,cL,G,y,w,t,B⟩:=CR.Rd (n:=62) (Γ:=Γ) (i:=12) (j:=10) (N:=48) (f:=λ(i:Á)=>V.int i) (e:=.pop 10 MV) (by decide) RZ g (by decide) (λl K a b=>by
  let d:Á:=if l=0 then 3 else if l=1 then 144 else if l=2 then 6912 else 331776
  have D:0<d:=by simp only[d];split<;>(try split)<;>(try split)<;>decide
  have H:ō (.ñ [.int 3,.int 144,.int 6912,.int 331776]) (.int l)=À (.int (d:Â)):=by
   refine Å (QK a) ?_;simp only[d];split<;>(try split)<;>(try split)<;>rfl
  have p:(o/d)%(48-l)<K.length:=Å (show K.length=48-l by exact(A2 0x13027902302710826) b)<|ϊ _<|(A1 847147692027926) a;refine⟨(o/d)%(48-l),p,λv k=>?_⟩;have C:((12,(V.int l,0))::(10,(.Ñ<|K.map λ(i:Á)=>V.int i,1))::Γ:ĳ).lookup 5=À (.int o,0):=A;have I:ü .Sub (.int 48) (.int l)=À (.int ((48-l:Á):Â),0):=by
   exact Å (show ü .Sub (.int 48) (.int (l:Â))=À (.int<|48-(l:Â),0) from rfl)<|Å (show(48:Â)-(l:Â)=((48-l:Á):Â) by exact(A1 0x30279d0d302795417016) a) rfl
  exact .pop rfl (.Õ (.Õ (.Æ C) (.sub (.ñ<|.cons .ï<|.cons .ï<|.cons .ï<|.cons .ï .nil) (.Æ rfl) H)<|Gs D s) (.Õ .ï (.Æ rfl) I)<|AN _<|(A1 847147692027926) a) rfl (aF (by exact Å (É ..) p)<|by exact Å (É ..)<|(A2 0xf42405700302710826) b) (by exact Å (ô)<|Å k rfl)<|by decide) m 0 (range 48) ((A1 0x417f080417023170282170286) h) rfl nodup_range
 refine⟨E,⟨y,w,λx hx=>gh.1<|t x hx⟩,?_⟩;refine .Ī (.comp (.cons (.Æ<|by exact q) .nil) (ĩ<|(A1 0xf42405700417023170282170286) h) (by
  refine(?_:([12].all λi=>(((10,(V.Ñ<|(range 48).map λ(i:Á)=>V.int i,1))::Γ:ĳ).lookup i).isNone)=true);have:((10,(V.Ñ<|(range 48).map λ(i:Á)=>V.int i,1))::Γ:ĳ).lookup 12=Ä:=RZ;simp[this]) G) B
def JQ(s:th<=bt)(k:fS m)(A:Γ.lookup 7=À (.int th,0))(q:Γ.lookup 9=À (.int m,0))(b:Γ.lookup 11=Ä)(g:Γ.lookup 17=Ä):
  ∃N:Ã Á,N.length=m/\N.Nodup/\(∀x∈N,x∈Ť)/\EV 62 ((11,(.Ñ<|Ť.map Ģ,1))::Γ) (.comp (.pop 11 Mh) (.one 17) ć [(.Æ 9)] Ä) (.Ñ<|N.map Ģ) 1 Γ:=by
 have h:m=2\/m=3\/m=4:=k;obtain⟨E,cL,G,y,w,t,B⟩:=CR.Rd (n:=62) (Γ:=Γ) (i:=17) (j:=11) (N:=6) (f:=Ģ) (e:=.pop 11 Mh) (by decide) g b (by decide) (λl K a c=>by
  let d:Á:=if l=0 then 1 else if l=1 then 6 else if l=2 then 30 else 120
  have D:0<d:=by simp only[d];split<;>(try split)<;>(try split)<;>decide
  have H:ō (.ñ [.int 1,.int 6,.int 30,.int 120]) (.int l)=À (.int (d:Â)):=by
   refine Å (QK a) ?_;simp only[d];split<;>(try split)<;>(try split)<;>rfl
  have p:(th/d)%(6-l)<K.length:=Å (show K.length=6-l by exact(A2 99493717910554662) c)<|ϊ _<|(A1 0x6179f1417016) a;refine⟨(th/d)%(6-l),p,λv o=>?_⟩;have C:((17,(V.int l,0))::(11,(.Ñ<|K.map Ģ,1))::Γ:ĳ).lookup 7=À (.int th,0):=A;have I:ü .Sub (.int 6) (.int l)=À (.int ((6-l:Á):Â),0):=by
   exact Å (show ü .Sub (.int 6) (.int (l:Â))=À (.int<|6-(l:Â),0) from rfl)<|Å (show(6:Â)-(l:Â)=((6-l:Á):Â) by exact(A1 0x6179d0d61795417016) a) rfl
  exact .pop rfl (.Õ (.Õ (.Æ C) (.sub (.ñ<|.cons .ï<|.cons .ï<|.cons .ï<|.cons .ï .nil) (.Æ rfl) H)<|Gs D s) (.Õ .ï (.Æ rfl) I)<|AN _<|(A1 0x6179f1417016) a) rfl (aF (by exact Å (É ..) p)<|by exact Å (É ..)<|(A2 0xf4240570061710826) c) (by exact Å (ô)<|Å o rfl)<|by decide) m 0 Ť ((A1 0x417f080417023170282170286) h) (by simp[Ť]) (by decide)
 refine⟨E,y,w,t,?_⟩;refine .Ī (.comp (.cons (.Æ<|by exact q) .nil) (ĩ<|(A1 0xf42405700417023170282170286) h) (by
  refine(?_:([17].all λi=>(((11,(V.Ñ<|Ť.map Ģ,1))::Γ:ĳ).lookup i).isNone)=true);have:((11,(V.Ñ<|Ť.map Ģ,1))::Γ:ĳ).lookup 17=Ä:=g;simp[this]) G) B
def uF(hi:i<62)(c:fS m)(o:Γ.lookup 9=À (.int m,0))(g:Γ.lookup i=Ä)(H:∀l,l<m->EV 62 ((i,(.int l,0))::Γ) e (f l) 0 ((i,(.int l,0))::Γ)):
  EV 62 Γ (.comp e (.one i) ć [(.Æ 9)] Ä) (.Ñ<|(range m).map f) 1 Γ:=by
 refine .comp (.cons (.Æ o) .nil) (ĩ<|(A1 0xf42405700417023170282170286) c) (by
  refine(?_:([i].all λi=>(Γ.lookup i).isNone)=true);simp[g]) (.gp hi g (Å (Ś ..)<|Å (É ..)<|Å (bZ ..) rfl) λk v r j b=>?_)
 obtain⟨rfl,a⟩:=ś j;have b:=(ag a)▸(ô ..)▸b;cases b;exact Å (ž ..)<|⟨0,H k a⟩
structure Data where
 (m tw fo hi lo lp:Á)
 E:Ã Á
 b:Á->Ò
 ps:Ã cN
 base:Â
structure ň(d:Data):Prop where
 sz:fS d.m
 tw:d.tw<=bt
 fo:d.fo<=bt
 h1:33<=d.hi
 h2:d.hi<=64
 lo:d.lo<=31
 lp:d.lp<3
 E:eN d.m d.E
 ps:cA d.ps
 len:d.ps.length=d.m
 base:d.base∈gH
noncomputable def cj(d:Data):Ã Á:=(range d.m).map λl=>d.E.getD l 0+(if d.b l then 48 else 0)
noncomputable def Œ(d:Data):Ã Á:=d.ps.map (·.2.2)
abbrev Dd(ps:Ã cN):V:=.Ñ<|ps.map λx=>Ģ x.1
abbrev uh(ps:Ã cN):V:=.Ñ<|ps.map λx=>Ģ x.2.1
def DK(d:Data):ĳ:=[(6,(.int d.tw,0)),(8,(.int d.fo,0)),(9,(.int d.m,0)),(13,(NV d.E,0)),(16,(NV<|cj d,1)),(18,(Dd d.ps,0)),(20,(NV<|Œ d,0)),(26,(uh d.ps,1)),(27,(.int d.base,0)),(28,(.int d.hi,0)),(29,(.int d.lo,0)),(30,(.int d.lp,0))]
def Jj{k:Á}(h:k<6):∃b∈gH,ō (.ñ [.int (-4),.int<|-3,.int<|-2,.int 2,.int 3,.int 4]) (.int k)=À (.int b):=by
 obtain rfl|rfl|rfl|rfl|rfl|rfl:k=0\/k=1\/k=2\/k=3\/k=4\/k=5:=((A1 0x51702417028317028217028e028f028617016) h)
 all_goals exact⟨_,by decide,rfl⟩
def JK{k:Á}(h:k<11):∃f∈c8,ō (.ñ [.int 0,.int 1,.int 2,.int 4,.int 6,.int 7,.int 8,.int 9,.int 10,.int 11,.int 12]) (.int k)=À (.int (f:Á)):=by
 exact ì ((show∀k<11,∃f∈c8,c8[k]?=À f by decide) k h) λf c e=>⟨f,c,(D1 (xs:=c8.map λ(i:Á)=>V.int i) (by exact Å (ô)<|Å e rfl)<|by decide)⟩
def Pl(h:n∈Ť):m_upper [Ģ n]=À (Ģ<|n-32,0):=
 dB (ę.1 (show Ť.all (λn=>mH (m_upper [Ģ n]) ⟨#[n-32]⟩)=true by decide) n h)
def LH(h:n∈Ť)(c:f∈c8):qD [.int ((119711+52*f+n:Á):Â)]=À (Ģ<|119711+52*f+n,0):=
 dB (ę.1 (ę.1 (show Ť.all (λn=>c8.all λf=>mH (qD [.int ((119711+52*f+n:Á):Â)]) ⟨#[119711+52*f+n]⟩)=true by decide) n h) f c)
section
variable{n F:Á}{Γ ò ĕ:ĳ}{a b e:PE}{x y k l:Á}
def EV.qu(c:EV n Γ a (.int x) k ò)(h:EV n ò b (.int y) l ĕ):EV n Γ (.Õ .Add a b) (.int ((x+y:Á):Â)) 0 ĕ:=.Õ c h rfl
def EV.oi(f:EV n Γ a (.int x) k ò)(c:EV n ò b (.int y) l ĕ)(h:0<y):EV n Γ (.Õ .Mod a b) (.int ((x%y:Á):Â)) 0 ĕ:=.Õ f c<|AN x h
def EV.uQ(f:EV n Γ a (.int x) k ò)(c:EV n ò b (.int y) l ĕ)(h:0<y)(hx:x<=bt):EV n Γ (.Õ .FloorDiv a b) (.int ((x/y:Á):Â)) 0 ĕ:=.Õ f c<|Gs h hx
def EV.zl(f:EV n Γ a (.int x) k ò)(c:EV n ò b (.int y) l ĕ)(hx:x<=1000000)(h:y<=1000000):EV n Γ (.Õ .Mult a b) (.int ((x*y:Á):Â)) 0 ĕ:=.Õ f c<|by rw[gu (by exact⟨(A1 958889220035),(A1 0xf4240570d3f424057006) hx⟩) (by exact⟨(A1 958889220035),(A1 0xf4240570d3f424057006) h⟩),<-xn]
def EV.QT(f:EV n Γ a (.int x) k ò)(h:EV n ò b (.int y) l ĕ):EV n Γ (.Õ .BitAnd (.Õ .RShift a b)<|.c<|.int 1) (.int ((x/2^y%2:Á):Â)) 0 ĕ:=.Õ (.Õ f h (DX x y).1) .ï (DX x y).2
def EV.Ϻ(h:q=(x:Â)):EV n Γ (.c<|.int q) (.int x) 0 Γ:=Å h .ï
end
def OE{l:Á}(h:l<4):ü .Pow (.int 11) (.int l)=À (.int ((11^l:Á):Â),0):=by
 rw[show ü .Pow (.int 11) (.int (l:Â))=if 0<=(l:Â)/\(l:Â)<=100/\(11:Â).natAbs.log2<100 then À (.int<|(11:Â)^(l:Â).toNat,0) else Ä from rfl,ť ⟨by exact(A1 3571),((A1 0x64270d3417016) h),by decide⟩,Ě];obtain rfl|rfl|rfl|rfl:l=0\/l=1\/l=2\/l=3:=((A1 0x31702217028e028f028417016) h)
 all_goals rfl
noncomputable def Kb(n c f:Á):Á:=if c=1 then n-32 else 119711+52*f+n
def BR{N:Ã Á}(K:m<=4)(w:N.length=m)(G:∀x∈N,x∈Ť)(E:∀l,l<m->c l=1\/c l=2)(B:∀l,l<m->f l∈c8)
  (g:ES 62 Γ0 [.Æ 18,.Æ 20,.Æ 22] [.Ñ (N.map Ģ),NV<|(range m).map c,NV<|(range m).map f] Γ) (s:Γ.lookup 23=Ä) (o:Γ.lookup 24=Ä) (q:Γ.lookup 25=Ä):
  EV 62 Γ0 Pk
   (.Ñ<|(range m).map λl=>Ģ<|Kb (N.getD l 0) (c l)<|f l) 1 Γ:=by
 have D:DF [.Ñ (N.map Ģ),NV<|(range m).map c,NV<|(range m).map f]=À ((range m).map λl=>V.ñ [Ģ (N.getD l 0),.int<|c l,.int<|f l]):=by
  show(if _/\_ then _ else _)=_;refine Å (ť<|by simp[w]) ?_;have e:((N.map Ģ).zip<|(((range m).map c).map λ(x:Á)=>V.int x).zip<|((range m).map f).map λ(x:Á)=>V.int x).map (λx=>V.ñ [x.1,x.2.1,x.2.2])=(range m).map λl=>V.ñ [Ģ (N.getD l 0),.int<|c l,.int<|f l]:=by
   have C:N.map Ģ=(range m).map λl=>Ģ (N.getD l 0):=by
    conv=>lhs;rw[<-c7 N,ſ,w]
    rfl
   rw[C,ſ,ſ,aaz,aaz,ſ];rfl
  rw[e];exact ni<|by simp;exact ϴ ‹_› rfl
 refine EV.comp g D (by
  refine(?_:([23,24,25].all λi=>(Γ.lookup i).isNone)=true);simp only[List.all_cons,s,o,q,List.all_nil,Option.isNone_none,Bool.and_self]) (CR.each (by simp) λk v r I t=>?_)
 obtain⟨l,A,rfl⟩:=ŧ I;rw[dA A] at t;have t:=(Option.some.inj t).symm;subst t;have h:l<m:=gh.mp<|Ŕ A;have p:N.getD l 0∈Ť:=G _ (by rw[í,Ų<|by exact(A3 1241280545062) w h];exact lh _);have j:EV 62 ((25,(.int<|f l,0))::(24,(.int<|c l,0))::(23,(Ģ<|N.getD l 0,0))::Γ) (.cmp .Eq (.Æ 24)<|.c<|.int 1) (.bool<|decide<|(c l:Â)=1) 0 _:=EV.cmp (EV.Æ rfl) EV.ï<|iB _ _;have H:Sub ((25,(V.int<|f l,0))::(24,(V.int<|c l,0))::(23,(Ģ<|N.getD l 0,0))::Γ) Γ:=.skip q<|.skip o<|.skip s .refl;refine⟨_,0,_,TP.three (by decide) (by decide)<|by decide,?_,H⟩;rcases E l h with e|e
 .refine EV.z8 j (i9<|by exact(A1 3772112934) e) ?_;unfold Kb;rw[ť e];exact EV.fn (ES.cons (EV.Æ rfl) ES.nil)<|Pl p
 .refine EV.zR j (dI<|(A1 0xe0d59217026) e) ?_;unfold Kb;rw[È (by exact(A1 962762731558) e)];have J:f l<=12:=by have:=B l h;simp[c8] at this;omega
  exact EV.fn (ES.cons (EV.qu (EV.qu (EV.Ϻ rfl)<|EV.zl (EV.Ϻ (x:=52) rfl) (EV.Æ rfl) (by decide)<|by exact ϴ ‹_› rfl)<|EV.fn (ES.cons (EV.Æ rfl) ES.nil) rfl) ES.nil)<|LH p<|B l h
def Ee{m z:Á}{Γ Γ0:ĳ}{E:Ã Á}(y:fS m)(b:E.length=m)(hz:z<=bt)(s:Γ.lookup 5=À (.int z,0))(g:Γ.lookup 14=Ä)(a:Γ.lookup 15=Ä)(f:EV 62 Γ0 (.Æ 13) (NV E) 0 Γ):
  EV 62 Γ0 QS (NV<|(range m).map λl=>E.getD l 0+(if(z/15925248/2^l%2==1) then 48 else 0)) 1 Γ:=by
 refine .comp (.cons f .nil) (iZ<|by exact Å (É ..)<|(A2 0xf424057004171231712821712861026) b y) (by
  refine(?_:([14,15].all λi=>(Γ.lookup i).isNone)=true);simp[g,a]) (.each (by simp[b]) λk v r p h=>?_)
 obtain⟨x,hx,rfl⟩:=kj p;obtain⟨e,j,rfl⟩:=ŧ hx;rw[ô,ô,ag<|by exact Đ b<|ĵ j] at h;have h:=(à h).symm;subst h;have o:E.getD k 0=e:=by exact Å (í)<|Å j rfl
 dsimp only;refine Å o ?_;have ev:=EV.qu (n:=62) (EV.Æ (Γ:=(15,(V.int e,0))::(14,(V.int k,0))::Γ) (i:=15) rfl) (EV.zl (EV.Ϻ (x:=48) rfl) (EV.QT (EV.uQ (EV.Æ<|show((15,(V.int e,0))::(14,(V.int k,0))::Γ:ĳ).lookup 5=À (.int z,0) from s) (EV.Ϻ (x:=15925248) rfl) (by decide) hz)<|EV.Æ (i:=14) rfl) (by decide)<|(A3 0xf42405700f217221701820121a8276)<|dm _ 2);have t:e+48*(z/15925248/2^k%2)=e+(if(z/15925248/2^k%2==1) then 48 else 0):=by
  have:z/15925248/2^k%2<2:=ϊ _ (by decide);generalize z/15925248/2^k%2=q at*;obtain rfl|rfl:q=0\/q=1:=((A1 0xe02f028217016) this)
  all_goals simp
 exact⟨_,_,_,TP.two (by decide)<|by decide,(t▸ev),.skip a<|.skip g .refl⟩
def Ni{xs:Ã Â}(hx:xs.length<=63):∃d:Data,ň d/\SV 50 62 [(0,(.Ñ<|xs.map V.int,0))] (Į.take 9) .next (DK d):=by
 obtain⟨o,t,b,fo,W,a,w,B,h0⟩:=ZY hx
 let m:=2+o%3
 have j:fS m:=by have:=ϊ o (show 0<3 by decide);unfold fS;omega
 have Wt:m=2\/m=3\/m=4:=j
 let A:ĳ:=[(9,(.int m,0)),(8,(.int fo,0)),(7,(.int b,0)),(6,(.int t,0)),(5,(.int o,0))]
 let s:V:=.Ñ ((range 48).map λ(i:Á)=>V.int i)
 have O:ź [.int 48]=À (s,1):=by
  exact(Å (vQ ..) rfl:À (V.Ñ<|û 0 48,1)=_)
 have h1:S1 50 62 [(8,(.int fo,0)),(7,(.int b,0)),(6,(.int t,0)),(5,(.int o,0))] (Į.getD 1<|.ret<|.c .none) ((10,(s,1))::(11,(.Ñ<|Ť.map Ģ,1))::A):=by
  have ev:S1 50 62 [(8,(.int fo,0)),(7,(.int b,0)),(6,(.int t,0)),(5,(.int o,0))] (Į.getD 1<|.ret<|.c .none) (eW [9,10,11] [(.int m,0),(s,1),(.Ñ [V.str (ϰ "f"),V.str<|ϰ "i",V.str<|ϰ "l",V.str<|ϰ "s",V.str<|ϰ "t",V.str<|ϰ "k"],1)] [(8,(.int fo,0)),(7,(.int b,0)),(6,(.int t,0)),(5,(.int o,0))]):=S1.par (is:=[9,10,11]) (.cons (.qu (.Ϻ (x:=2) rfl)<|.oi (.Æ (Γ:=[(8,(.int fo,0)),(7,(.int b,0)),(6,(.int t,0)),(5,(.int o,0))]) (i:=5) rfl) (.Ϻ (x:=3) rfl)<|by decide)<|.cons (.fn (.cons (.ï (v:=.int 48)) .nil) O)<|.cons (.Ñ<|.cons .ï<|.cons .ï<|.cons .ï<|.cons .ï<|.cons .ï<|.cons .ï .nil) .nil) (by decide) rfl;rw[xI] at ev;exact ev.Ī<|.to rfl<|.to rfl<|.to rfl<|.to rfl<|.to rfl<|.to rfl<|.to rfl .ŉ
 refine ì (Ic (Γ:=(11,(.Ñ<|Ť.map Ģ,1))::A) W j rfl rfl rfl rfl) λE hE h2=>?_;refine HG (JQ (Γ:=(16,(NV<|(range m).map λl=>E.getD l 0+(if(o/15925248/2^l%2==1) then 48 else 0),1))::(13,(NV E,0))::A) w j rfl rfl rfl rfl) λN K n2 S h4=>?_
 let c:Á->Á:=λl=>1+b/360/2^l%2
 have X:∀l,c l=1\/c l=2:=λl=>by
  have:b/360/2^l%2<2:=ϊ _ (by decide);exact((A3 0x2170e82e0e828f217221701820121a8276) (dm _ 2):1+b/360/2^l%2=1\/1+b/360/2^l%2=2)
 have hf:∀l,∃f∈c8,ō (.ñ [.int 0,.int 1,.int 2,.int 4,.int 6,.int 7,.int 8,.int 9,.int 10,.int 11,.int 12]) (.int ((fo/11^l%11:Á):Â))=À (.int (f:Á)):=λl=>JK (ϊ _<|by decide);refine å (Hn hf) λf D=>?_;have G:=λl=>(D l).1;have M:=λl=>(D l).2
 let H:ĳ:=(16,(NV<|(range m).map λl=>E.getD l 0+(if(o/15925248/2^l%2==1) then 48 else 0),1))::(13,(NV E,0))::A
 let p:ĳ:=(18,(.Ñ<|N.map Ģ,1))::H
 have h5:EV 62 p (.comp (.Õ .Add (.c<|.int 1) Mu) (.one 19) ć [(.Æ 9)] Ä) (NV<|(range m).map c) 1 p:=by
  have:=uF (Γ:=p) (i:=19) (f:=λl=>V.int<|c l) (e:=.Õ .Add (.c<|.int 1) Mu) (by decide) j rfl rfl λl y=>.qu (.Ϻ (x:=1) rfl) (.QT (.uQ (.Æ rfl) (.Ϻ (x:=360) rfl) (by decide) w)<|.Æ rfl);rw[show(range m).map (λl=>V.int<|c l)=((range m).map c).map (λ(x:Á)=>V.int x) by refine Å ſ ?_;rfl] at this;exact this
 let C:ĳ:=(20,(NV<|(List.range m).map c,1))::p
 have h6:EV 62 C (.comp (.sub MS Lz) (.one 21) ć [(.Æ 9)] Option.none) (NV<|(List.range m).map f) 1 C:=by
  have:=uF (Γ:=C) (i:=21) (f:=λl=>V.int<|f l) (e:=.sub MS Lz) (by decide) j rfl rfl λl y=>EV.sub (EV.ñ<|ES.cons EV.ï<|ES.cons EV.ï<|ES.cons EV.ï<|ES.cons EV.ï<|ES.cons EV.ï<|ES.cons EV.ï<|ES.cons EV.ï<|ES.cons EV.ï<|ES.cons EV.ï<|ES.cons EV.ï<|ES.cons EV.ï ES.nil) (EV.oi (EV.uQ (EV.Æ rfl) (EV.Õ EV.ï (EV.Æ rfl)<|OE<|by omega) (xR<|by decide) B) (EV.Ϻ (x:=11) rfl)<|by decide)<|M l;rw[show(List.range m).map (λl=>V.int<|f l)=((List.range m).map f).map (λ(x:Á)=>V.int x) by refine Å ſ ?_;rfl] at this;exact this
 let I:ĳ:=(22,(NV<|(List.range m).map f,0))::(20,(NV<|(List.range m).map c,0))::(18,(.Ñ<|N.map Ģ,0))::H
 refine ì (Jj (k:=t%6)<|ϊ _<|by decide) λY hb eb=>?_
 let ps:Ã cN:=(List.range m).map λl=>(N.getD l 0,Kb (N.getD l 0) (c l)<|f l,c l)
 let d:Data:=⟨m,t,fo,33+t/6%32,t/192%32,t/6144%3,E,λl=>o/15925248/2^l%2==1,ps,Y⟩
 have R:ps.map (λx=>x.1)=N:=by
  simp only[ps,ſ];have:=c7 N;exact(K▸this)
 have P:Dd ps=.Ñ (N.map Ģ):=by
  have e:∀q:Ã cN,q.map (λx=>Ģ x.1)=(q.map λx=>x.1).map Ģ:=λq=>by exact Å ſ rfl
  exact Ù V.Ñ<|(e ps).trans<|Ù (List.map Ģ) R
 have eC:Œ d=(List.range m).map c:=by simp only[Œ,d,ps,ſ];rfl
 have eG:uh ps=.Ñ ((List.range m).map λl=>Ģ<|Kb (N.getD l 0) (c l)<|f l):=by
  refine(?_:V.Ñ (ps.map λx=>Ģ x.2.1)=_);simp only[ps,ſ];rfl
 have J:cA ps:=by
  refine⟨λx hx=>?_,by exact Å R n2⟩;obtain⟨l,y,rfl⟩:=List.mem_map.mp hx;have y:=gh.mp y;refine⟨S _<|by exact Å (í)<|Å (Ų<|by exact(A3 1241280545062) K y)<|lh _,?_⟩;refine(?_:(c l=1/\Kb (N.getD l 0) (c l) (f l)=N.getD l 0-32)\/(c l=2/\∃f'∈c8,Kb (N.getD l 0) (c l) (f l)=119711+52*f'+N.getD l 0));unfold Kb;rcases X l with e|e
  .exact Å (ť e)<|.inl ⟨e,rfl⟩
  .exact Å (È<|by exact(A1 962762731558) e)<|.inr ⟨e,_,G l,rfl⟩
 have g:ň d:=by
  exact⟨j,a,B,((A1 142396756592):33<=33+t/6%32),((A3 0x40270212780f202722027018201202a8276) (dm _ 32):33+t/6%32<=64),((A3 0x1f2700f202722027018201202a8276) (dm _ 32):t/192%32<=31),ϊ _<|by decide,hE,J,by simp[d,ps],hb⟩
 refine⟨d,g,?_⟩;have h8:S1 50 62 ((26,(uh ps,1))::I) (Į.getD 8<|.ret<|.c .none) (DK d):=by
  have e1:(n:Á)->t<=bt->(t/n)<=bt:=λn h=>ú (yf _ _) h;have ev:=S1.par (F:=50) (n:=62) (is:=[27,28,29,30]) (EM.cons (EV.sub (EV.ñ<|ES.cons (EV.un EV.ï (r:=.int<|-4) (op:=.USub) (x:=.int 4) rfl)<|ES.cons (EV.un EV.ï (r:=.int<|-3) (op:=.USub) (x:=.int 3) rfl)<|ES.cons (EV.un EV.ï (r:=.int<|-2) (op:=.USub) (x:=.int 2) rfl)<|ES.cons EV.ï<|ES.cons EV.ï<|ES.cons EV.ï ES.nil) (EV.oi (EV.Æ (Γ:=(26,(uh ps,1))::I) (i:=6) rfl) (EV.Ϻ (x:=6) rfl)<|by decide) eb)
   (EM.cons (EV.qu (EV.Ϻ (x:=33) rfl)<|EV.oi (EV.uQ (EV.Æ (i:=6) rfl) (EV.Ϻ (x:=6) rfl) (by decide) a) (EV.Ϻ (x:=32) rfl)<|by decide)
   (EM.cons (EV.oi (EV.uQ (EV.Æ (i:=6) rfl) (EV.Ϻ (x:=192) rfl) (by decide) a) (EV.Ϻ (x:=32) rfl)<|by decide)
   (EM.cons (EV.oi (EV.uQ (EV.Æ (i:=6) rfl) (EV.Ϻ (x:=6144) rfl) (by decide) a) (EV.Ϻ (x:=3) rfl)<|by decide) EM.nil)))) (by decide) rfl
  refine S1.Ī ev ?_;unfold DK;refine Å eC ?_;refine(?_:Sub _ [(6,(.int t,0)),(8,(.int fo,0)),(9,(.int m,0)),(13,(NV E,0)),(16,(NV<|cj d,1)),(18,(Dd ps,0)),(20,(NV<|(List.range m).map c,0)),(26,(uh ps,1)),(27,(.int Y,0)),(28,(.int ((33+t/6%32:Á):Â),0)),(29,(.int ((t/192%32:Á):Â),0)),(30,(.int ((t/6144%3:Á):Â),0))]);exact Å P<|.to rfl<|.to rfl<|.to rfl<|.to rfl<|.to rfl<|.to rfl<|.to rfl<|.to rfl<|.to rfl<|.to rfl<|.to rfl<|.to rfl .ŉ
 have s2:S1 50 62 ((10,(s,1))::(11,(.Ñ<|Ť.map Ģ,1))::A) (Į.getD 2<|.ret<|.c .none) ((13,(NV E,1))::(11,(.Ñ<|Ť.map Ģ,1))::A):=S1.î h2 (by decide);have h3:=Ee (Γ0:=(13,(NV E,1))::(11,(.Ñ<|Ť.map Ģ,1))::A) (Γ:=(13,(NV E,0))::(11,(.Ñ<|Ť.map Ģ,1))::A) (E:=E) (z:=o) j hE.len W rfl rfl rfl ((EV.dK rfl (by decide)<|by decide).Ī .shadow);have s3:S1 50 62 ((13,(NV E,1))::(11,(.Ñ<|Ť.map Ģ,1))::A) (Į.getD 3<|.ret<|.c .none) ((11,(.Ñ<|Ť.map Ģ,1))::H):=(S1.î h3<|by decide).Ī<|.to rfl<|.to rfl<|.to rfl<|.to rfl<|.to rfl<|.to rfl<|.to rfl<|.to rfl .ŉ;have s4:S1 50 62 ((11,(.Ñ<|Ť.map Ģ,1))::H) (Į.getD 4<|.ret<|.c .none) p:=S1.î h4 (by decide);have s5:S1 50 62 p (Į.getD 5<|.ret<|.c .none) C:=S1.î h5 (by decide);have s6:S1 50 62 C (Į.getD 6<|.ret<|.c .none) ((22,(NV<|(List.range m).map f,1))::C):=S1.î h6 (by decide);have s7:S1 50 62 ((22,(NV<|(List.range m).map f,1))::C) (Į.getD 7<|.ret<|.c .none) ((26,(uh ps,1))::I):=by
  refine Å eG ?_;refine S1.î (BR (Γ:=I) (N:=N) (c:=c) (f:=f) (show m<=4 by omega) K S (λl _=>X l) (λl _=>G l) ?_ rfl rfl rfl) (by decide);have e:ES 62 ((22,(NV<|(List.range m).map f,1))::C) [.Æ 18,.Æ 20,.Æ 22] [.Ñ (N.map Ģ),NV<|(List.range m).map c,NV<|(List.range m).map f] ((22,(NV<|(List.range m).map f,0))::(20,(NV<|(List.range m).map c,0))::(18,(.Ñ<|N.map Ģ,0))::(22,(NV<|(List.range m).map f,1))::C):=
   ES.cons (EV.dK rfl (by decide)<|by decide) (ES.cons (EV.dK rfl (by decide)<|by decide)<|ES.cons (EV.dK rfl (by decide)<|by decide) ES.nil)
  intro σ L;exact ì (e σ L) λτ q1 q2=>⟨τ,q1,q2.sub<|.keep<|.keep<|.keep<|.to rfl<|.to rfl<|.to rfl<|.to rfl<|.to rfl<|.to rfl<|.to rfl .ŉ⟩
 exact SV.append h0<|SV.cons h1<|SV.cons s2<|SV.cons s3<|SV.cons s4<|SV.cons s5<|SV.cons s6<|SV.cons s7<|SV.cons h8 SV.nil
section
variable{n F:Á}{Γ ò ĕ:ĳ}{a b e:PE}{v:V}{k l:Á}
def EV.MP(h:Γ.lookup i=À (v,m))(hi:i<n):EV n Γ (.Æ i) v 0 ((i,(v,0))::Γ):=by
 by_cases c:m=0
 .subst c;exact(EV.Æ h).Ī<|.to h .refl
 .exact .dK h c hi
end
noncomputable def df(m:Á)(β:Á->Ò):Ã Á:=(List.range m).map λl=>if β l then 1 else 0
def FU(m:Á)(β:Á->Ò):(range m).map (λl=>Cg<|β l)=(df m β).map λ(x:Á)=>V.int x:=by
 unfold df;refine Å ſ ?_;refine ae λl _=>?_;simp only[zo,Cg];cases β l<;>rfl
def o7(ps:Ã cN)(β:Á->Ò):Ã LY:=(range ps.length).map λl=>(β l,(Ů ps l).1,(Ů ps l).2.1)
def iy(ps:Ã cN)(f:cN->α):(List.range ps.length).map (λl=>f<|Ů ps l)=ps.map f:=by
 refine fR λi=>?_;rcases Ţ i ps.length with h|h
 .refine Å (ô)<|Å (ag h)<|Å (ô) ?_;unfold Ů;simp[í,h]
 .exact Å (ķ<|by simpa using h)<|Å (ķ<|by simpa using h) rfl
def Jg(H:cA ps)(β:Á->Ò)(p:1<=ps.length)(q:ps.length<=100){code:Á}(c:code<27):
  ϣ [Dd ps,uh ps,NV<|df ps.length β,.int code]=À (SL<|bH ps β,0):=by
 have t:=Jk (ls:=o7 ps β) (code:=code) (by simp[o7];assumption) (by simp[o7];assumption) (λx hx=>by
  obtain⟨l,f,rfl⟩:=dp.1 hx;have ok:=cM H<|gh.1 f;refine⟨ok.1,?_⟩;rcases ok.2 with h|h
  .exact .inl h.2
  .exact .inr h.2) c
 have g:(o7 ps β).map (λx=>Ģ x.2.1)=ps.map λx=>Ģ x.1:=by
  unfold o7;exact Å ſ<|iy ps λx=>Ģ x.1
 have j:(o7 ps β).map (λx=>Ģ x.2.2)=ps.map λx=>Ģ x.2.1:=by
  unfold o7;exact Å ſ<|iy ps λx=>Ģ x.2.1
 have m:(o7 ps β).map (λx=>Cg x.1)=(df ps.length β).map λ(x:Á)=>V.int x:=by
  unfold o7;exact Å ſ<|FU _ _
 have o:(o7 ps β).map qH=bH ps β:=by
  unfold o7;exact Å ſ rfl
 rw[g,j,m,o] at t;exact t
section
variable{d:Data}
def jo(d:Data)(t:Á):Ã Á:=bH d.ps<|bk d.E d.b t
def nU(d:Data)(t:Á):Á:=bw 1 (df d.m<|bk d.E d.b t).reverse 0
def aB(d:Data)(k:Á):Ã V:=(range k).map λt=>SL<|jo d t
def gM(d:Data)(k:Á):Ã V:=(range k).map λt=>V.int<|nU d t
noncomputable def md:Á->Á
 |0=>1
 |_+1=>0
def JE(d:Data)(k:Á):ĳ:=[(33,(.Ñ<|aB d k,1)),(34,(.Ñ<|gM d k,1)),(16,(NV<|cj d,md k)),(26,(uh d.ps,md k)),(6,(.int d.tw,0)),(8,(.int d.fo,0)),(9,(.int d.m,0)),(13,(NV d.E,0)),(18,(Dd d.ps,0)),(20,(NV<|Œ d,0)),(27,(.int d.base,0)),(28,(.int d.hi,0)),(29,(.int d.lo,0)),(30,(.int d.lp,0))]
def xX(d:Data)(k:Á):ĳ:=(32,(NV<|cv d.E,0))::JE d k
def Dn(H:eN m E)(c:0<m)(h:m<=4):tJ [.Ñ ((E.map λ(x:Á)=>V.int x)++(E.map λ(x:Á)=>V.int ((x+48:Á):Â)))]=À (NV<|cv E,1):=by
 have e:(E.map λ(x:Á)=>V.int x)++(E.map λ(x:Á)=>V.int ((x+48:Á):Â))=((E++E.map (·+48)).map λ(x:Á)=>(x:Â)).map V.int:=by
  exact Å ſ<|Å bG<|Å ſ rfl
 refine Å e ?_;refine(?_:(if _<64 then _ else _)=_);rw[ť (by simp[H.len];exact(A1 0x40270081417006) h),rA,ej,BB H c,ſ];rfl
def Tn(g:ň d):S1 50 62 (DK d) (Į.getD 9<|.ret<|.c .none) ((32,(NV<|cv d.E,1))::JE d 0):=by
 have h:d.m=2\/d.m=3\/d.m=4:=g.sz;have f:=g.E.len
 let A:=DK d
 have c:EV 62 A (.comp (.Õ .Add (.Æ 31)<|.c<|.int 48) (.one 31) Ń [(.Æ 13)] Ä) (.Ñ<|d.E.map λ(x:Á)=>V.int ((x+48:Á):Â)) 1 A:=by
  refine .comp (.cons (.Æ rfl) .nil) (ϡ<|Å (É ..)<|(A2 0xf424057001026417123171282171286) h f) rfl (.gp (by decide) rfl (by simp) λk v r o j=>?_);obtain⟨x,hx,rfl⟩:=ŧ o;rw[dA hx] at j;have j:=(à j).symm;subst j;exact⟨_,.qu (.Æ rfl)<|.Ϻ (x:=48) rfl⟩
 have ev:S1 50 62 A (Į.getD 9<|.ret<|.c .none) (eW [32,33,34] [(NV<|cv d.E,1),(.Ñ [],1),(.Ñ [],1)] A):=
  S1.par (is:=[32,33,34]) (.cons (.fn (.cons (.Õ (.Æ rfl) c<|zB<|by simp;exact(A2 0xf42405700801026417123171282171286) h f) .nil)<|Dn g.E ((A1 0xf1417023170282170286) h)<|(A1 0x41700417023170282170286) h)<|.cons (.Ñ .nil)<|.cons (.Ñ .nil) .nil) (by decide) rfl
 exact ev.Ī<|.to rfl<|.to rfl<|.to rfl<|.to rfl<|.to rfl<|.to rfl<|.to rfl<|.to rfl<|.to rfl<|.to rfl<|.to rfl<|.to rfl<|.to rfl<|.to rfl<|.to rfl .ŉ
def Mi(h:w≠[]):Ĥ .Eq (SL w) (.str<|ϰ "")=À false:=by
 refine Å (show ϰ ""=⟨#[]⟩ by decide) ?_;refine(?_:À ((⟨w.toArray⟩:Str)==⟨#[]⟩)=_);congr 1
 induction w with
 |nil=>exact ó rfl h
 |cons x w=>exact Š.2 λh=>by simp at h
def vH(ps:Ã cN)(β:Á->Ò):(bH ps β).length=ps.length:=by unfold bH;exact Å (É ..)<|Å (bZ ..) rfl
def Jr(g:ň d)(p:Γ.lookup 37=À (.int<|ř d.E t,0))(o:Γ.lookup 38=Ä)(j:Γ.lookup 16=À (NV<|cj d,k)):
  EV 62 Γ N4 (NV<|df d.m<|bk d.E d.b t) 1 ((16,(NV<|cj d,0))::Γ):=by
 have c:((16,(NV<|cj d,0))::Γ:ĳ).lookup 38=Ä:=o;refine .comp (.cons (.MP j<|by decide) .nil) (ϡ<|by simp[cj];exact(A1 0xf42405700417023170282170286) g.sz) (by
  refine(?_:([38].all λi=>(((16,(NV<|cj d,0))::Γ:ĳ).lookup i).isNone)=true);simp[c]) ?_
 refine Đ (FU ..) ?_;refine .gp (by decide) c (by simp[cj]) λl v r w f=>?_;obtain⟨x,hx,rfl⟩:=ŧ w;have s:l<d.m:=by simpa[cj] using(ĵ hx)
 rw[ô,ag s] at f;have f:=(à f).symm;subst f;unfold cj at hx;rw[ô,ag s] at hx;have hx:=(à hx).symm;subst hx;have h:∀z:Â,ü .Mod (.int z) (.int 96)=À (.int<|z.fmod 96,0):=λz=>by
  exact Å (show ü .Mod (.int z) (.int 96)=if(96:Â)≠0 then À (.int<|z.fmod 96,0) else Ä from rfl)<|Å (ť<|by decide) rfl
 exact⟨0,.fn (.cons (.cmp (.Õ (.Õ (.Æ p) (.Æ rfl) rfl) .ï<|h _) .ï<|jm _ _) .nil) rfl⟩
def Ij(g:ň d)(o:t<2*d.m):SV 50 62 ((36,(.int<|ř d.E t,0))::(35,(.int t,0))::xX d t)
  VK .next (xX d<|t+1):=by
 have j:d.m=2\/d.m=3\/d.m=4:=g.sz;have p:=g.len
 let w:=SL (jo d t)
 let A:=NV (df d.m<|bk d.E d.b t)
 let B:ĳ:=(36,(.int<|ř d.E t,0))::(35,(.int t,0))::xX d t
 let y:ĳ:=(37,(.int<|ř d.E t,0))::B
 let s:ĳ:=(39,(A,1))::(16,(NV<|cj d,0))::y
 let G:ĳ:=(33,(.Ñ<|aB d t++[w],1))::(39,(A,0))::(26,(uh d.ps,0))::s
 let q:ĳ:=(34,(.Ñ<|gM d t++[.int (nU d t)],1))::G
 have C:S1 50 62 s (Qd) G:=by
   have f:=Jg g.ps (bk d.E d.b t) ((A3 0x2e01226121a016) o p) ((A2 0x6427001026417123171282171286) j p) (show(d.fo/14641+10*t)%27<27 from ϊ _<|by decide);rw[p] at f;refine S1.app rfl (.fn (.cons (.Æ rfl)<|.cons (.MP rfl<|by decide)<|.cons (.dK rfl (by decide)<|by decide)<|.cons (.oi (.qu (.uQ (.Æ rfl) (.Ϻ (x:=14641) rfl) (by decide) g.fo)<|.zl (.Ϻ (x:=10) rfl) (.Æ rfl) (by decide)<|(A2 0xf42405700417123171282171286121a016) o j) (.Ϻ (x:=27) rfl)<|by decide) .nil) f) rfl (by decide) ?_;simp[aB];exact(A2 0xf42405700417123171282171286121a016) o j
 have I:S1 50 62 G (.app 34<|.fn ğ [(.Æ 39),(.c<|.int 1)]) q:=by
   have f:=my (n:=1) (ds:=df d.m<|bk d.E d.b t) (by decide) (by simp[df];exact(A1 0x1003700417023170282170286) j) (by simp[df];exact(A1 0x1f404700417023170282170286) j) (λx hx=>by
    obtain⟨l,_,rfl⟩:=dp.1 hx;cases bk d.E d.b t l<;>decide)
   refine S1.app rfl (.fn (.cons (.Æ rfl)<|.cons (.Ϻ (x:=1) rfl) .nil) f) rfl (by decide) ?_;simp[gM];exact(A2 0xf42405700417123171282171286121a016) o j
 have L:S1 50 62 q (Qv) q:=by
   have O:jo d t≠[]:=by
    intro h;have:=vH d.ps<|bk d.E d.b t;rw[show bH d.ps (bk d.E d.b t)=[] from h] at this;simp at this;exact((A3 0x2f291226121a016) o p this).elim
   refine S1.skip (.mR (.cmp (.Æ rfl) (.Æ rfl)<|HE rfl<|bb _) rfl<|.cmp (.ä rfl (.un .ï (r:=.int<|-1) rfl) rfl<|kz (k:=t) ?_ (by simp[aB,w]) ?_) .ï<|Mi O) rfl
   .simp[aB];exact(A1 965697445573)
   .simp[aB];exact(A2 0xf423f5700417123171282171286121a016) o j
 refine .Ī (.cons (S1.î (.fn (.cons (.Æ rfl)<|.cons (.Æ rfl)<|.cons (.Æ rfl)<|.cons (.Æ rfl) .nil)<|JF (Aq g.E ((A2 133431402518) o) t).1 g.h1 g.h2 g.lo g.lp)<|by decide)<|.cons (S1.î (Jr g rfl rfl rfl)<|by decide)<|.cons C<|.cons I<|.cons L .nil) ?_;have K:aB d (t+1)=aB d t++[w]:=by unfold aB;exact Å sj<|Å bG rfl
 have H:gM d (t+1)=gM d t++[.int (nU d t)]:=by unfold gM;exact Å sj<|Å bG rfl
 unfold xX JE;exact Å K<|Å H<|.to rfl<|.to rfl<|.to rfl<|.to rfl<|.to rfl<|.to rfl<|.to rfl<|.to rfl<|.to rfl<|.to rfl<|.to rfl<|.to rfl<|.to rfl<|.to rfl<|.to rfl .ŉ
def PD(g:ň d):S1 50 62 ((32,(NV<|cv d.E,1))::JE d 0) (Į.getD 10<|.ret<|.c .none) (xX d<|2*d.m):=by
 have f:=cQ g.E
 let items:Ã V:=((cv d.E).map λ(x:Á)=>V.int x).zipIdx.map λx=>.ñ [.int x.2,x.1]
 have fr:=FR.idx (F:=50) (n:=62) (t:=.two 35 36) (p:=VK) (items:=items) (λk=>xX d k) 0 λk v q=>by
  obtain⟨x,hx,rfl⟩:=kj q;obtain⟨s,h,rfl⟩:=ŧ hx;have o:k<2*d.m:=Đ f<|ĵ h;rw[nj g.E o] at h;have h:=(à h).symm;subst h;exact Å (ů ..)<|⟨_,.two (by decide)<|by decide,Ij g o⟩
 rw[(show items.length=2*d.m by simp[items,f]),ů] at fr;exact S1.Ū (.cons ((EV.dK rfl (by decide)<|by decide).Ī .shadow) .nil) (iZ<|Å (É ..)<|(A2 0xf42405700121a026417123171282171286) g.sz f) fr
end
section
variable{d:Data}
abbrev qw(d:Data):Ã Á:=(range<|2*d.m).map<|nz d.E
def qI(d:Data):ĳ:=[(33,(.Ñ<|aB d<|2*d.m,1)),(34,(.Ñ<|gM d<|2*d.m,1)),(32,(NV<|cv d.E,0)),(6,(.int d.tw,0)),(9,(.int d.m,0)),(13,(NV d.E,0)),(20,(NV<|Œ d,0)),(27,(.int d.base,0))]
def Ik:Sub (xX d<|2*d.m) (qI d):=.to rfl<|.to rfl<|.to rfl<|.to rfl<|.to rfl<|.to rfl<|.to rfl<|.to rfl .ŉ
def Jf{E:Ã Á}(c:E.Nodup)(b:l<E.length):(E.map λ(x:Á)=>(x:Â)).findIdx? (λa=>a==((E.getD l 0:Á):Â))=À l:=by
 rw[(show E.getD l 0=E[l] by simp[í,b]),Vm];refine⟨by simpa using b,by simp,λj f=>?_⟩;simp[Š];intro h;exact((A2 19464470) f<|(nV (i:=j) (j:=l) (by omega) c).1<|by rw[Ų (by omega),Ų b,(show E[j]=E[l] by exact(A2 4330425686) h)]).elim
def DU{E:Ã Á}{m:Á}(H:eN m E)(a:l<m)(b:m<=4):m6 [NV E,.int (E.getD l 0:Á)]=À (.int l,0):=by
 have h:=H.len;refine(?_:(if _<=1000000 then _ else _)=_);rw[ť (by rw[É];exact(A2 0xf424057001026417106) b h),ints_map,lR,Jf H.nd<|by exact(A3 2203622707222) a h];rfl
def Us(g:ň d):S1 50 62 (qI d) (Į.getD 11<|.ret<|.c .none) ((41,(NV<|qw d,1))::qI d):=by
 have a:d.m=2\/d.m=3\/d.m=4:=g.sz;refine S1.î (.comp (.cons (.Æ rfl) .nil) (ϡ<|Å (É ..)<|Å (cQ g.E ..)<|(A1 0xf424057021a0417023170282170286) a) rfl<|.gp (by decide) rfl (by simp[cQ g.E]) λt v r k b=>?_) (by decide);obtain⟨s,h,rfl⟩:=ŧ k;have f:t<2*d.m:=Đ (cQ g.E)<|ĵ h;have h:=(nj g.E f)▸h;have h:=(à h).symm;subst h;have b:=(ag f)▸(ô ..)▸(ô ..)▸b;have b:=(à b).symm;subst b;exact⟨0,.fn (.cons (.Æ rfl)<|.cons (.oi (.Æ rfl) (.Ϻ (x:=48) rfl)<|by decide) .nil)<|((Aq g.E ((A2 133431402518) f) t).2).symm▸(DU g.E (pJ g.E ((A2 133431402518) f) t)<|(A1 0x41700417023170282170286) a)⟩
def EE:∀{m:Á},fS m->∀{l:Á},l<m->∀(β γ:Á->Ò),(∀i,i<m->γ i=(β i^^(i==l)))->((bw 1 (df m β).reverse 0:Â)-bw 1 (df m γ).reverse 0).natAbs=2^l:=by
 intro m j l g β γ h;rcases j with rfl|rfl|rfl
 .have f:(df 2 γ).reverse=[if β 1^^(1==l) then 1 else 0,if β 0^^(0==l) then 1 else 0]:=by
   exact Đ (h 0<|by decide)<|Đ (h 1<|by decide) rfl
  exact Å f<|(show∀l<2,∀a b:Ò,((bw 1 [if b then 1 else 0,if a then 1 else 0] 0:Â)-bw 1 [if b^^(1==l) then 1 else 0,if a^^(0==l) then 1 else 0] 0).natAbs=2^l by decide) l g (β 0)<|β 1
 .have f:(df 3 γ).reverse=[if β 2^^(2==l) then 1 else 0,if β 1^^(1==l) then 1 else 0,if β 0^^(0==l) then 1 else 0]:=by
   exact Đ (h 0<|by decide)<|Đ (h 1<|by decide)<|Đ (h 2<|by decide) rfl
  exact Å f<|(show∀l<3,∀a b c:Ò,((bw 1 [if c then 1 else 0,if b then 1 else 0,if a then 1 else 0] 0:Â)-bw 1 [if c^^(2==l) then 1 else 0,if b^^(1==l) then 1 else 0,if a^^(0==l) then 1 else 0] 0).natAbs=2^l by decide) l g (β 0) (β 1)<|β 2
 .have f:(df 4 γ).reverse=[if β 3^^(3==l) then 1 else 0,if β 2^^(2==l) then 1 else 0,if β 1^^(1==l) then 1 else 0,if β 0^^(0==l) then 1 else 0]:=by
   exact Đ (h 0<|by decide)<|Đ (h 1<|by decide)<|Đ (h 2<|by decide)<|Đ (h 3<|by decide) rfl
  exact Å f<|(show∀l<4,∀a b c b3:Ò,((bw 1 [if b3 then 1 else 0,if c then 1 else 0,if b then 1 else 0,if a then 1 else 0] 0:Â)-bw 1 [if b3^^(3==l) then 1 else 0,if c^^(2==l) then 1 else 0,if b^^(1==l) then 1 else 0,if a^^(0==l) then 1 else 0] 0).natAbs=2^l by decide) l g (β 0) (β 1) (β 2)<|β 3
def Gj(l:Á):V:=NV<|replicate l 0++[1]
def GG(c:l<4):ĝ [.int ((2^l:Á):Â),.int 1]=À (Gj l,0):=by
 have h:=rb (a:=2^l) (b:=1) (by decide) (fA (by decide)<|(A1 0xfa2701417016) c) (Nat.one_lt_two_pow<|by decide);have e:dN (bN 1) ((bN (2^l)+bN 1-1)/bN 1) (2^l)=replicate l 0++[1]:=by
  obtain rfl|rfl|rfl|rfl:l=0\/l=1\/l=2\/l=3:=((A1 0x31702217028e028f028417016) c)
  all_goals decide
 rw[e] at h;exact h
def Ag(h:t<2*d.m):(gM d<|2*d.m)[t]?=À (.int<|nU d t):=by
 unfold gM;exact Å (ô)<|Å (ag h) rfl
def vy(h:t<2*d.m):(aB d<|2*d.m)[t]?=À (SL<|jo d t):=by
 unfold aB;exact Å (ô)<|Å (ag h) rfl
def z9(hx:xs.length=2*m)(a:m<=4)(b:t<2*m)(h:xs[kO m t]?=À v):ō (.Ñ xs) (.int<|(t:Â)-1)=À v:=by
 unfold kO at h;by_cases e:t=0
 .subst e;exact kz (k:=2*m-1) (by exact(A2 0xde121a9d9efd95121af16121a026) hx b) (by simpa using h)<|(A2 0xf42405700417106121a026) hx a
 .rw[È e] at h;exact Å (show(t:Â)-1=((t-1:Á):Â) by exact(A1 0xe09de0d95f0296) e)<|Ϛ h<|(A2 0xf42405700417106121a026) hx a
def Bh(h:t<2*m):kO m t<2*m:=by unfold kO;split<;>omega
abbrev nS(d:Data):V:=.Ñ<|(range<|2*d.m).map λt=>Gj<|nz d.E t
def VE(g:ň d):S1 50 62 ((41,(NV<|qw d,1))::qI d) (Į.getD 12<|.ret<|.c .none) ((43,(nS d,1))::(41,(NV<|qw d,1))::qI d):=by
 have h:d.m=2\/d.m=3\/d.m=4:=g.sz;refine S1.î (.comp (.cons (.zl (.Ϻ (x:=2) rfl) (.Æ (v:=.int d.m) rfl) (by decide)<|(A1 0xf42405700417023170282170286) h) .nil) (ĩ<|(A1 0xf424057021a0417023170282170286) h) rfl<|.gp (by decide) rfl (by refine Å (Ś ..) ?_;simp) λt v r o f=>?_) (by decide);obtain⟨rfl,a⟩:=ś o;rw[ô,ag a] at f;have f:=(à f).symm;subst f;refine Å (ž ..) ?_;have j:=pJ g.E ((A2 133431402518) a) t;have ln:(gM d<|2*d.m).length=2*d.m:=by simp[gM]
 have k:IY [.int ((nU d t:Â)-(nU d (kO d.m t):Â))]=À (.int ((2^nz d.E t:Á):Â),0):=by
  refine Å (show IY [.int ((nU d t:Â)-(nU d (kO d.m t):Â))]=À (.int (((nU d t:Â)-(nU d (kO d.m t):Â)).natAbs:Â),0) from rfl) ?_;unfold nU;exact Å (EE g.sz j (bk d.E d.b t) (bk d.E d.b<|kO d.m t) λi hi=>vA g.E d.b ((A1 0x41700417023170282170286) h) a hi) rfl
 exact⟨0,.fn (.cons (.fn (.cons (.Õ (.ä rfl (.Æ rfl) rfl<|Ϛ (Ag a)<|(A2 0xf42405700121a026417123171282171286) h ln) (.ä rfl (.Õ (.Æ rfl) .ï rfl) rfl<|z9 ln ((A1 0x41700417023170282170286) h) a<|Ag<|Bh a) rfl) .nil) k)<|.cons .ï .nil)<|GG<|(A2 0x417110116417023170282170286) h j⟩
def Ln(n:Á)(ds:Ã Á):jq (n+1) (NV ds) (NV ds)=À true:=bK λx hx=>by
 obtain⟨y,_,rfl⟩:=dp.mp hx;exact bb _
def VP(g:ň d):S1 50 62 ((43,(nS d,1))::(41,(NV<|qw d,1))::qI d) (Į.getD 13<|.ret<|.c .none) ((41,(NV<|qw d,0))::qI d):=by
 have h:d.m=2\/d.m=3\/d.m=4:=g.sz;have c:EV 62 ((43,(nS d,0))::(41,(NV<|qw d,1))::qI d) Pp (nS d) 1 ((41,(NV<|qw d,0))::(43,(nS d,0))::(41,(NV<|qw d,1))::qI d):=by
  refine .comp (.cons (.dK rfl (by decide)<|by decide) .nil) (ϡ<|by simp;exact(A1 0xf424057021a0417023170282170286) h) rfl (.gp (by decide) rfl (by simp) λt v r p j=>?_);obtain⟨l,b,rfl⟩:=ŧ p;have o:t<2*d.m:=by have:=ĵ b;simpa using this
  rw[ô,ag o] at b j;have b:=(à b).symm;subst b;have j:=(à j).symm;subst j;have f:=pJ g.E ((A2 133431402518) o) t;have e:(replicate (nz d.E t) [V.int 0]).flatten++[V.int 1]=(replicate (nz d.E t) 0++[1]).map λ(x:Á)=>V.int x:=by
   have:∀k,(replicate k [V.int 0]).flatten=(replicate k 0).map λ(x:Á)=>V.int x:=by
    intro k
    induction k with
    |zero=>rfl
    |succ k ih=>exact Å hU<|Å gZ<|Å ih rfl
   exact Å (this ..)<|Å (bG ..) rfl
  have a:ü .Add (.Ñ (replicate (nz d.E t) [V.int 0]).flatten) (.Ñ [V.int 1])=À (Gj<|nz d.E t,1):=by
   exact Å (zB<|by simp;exact(A2 0xf423f57100116417023170282170286) h f)<|Å e rfl
  exact⟨1,.Õ (.Õ (.Ñ<|.cons .ï .nil) (.Æ rfl)<|wk ((A2 0x3e837100116417023170282170286) h f)<|by decide) (.Ñ<|.cons .ï .nil) a⟩
 refine S1.Ī (S1.skip (.cmp ((EV.dK rfl (by decide)<|by decide).Ī .shadow) c<|HE rfl<|bK λx hx=>?_) rfl)<|.keep<|.skip rfl<|.skip rfl .refl
 .obtain⟨t,_,rfl⟩:=dp.1 hx;exact Ln 3 _
end
def Ts(h:a.length+b.length<=1000000):ü .Add (SL a) (SL b)=À (SL<|a++b,0):=by
 have e:((⟨a.toArray⟩:Str)++(⟨b.toArray⟩:Str))=⟨(a++b).toArray⟩:=by
  exact(Å (append_toArray ..) rfl:(⟨a.toArray++b.toArray⟩:Str)=_)
 exact(Å e (Å (ť<|Å (dc ..)<|Å (dc ..) h) rfl):(if(⟨a.toArray⟩:Str).length+(⟨b.toArray⟩:Str).length<=1000000 then À (V.str<|(⟨a.toArray⟩:Str)++(⟨b.toArray⟩:Str),0) else Ä)=_)
section
variable{d:Data}
def more(d:Data)(t:Á):Á:=if 0<nz d.E t then ņ d.ps (nz d.E t) else 0
def H7(h:l<d.ps.length):((Œ d).map λ(x:Á)=>V.int x)[l]?=À (.int<|ņ d.ps l):=by
 unfold Œ ņ Ů;refine Å (ô)<|Å (ô)<|Å (Ų h) ?_;simp[í,h]
abbrev wU(d:Data):ĳ:=(41,(NV<|qw d,0))::qI d
def Lx(h:t<2*d.m):((qw d).map λ(x:Á)=>V.int x)[t]?=À (.int<|nz d.E t):=by
 exact Å (ô)<|Å (ô)<|Å (ag h) rfl
def MF(g:ň d)(q:t<d.m):SV 50 62 ((35,(.int t,0))::wU d)
  [SF,R3] .next (wU d):=by
 have f:d.m=2\/d.m=3\/d.m=4:=g.sz;have p:=g.len;have o:t<2*d.m:=((A2 77745688598) q)
 have A:=pJ g.E (OD ‹_›) t;have ln:(aB d<|2*d.m).length=2*d.m:=by simp[aB]
 let k:ĳ:=(35,(.int t,0))::wU d
 let w:=jo d (kO d.m t)
 have wl:w.length=d.m:=by simp only[w,jo,vH];exact p
 have I:EV 62 k Px (.int<|more d t) 0 k:=by
   have C:EV 62 k (.ä 41<|.Æ 35) (.int<|nz d.E t) 0 k:=.ä rfl (.Æ rfl) rfl (Ϛ (Lx o)<|by simp;exact(A1 0xf424057021a0417023170282170286) f);have D:=EV.cmp C (.ï (v:=.int 0))<|vG _ _;unfold more;by_cases h:0<nz d.E t
   .exact Å (ť h)<|.z8 D (i9<|(A1 234098454) h)<|.ä rfl C rfl<|Ϛ (H7<|(A3 1241280545062) p A)<|by simp[Œ];exact(A2 0xf424057001026417123171282171286) f p
   .exact Å (È h)<|.zR D (dI<|(A1 59937714582) h)<|.Ϻ rfl
 let G:ĳ:=(46,(.int<|more d t,0))::(45,(SL w,0))::k
 have O:S1 50 62 k (SF) G:=
   S1.par (vs:=[(SL w,0),(.int<|more d t,0)]) (.cons (.ä rfl (.Õ (.Æ rfl) .ï rfl) rfl<|z9 ln ((A1 0x41700417023170282170286) f) o<|vy<|Bh o)<|.cons I .nil) (by decide) rfl
 have s:=Ja (β:=bk d.E d.b t) (γ:=bk d.E d.b<|kO d.m t) g.ps (Å p g.sz) (l:=nz d.E t) ((A3 1241280545062) p A) λi hi=>vA g.E d.b ((A1 0x41700417023170282170286) f) o<|(A3 1241280548902) p hi;rw[p] at s;have K:V.str (ϰ "")=SL []:=by
   have:ϰ ""=⟨#[]⟩:=by decide
   exact Å this rfl
 let H:V:=.int ((2+more d t:Á):Â)
 let B:V:=.int ((min (2*d.m) (4+more d t):Á):Â)
 have dr:EV 62 G (.bp (.Æ 45) (.c<|.int 1)<|.c .none) (SL<|w.drop 1) 0 G:=.bp (.Æ rfl) .ï .ï (rU rfl rfl (iF w (a:=1)<|(A3 3161400414230) q wl)<|by simp;exact(A2 0xf424157001026417123171282171286) f wl);have el:∀(j:Ã Á)(r:V),j.length<=10->Í [SL (jo d t),SL<|w.drop 1++j,.int 8]=À (r,0)->EV 62 ((47,(SL j,0))::G) PN r 0 ((47,(SL j,0))::G):=by
   intro j r y J;exact .fn (.cons (.ä rfl (.Æ rfl) rfl<|Ϛ (vy o)<|(A2 0xf42405700121a026417123171282171286) f ln)<|.cons (.Õ (.bp (.Æ rfl) .ï .ï<|rU rfl rfl (iF w (a:=1)<|(A3 3161400414230) q wl)<|by simp;exact(A2 0xf424157001026417123171282171286) f wl) (.Æ rfl)<|Ts<|by simp;exact(A3 0xf4240570e1980a170062126417223172282172286) f wl y)<|.cons .ï .nil) J
 have c:EV 62 G Lc (.Ñ [H,B]) 1 G:=by
   unfold Lc;exact Å K<|.comp (items:=[SL [],SL<|w.take 1]) (.cons (.ñ<|.cons .ï<|.cons (.bp (.Æ rfl) .ï .ï<|rU rfl rfl (aai w (b:=1)<|(A3 3161400414230) q wl)<|by simp;exact(A2 0xf42405700102e117e021e0786)<|Aj _ _) .nil) .nil) rfl rfl<|.p1 (by decide) rfl ⟨_,el _ _ (by simp)<|Å (pH ..) s.1⟩<|.p1 (by decide) rfl ⟨_,el _ _ (by simp;exact(A2 0xa1700102e117e021e0786)<|Aj _ _) s.2⟩ .nil
 have L:bz [.int ((2*d.m:Á):Â),.int ((4+more d t:Á):Â)]=À (B,0):=by
   refine Å (show bz [.int ((2*d.m:Á):Â),.int ((4+more d t:Á):Â)]=À (.int<|if((4+more d t:Á):Â)<((2*d.m:Á):Â) then((4+more d t:Á):Â) else((2*d.m:Á):Â),0) from rfl) ?_;have:(if((4+more d t:Á):Â)<((2*d.m:Á):Â) then((4+more d t:Á):Â) else((2*d.m:Á):Â))=((min (2*d.m) (4+more d t):Á):Â):=by split<;>omega
   exact Å this rfl
 have M:S1 50 62 G (R3) G:=by
   refine S1.skip (.cmp c (.Ñ<|.cons (.qu (.Ϻ (x:=2) rfl)<|.Æ rfl)<|.cons (.fn (.cons (.zl (.Ϻ (x:=2) rfl) (.Æ rfl) (by decide)<|(A1 0xf42405700417023170282170286) f)<|.cons (.qu (.Ϻ (x:=4) rfl)<|.Æ rfl) .nil) L) .nil)<|HE rfl<|bK λx hx=>?_) rfl;rcases ő.1 hx with rfl|hx
   .exact bb _
   .rcases ő.1 hx with rfl|hx
    .exact bb _
    .exact ϭ hx
 exact .Ī (.cons O<|.cons M .nil)<|.skip rfl<|.skip rfl<|.skip rfl .refl
def Vb(g:ň d):S1 50 62 (wU d) (Į.getD 14<|.ret<|.c .none) (wU d):=by
 have fr:=FR.idx (F:=50) (n:=62) (t:=.one 35) (p:=[SF,R3]) (items:=û 0 d.m) (λ_=>wU d) 0 λk v a=>by
   obtain⟨rfl,b⟩:=ś a;exact Å (ž ..)<|⟨_,.one<|by decide,MF g b⟩
 exact S1.Ū (.cons (.Æ rfl) .nil) (ĩ<|(A1 0xf42405700417023170282170286) g.sz) fr
end
def AD{l:Ã Á}(h:∀x∈l,x<=2):l.sum<=2*l.length:=by
 induction l with
 |nil=>decide
 |cons x l ih=>
  have:=ih λy a=>h y<|.tail _ a;have:=h x<|.head _;simp;omega
def GL(cs:Ã Á)(base:Â):Ò:=(range<|(fF cs base).length+1).all λk=>decide ((Ġ<|(fF cs base).take k).natAbs<2^200)&&decide ((Ġ<|(fF cs base).drop k).natAbs<2^200)&&(fF cs base).all λf=>decide (f≠0)&&decide (f.natAbs<2^200)
def I6:[2,3,4].all (λm=>(hO m).all λcs=>gH.all λb=>GL cs b)=true:=by decide
def L9(q:fS cs.length)(m:∀c∈cs,c=1\/c=2)(o:base∈gH):(∀k,k<=(fF cs base).length->(Ġ<|(fF cs base).take k).natAbs<2^200/\(Ġ<|(fF cs base).drop k).natAbs<2^200)/\∀f∈fF cs base,f≠0/\f.natAbs<2^200:=by
 have t:=I6;rw[ę] at t;have b:=t cs.length (by simpa[fS] using q);rw[ę] at b;have j:=b cs<|kR cs m;rw[ę] at j;have a:=j base o;unfold GL at a;rw[ę] at a;have g:∀k,k<=(fF cs base).length->(decide ((Ġ<|(fF cs base).take k).natAbs<2^200)&&decide ((Ġ<|(fF cs base).drop k).natAbs<2^200)&&(fF cs base).all λf=>decide (f≠0)&&decide (f.natAbs<2^200))=true:=λk h=>a k<|gh.2<|YY ‹_›;refine⟨λk h=>?_,λf p=>?_⟩
 .have:=g k h;rw[è,è,ϻ,ϻ] at this;exact this.1
 .have:=g 0<|Ϫ _;rw[è,ę] at this;have:=this.2 f p;rw[è,ϻ,ϻ] at this;exact this
def rt(h:a.Perm b):Ġ a=Ġ b:=by
 unfold Ġ;refine h.foldl_eq' (λx _ y _ z=>?_) 1;exact Å (jK ..)<|Å (jK ..)<|Å (tL x y ..) rfl
def BP(h:a.Perm b)(base:Â):Ġ (fF a base)=Ġ (fF b base):=by
 refine rt ?_;unfold fF;exact Å h.length_eq<|Å h.sum_nat<|(List.Perm.append_left _<|h.map _).append<|h.map _
section
variable{d:Data}
def Hw(d:Data):Ã Á:=(ord d.E).map<|ņ d.ps
def lQ(g:ň d):(Hw d).Perm (Œ d):=by
 have p:=(dn (E:=d.E)).map<|ņ d.ps;have e:(range d.E.length).map (ņ d.ps)=Œ d:=by
  exact Å g.E.len<|Đ g.len<|iy d.ps λx=>x.2.2
 rw[e] at p;exact p
def iS(g:ň d):(Œ d).length=d.m:=by unfold Œ;exact Å (É ..) g.len
def pZ(g:ň d):∀c∈Œ d,c=1\/c=2:=by
 intro c a;unfold Œ at a;obtain⟨x,hx,rfl⟩:=dp.1 a;rcases(g.ps.ok x hx).2 with h|h
 .exact .inl h.1
 .exact .inr h.1
def Be(g:ň d):(Hw d).length=d.m/\∀c∈Hw d,c=1\/c=2:=
 ⟨Å ((lQ g).length_eq)<|Å (iS g) rfl,λc h=>pZ g c<|(lQ g).mem_iff.1 h⟩
def Gy(d:Data)(t a:Á):Á:=dist d.ps (bk d.E d.b t)<|bk d.E d.b a
def Am(g:ň d)(h:t<2*d.m)(a:t'<2*d.m):Gy d t t'=kb (Hw d) t t':=DH g.E d.b d.ps g.len h a
def MK(g:ň d):Sw ((range<|2*d.m).map<|jo d) (Gy d):=by
 have p:=g.len;obtain⟨s,sc⟩:=Be g;refine⟨λr c wr w f a=>?_,λr c=>?_,λr c f a=>?_,λr c=>?_⟩
 .have j:r<2*d.m:=by have:=ĵ f;simpa using this
  have q:c<2*d.m:=by have:=ĵ a;simpa using this
  rw[ô,ag j] at f;rw[ô,ag q] at a;have f:=(à f).symm;have a:=(à a).symm;subst f a;exact Iu g.ps<|Å p g.sz
 .unfold Gy dist cu;congr 1;refine ae λl _=>?_;by_cases h:bk d.E d.b r l=bk d.E d.b c l
  .exact Å (ť h)<|Å (ť h.symm) rfl
  .exact Å (È h)<|Å (È λk=>h k.symm) rfl
 .rw[É,bZ] at f a;exact Å (Am g f a)<|(L7 (Å s g.sz) sc (Å s f)<|Å s a).2.2
 .unfold Gy dist;have h:=AD (l:=cu d.ps (bk d.E d.b r)<|bk d.E d.b c) λx hx=>by
   unfold cu at hx;obtain⟨l,t,rfl⟩:=dp.1 hx;have:=mW g.ps<|gh.1 t;split;exact(A0 137200);exact(A1 0x2170021702e0286) this
  rw[show(cu d.ps (bk d.E d.b r)<|bk d.E d.b c).length=d.ps.length by simp[cu],p] at h;exact(A2 0x81710021a106417023170282170286) g.sz h
def qx(d:Data):Ã (Ã Â):=sM (2*d.m) (kb<|Hw d) d.base
def AM(h:b∈gH):-4<=b/\b<=4:=by
 exact(show∀b∈gH,-4<=b/\b<=4 by decide) b h
def Ng(g:ň d):sM ((range<|2*d.m).map<|jo d).length (Gy d) d.base=qx d:=by
 refine Å (É ..)<|Å (bZ ..) ?_;unfold qx sM;exact ae λi hi=>ae λj h=>Å (Am g (gh.1 hi)<|gh.1 h) rfl
def P2:((range<|2*d.m).map<|jo d).map SL=aB d (2*d.m):=Å ſ rfl
def sP(d:Data):ĳ:=[(6,(.int d.tw,0)),(9,(.int d.m,0)),(20,(NV<|Œ d,0)),(27,(.int d.base,0))]
def Tt(g:ň d):S1 50 62 (wU d) (Į.getD 15<|.ret<|.c .none) ((48,(.Ñ<|TV<|qx d,0))::sP d):=by
 exact(S1.î (.fn (.cons (.MP rfl<|by decide)<|.cons (.Æ rfl) .nil)<|P2▸(Ng g)▸(Fj (MK g) (AM g.base)<|by simp;exact(A1 0x6427021a0417023170282170286) g.sz))<|by decide).Ī<|.keep<|.to rfl<|.to rfl<|.to rfl<|.to rfl .ŉ
def U2(g:ň d):S1 50 62 ((48,(.Ñ<|TV<|qx d,0))::sP d) (Į.getD 16<|.ret<|.c .none) ((48,(.Ñ<|TV<|qx d,0))::sP d):=by
 exact S1.skip (.cmp (.Æ rfl) (.Ñ .nil) (t:=false) (Å (È<|by refine Å (show(TV<|qx d).length=2*d.m by simp[TV,qx,sM]) ?_;simp;exact(A1 0xf021a29417023170282170286) g.sz) rfl:(if(TV<|qx d).length=([]:Ã V).length then qy (jq 4) (TV<|qx d) [] else À false)=_)) rfl
def ϔ(d:Data):Ã Â:=fF (Œ d) d.base
def SR(g:ň d):S1 50 62 ((48,(.Ñ<|TV<|qx d,0))::sP d) (Į.getD 17<|.ret<|.c .none) ((49,(.int<|Ġ<|ϔ d,0))::sP d):=by
 have a:d.m=2\/d.m=3\/d.m=4:=g.sz;refine Ö (λs sc=>?_)<|Be g;have h:=Ll (Å s g.sz) sc g.base;unfold BA at h;rw[è,ϻ,s] at h;exact(S1.î (.fn (.cons (.Æ rfl) .nil)<|(BP (lQ g) d.base)▸h.2▸(Mb (by exact(A1 0x21a2170417023170282170286) a) (by exact(A1 0x6427021a0417023170282170286) a) h.1))<|by decide).Ī<|.keep<|.skip rfl .refl
abbrev ui(d:Data):V:=.Ñ<|(ϔ d).map V.int
def w9(g:ň d):(∀k,k<=(ϔ d).length->(Ġ<|(ϔ d).take k).natAbs<2^200/\(Ġ<|(ϔ d).drop k).natAbs<2^200)/\∀f∈ϔ d,f≠0/\f.natAbs<2^200:=
 L9 (Å (iS g) g.sz) (pZ g) g.base
def zN(g:ň d):(ϔ d).length<=10:=by
 unfold ϔ fF;simp[iS g];rcases g.sz with h|h|h<;>refine Å h ?_<;>decide
def yO(d:Data):ĳ:=[(6,(.int d.tw,0)),(49,(.int<|Ġ<|ϔ d,0)),(51,(ui d,0))]
def Ur(g:ň d):S1 50 62 ((49,(.int<|Ġ<|ϔ d,0))::sP d) (Į.getD 18<|.ret<|.c .none) ((52,(.int 1,0))::(51,(ui d,1))::(49,(.int<|Ġ<|ϔ d,0))::sP d):=by
 have h:d.m=2\/d.m=3\/d.m=4:=g.sz;have cl:=iS g;have cs:=pZ g;have p:=AM g.base
 let G:ĳ:=(49,(.int<|Ġ<|ϔ d,0))::sP d
 have s:(Œ d).sum<=8:=by
  have:=AD (l:=Œ d) λx hx=>by have:=cs x hx;exact(A1 0x2170021702e0286) this
  exact(A3 0x81720021a2061026417123171282171286) h cl this
 have A:xY [NV (Œ d)]=À (.int ((Œ d).sum:Á),0):=by
  have e:(Œ d).map (λ(x:Á)=>V.int x)=((Œ d).map λ(x:Á)=>(x:Â)).map V.int:=by rw[ſ];rfl
  refine(?_:xY [.Ñ ((Œ d).map λ(x:Á)=>V.int x)]=_);refine Å e (Å (AH<|by rw[É];exact(A2 0xf424057001026417123171282171286) h cl) ?_);have:∀l:Ã Á,(l.map λ(x:Á)=>(x:Â)).sum=((l.sum:Á):Â):=by
   intro l
   induction l with
   |nil=>rfl
   |cons x l ih=>rw[mC,oK,ih,oK,yB]
  rw[this]
 have c:EV 62 G Lg (.Ñ<|((Œ d).map λ(c:Á)=>1-d.base^(2*c)).map V.int) 1 G:=by
  refine .comp (.cons (.Æ rfl) .nil) (ϡ<|by rw[É];exact(A2 0xf424057001026417123171282171286) h cl) rfl (.gp (by decide) rfl (by simp) λk v r q o=>?_);obtain⟨x,hx,rfl⟩:=ŧ q;have o:=hx▸(ô ..)▸(ô ..)▸o;have o:=(à o).symm;subst o;have j:=cs x<|Ŕ hx;exact⟨_,.Õ .ï (.Õ (.Æ rfl) (.zl (.Ϻ (x:=2) rfl) (.Æ rfl) (by decide)<|(A1 0xf4240570021702e0286) j)<|ze p<|(A1 0x6427021a021702e0286) j) rfl⟩
 have f:∀(k:Á)(v:V),(replicate k [v]).flatten=replicate k v:=by
  intro k v
  induction k with
  |zero=>rfl
  |succ k ih=>rw[hU,gZ,ih];rfl
 have m2:ü .Sub (.int d.m) (.int 2)=À (.int ((d.m-2:Á):Â),0):=by
  rw[show ü .Sub (.int d.m) (.int 2)=À (.int<|(d.m:Â)-2,0) from rfl,show(d.m:Â)-2=((d.m-2:Á):Â) by exact(A1 0x21709d2170d95417023170282170286) h]
 have t:EV 62 G (.Õ .Mult LB<|.Õ .Sub (.Æ 9)<|.c<|.int 2) (.Ñ<|(rX (d.m-2)<|1-d.base^(2*(Œ d).sum)).map V.int) 1 G:=by
  have:=EV.Õ (n:=62) (Γ:=G) (ò:=G) (ĕ:=G) (op:=.Mult) (a:=LB) (b:=(.Õ .Sub (.Æ 9)<|.c<|.int 2)) (EV.Ñ<|ES.cons (EV.Õ EV.ï (EV.Õ (EV.Æ rfl) (EV.zl (EV.Ϻ (x:=2) rfl) (EV.fn (ES.cons (EV.Æ rfl) ES.nil) A) (by decide)<|by exact ϴ ‹_› rfl)<|ze p<|(A1 0x6427021a0817006) s) rfl) ES.nil) (EV.Õ (EV.Æ rfl) EV.ï m2)<|wk ((A1 0x3e837217090417023170282170286) h)<|Ϙ rfl;rw[f] at this;rw[List.map_replicate];exact this
 have w:EV 62 G (.Õ .Mult Lg<|.c<|.int 2) (.Ñ<|((Œ d).map λ(c:Á)=>1-d.base^(2*c)).map V.int++((Œ d).map λ(c:Á)=>1-d.base^(2*c)).map V.int) 1 G:=by
  refine EV.Õ c (EV.Ϻ (x:=2) rfl) ?_;rw[wk (by decide) (by simp;exact(A2 0x3e837001026417123171282171286) h cl)];simp[rX]
 have y:(rX (d.m-2)<|1-d.base^(2*(Œ d).sum)).map V.int++(((Œ d).map λ(c:Á)=>1-d.base^(2*c)).map V.int++((Œ d).map λ(c:Á)=>1-d.base^(2*c)).map V.int)=(ϔ d).map V.int:=by
  unfold ϔ fF;rw[cl,bG,bG,List.append_assoc]
 refine S1.par (vs:=[(ui d,1),(.int 1,0)]) (EM.cons (EV.Õ t w ?_)<|EM.cons EV.ï EM.nil) (by decide) rfl;rw[zB (by simp;exact(A2 0xf42405700821719801026417123171282171286) h cl),y]
def ro(l:Ã Â)(x:Â):Ġ (l++[x])=Ġ l*x:=by unfold Ġ;exact Å tF rfl
def C1(h:x.natAbs<2^200):Ĕ x=true:=kh<|r9 h<|fA (by decide)<|by decide
def ML{x y:Â}(hx:x.natAbs<2^200)(h:y.natAbs<2^200):ü .Mult (.int x) (.int y)=À (.int<|x*y,0):=by
 exact Å (show ü .Mult (.int x) (.int y)=if Ĕ x&&Ĕ y then À (.int<|x*y,0) else Option.none from rfl)<|Å (C1 hx)<|Å (C1 h) rfl
def Vg(g:ň d):S1 50 62 ((52,(.int 1,0))::(51,(ui d,1))::(49,(.int<|Ġ<|ϔ d,0))::sP d) (Į.getD 19<|.ret<|.c .none) ((52,(.int<|Ġ<|ϔ d,0))::yO d):=by
 refine Ö (λa fb=>?_)<|w9 g;have fl:=zN g;have fr:=FR.idx (F:=50) (n:=62) (t:=.one 53) (p:=[.î 52 (.Õ .Mult (.Æ 52)<|.Æ 53)]) (items:=(ϔ d).map V.int) (λk=>(52,(.int<|Ġ<|(ϔ d).take k,0))::yO d) 0 λk v b=>by
  obtain⟨f,h,rfl⟩:=ŧ b;have j:=ĵ h;rw[ů];have e:Ġ ((ϔ d).take<|k+1)=Ġ ((ϔ d).take k)*f:=by
   rw[take_add_one,h,toList,ro]
  refine⟨_,.one<|by decide,.Ī (.cons (S1.î (.Õ (.Æ rfl) (.Æ rfl)<|ML (a k<|M6 ‹_›).1 (fb f<|Ŕ h).2)<|by decide) .nil) ?_⟩;show Sub _ ((52,(.int<|Ġ<|(ϔ d).take<|k+1,0))::yO d);rw[e];exact .keep<|.skip rfl<|.skip rfl .refl
 rw[É,ů,Dr] at fr;exact S1.Ū (.cons ((EV.dK (m:=1) rfl (by decide)<|by decide).Ī<|.to rfl<|.to rfl<|.to rfl<|.to rfl .ŉ) ES.nil) (ϡ<|by rw[É];exact ϴ ‹_› rfl) fr
def HW{xs:Ã Â}(hx:xs.length<=63):∃d:Data,ň d/\SV 50 62 [(0,(.Ñ<|xs.map V.int,0))] (Į.take 20) .next ((52,(.int<|Ġ<|ϔ d,0))::yO d):=by
 exact ì (Ni hx) λd g h=>⟨d,g,.append h<|.cons (Tn g)<|.cons ((PD g).Ī Ik)<|.cons (Us g)<|.cons (VE g)<|.cons (VP g)<|.cons (Vb g)<|.cons (Tt g)<|.cons (U2 g)<|.cons (SR g)<|.cons (Ur g)<|.cons (Vg g) .nil⟩
end
def Js{b r q:Â}(h:(0<=r/\r<b)\/(b<r/\r<=0)):(r+b*q).fdiv b=q/\(r+b*q).fmod b=r:=by
 rcases h with h|h
 .exact(iC<|(qU 2147756340086) h).2 ⟨rfl,h⟩
 .exact(VC<|(qU 0xf04f1310476) h).2 ⟨rfl,h⟩
def Mk{a b:Â}(h:b≠0):(0<=a.fmod b/\a.fmod b<b)\/(b<a.fmod b/\a.fmod b<=0):=by
 rcases Int.lt_or_lt_of_ne h with k|k
 .exact .inr ((VC (a:=a) (q:=a.fdiv b) k).1 ⟨rfl,rfl⟩).2
 .exact .inl ((iC (a:=a) (q:=a.fdiv b) k).1 ⟨rfl,rfl⟩).2
def q5{a b q r:Â}(e:a=r+b*q)(h:(0<=r/\r<b)\/(b<r/\r<=0)):DM a b=.ñ [.int q,.int r]:=by
 refine Ö (λf c=>?_)<|Js (q:=q) h;unfold DM;exact Å e<|Å f<|Å c rfl
noncomputable def fk(W L:Â):Â×Â:=if L=0 then(-1,0) else(-2,W-L)
def LZ(a:W≠0)(h:(0<=L/\L<W)\/(W<L/\L<=0)):DM (1*(W+L)) (1*W)=.ñ [.int 1,.int L]/\DM ((-1)*(W+L)) ((-1)*W)=.ñ [.int 1,.int<|-L]/\
  DM ((-1)*(W+L)) (1*W)=.ñ [.int (fk W L).1,.int (fk W L).2]/\DM (1*(W+L)) ((-1)*W)=.ñ [.int (fk W L).1,.int<|-(fk W L).2]:=by
 refine⟨q5 (qU 79395397504078245)<|(qU 0xf030111a47111a040f378f0301471040f3786) h,q5 (by omega)<|by omega,?_,?_⟩
 .unfold fk;by_cases e:L=0
  .exact Å (ť e)<|q5 (by dsimp only;omega)<|by dsimp only;exact(Ad 0xff3f011a47011af4ff378f0596) a
  .exact Å (È e)<|q5 (by dsimp only;omega)<|by dsimp only;exact(qU 0xf0193019111a47111a0194019f378f0596f0301471040f3786) h e
 .unfold fk;by_cases e:L=0
  .exact Å (ť e)<|q5 (by dsimp only;omega)<|by dsimp only;omega
  .exact Å (È e)<|q5 (by dsimp only;omega)<|by dsimp only;omega
def DQ(hx:x.natAbs<2^240)(a:y.natAbs<2^240):ü .Mult (.int x) (.int y)=À (.int<|x*y,0):=by
 have l:∀{x:Â},x.natAbs<2^240->Ĕ x=true:=λh=>kh (r9 h<|fA (by decide)<|by decide);exact Å (show ü .Mult (.int x) (.int y)=if Ĕ x&&Ĕ y then À (.int<|x*y,0) else Ä from rfl)<|Å (l hx)<|Å (l a) rfl
section
variable{d:Data}
def prod_cons(f:Â)(l:Ã Â):Ġ (f::l)=Ġ l*f:=by
 exact Đ (ro ..)<|rt<|perm_append_comm (l₁:=[f]) (l₂:=l)
def JS{l:Ã Â}(h:∀f∈l,f≠0):Ġ l≠0:=by
 induction l with
 |nil=>decide
 |cons f l ih=>exact Å (prod_cons ..)<|xj (ih λx k=>h x<|.tail _ k)<|h f<|.head _
def ŏ(d:Data):Â:=(((d.tw/18432:Á):Â)^4).fmod<|Ġ<|ϔ d
abbrev cC(d:Data):Â:=Ġ<|ϔ d
abbrev sV(d:Data):V:=.Ñ [.ñ [.int 1,.int<|ŏ d],.ñ [.int 1,.int<|-ŏ d],.ñ [.int (fk (cC d)<|ŏ d).1,.int (fk (cC d)<|ŏ d).2],.ñ [.int (fk (cC d)<|ŏ d).1,.int<|-(fk (cC d)<|ŏ d).2]]
abbrev pS(d:Data):V:=.ñ [.int (fk (cC d)<|ŏ d).1,.int (fk (cC d)<|ŏ d).2]
def AW(g:ň d):cC d≠0/\(cC d).natAbs<2^200:=by
 refine Ö (λp fb=>?_)<|w9 g;refine⟨JS λf h=>(fb f h).1,?_⟩;have:=(p 0<|Ϫ _).2;rwa [xU] at this
abbrev mU(d:Data):ĳ:=(52,(.int<|cC d,0))::yO d
def Uo(g:ň d):S1 50 62 (mU d) (Į.getD 20<|.ret<|.c .none) ((54,(.int<|ŏ d,0))::mU d):=by
 refine Ö (λw w1=>?_)<|AW g;have a:((d.tw/18432:Á):Â).natAbs.log2<100:=by
  refine Å (rp ..) ?_;by_cases h:d.tw/18432=0
  .refine Å h ?_;decide
  .exact(Wy h).2<|dU (ú (yf _ _) g.tw)<|by decide
 have p:ü .Pow (.int ((d.tw/18432:Á):Â)) (.int 4)=À (.int<|((d.tw/18432:Á):Â)^4,0):=by
  exact Å (show ü .Pow (.int ((d.tw/18432:Á):Â)) (.int 4)=if 0<=(4:Â)/\(4:Â)<=100/\((d.tw/18432:Á):Â).natAbs.log2<100 then À (.int<|((d.tw/18432:Á):Â)^(4:Â).toNat,0) else Ä from rfl)<|ť ⟨by decide,by decide,a⟩
 have m:ü .Mod (.int<|((d.tw/18432:Á):Â)^4) (.int<|cC d)=À (.int<|ŏ d,0):=by
  exact Å (show ü .Mod (.int<|((d.tw/18432:Á):Â)^4) (.int<|cC d)=if cC d≠0 then À (.int<|(((d.tw/18432:Á):Â)^4).fmod<|cC d,0) else Ä from rfl)<|ť w
 exact S1.î (.Õ (.Õ (.uQ (.Æ rfl) (.Ϻ (x:=18432) rfl) (by decide) g.tw) .ï p) (.Æ rfl) m)<|by decide
def VQ(g:ň d):S1 50 62 ((54,(.int<|ŏ d,0))::mU d) (Į.getD 21<|.ret<|.c .none) ((55,(pS d,0))::(54,(.int<|ŏ d,0))::mU d):=by
 refine S1.î ?_ (by decide);have c:EV 62 ((54,(.int<|ŏ d,0))::mU d) (.cmp .Eq (.Æ 54)<|.c<|.int 0) (.bool<|decide<|ŏ d=0) 0 ((54,(.int<|ŏ d,0))::mU d):=.cmp (.Æ rfl) .ï<|iB _ _;unfold pS fk;by_cases h:ŏ d=0
 .exact Å (ť h)<|.z8 c (i9 h)<|.ñ<|.cons (.un .ï rfl)<|.cons .ï .nil
 .exact Å (È h)<|.zR c (dI h)<|.ñ<|.cons (.un .ï rfl)<|.cons (.Õ (.Æ rfl) (.Æ rfl) rfl) .nil
def UE(g:ň d):S1 50 62 ((55,(pS d,0))::(54,(.int<|ŏ d,0))::mU d) (Į.getD 22<|.ret<|.c .none) ((58,(sV d,1))::(55,(pS d,0))::(54,(.int<|ŏ d,0))::mU d):=by
 refine Ö (λw w1=>?_)<|AW g;have L:(0<=ŏ d/\ŏ d<cC d)\/(cC d<ŏ d/\ŏ d<=0):=Mk w;refine sm (LZ w L) λp1 t y x=>?_
 let G:ĳ:=(55,(pS d,0))::(54,(.int<|ŏ d,0))::mU d
 let e:PE:=.fn Ņ [(.Õ .Mult (.Æ 56)<|.Õ .Add (.Æ 49)<|.Æ 54),(.Õ .Mult (.Æ 57)<|.Æ 52)]
 have key:∀(s o:Â),(s=1\/s=-1)->(o=1\/o=-1)->EV 62 ((57,(.int o,0))::(56,(.int s,0))::G) e (DM (s*(cC d+ŏ d))<|o*cC d) 0 ((57,(.int o,0))::(56,(.int s,0))::G):=by
  intro s o m h;have b:(cC d+ŏ d).natAbs<2^240/\(cC d).natAbs<2^240/\(cC d+ŏ d).natAbs<2^249/\(cC d).natAbs<2^249:=by
   have l:(ŏ d).natAbs<=(cC d).natAbs:=by clear w1;generalize ŏ d=l at*;generalize cC d=v at*;exact(U8 0x1001c1d5f14711d51f37860c0d5f04700d50f3786f0301471040f3786) L (Rc _)<|Rc _
   have q:=dU (ú (Int.natAbs_add_le (cC d)<|ŏ d)<|Nat.add_le_add_left l _)<|Nat.add_lt_add w1 w1;exact⟨ϱ q<|by decide,ϱ w1<|by decide,ϱ q<|by decide,ϱ w1<|by decide⟩
  have B:s.natAbs<2^240:=by rcases m with rfl|rfl<;>decide
  have A:o.natAbs<2^240:=by rcases h with rfl|rfl<;>decide
  refine .fn (.cons (.Õ (.Æ rfl) (.Õ (.Æ rfl) (.Æ rfl) rfl)<|DQ B b.1)<|.cons (.Õ (.Æ rfl) (.Æ rfl)<|DQ A b.2.1) .nil)<|jh (xj (by rcases h with rfl|rfl<;>decide) w) ?_ ?_
  .rcases m with rfl|rfl
   .exact Å (U3 ..) b.2.2.1
   .exact Å (xt ..)<|Å (U3 ..)<|Å (aaD ..) b.2.2.1
  .rcases h with rfl|rfl
   .exact Å (U3 ..) b.2.2.2
   .exact Å (xt ..)<|Å (U3 ..)<|Å (aaD ..) b.2.2.2
 have p:=key 1 1 (.inl rfl)<|.inl rfl;have k:=key (-1) (-1) (.inr rfl)<|.inr rfl;have j:=key (-1) 1 (.inr rfl)<|.inl rfl;have f:=key 1 (-1) (.inl rfl)<|.inr rfl;rw[p1] at p;rw[t] at k;rw[y] at j;rw[x] at f;refine S1.î (.comp (items:=[.ñ [.int 1,.int 1],.ñ [.int (-1),.int<|-1],.ñ [.int (-1),.int 1],.ñ [.int 1,.int<|-1]]) (.cons (.ñ<|.cons (.ñ<|.cons .ï<|.cons .ï .nil)<|.cons (.ñ<|.cons (.un .ï rfl)<|.cons (.un .ï rfl) .nil)<|.cons (.ñ<|.cons (.un .ï rfl)<|.cons .ï .nil)<|.cons (.ñ<|.cons .ï<|.cons (.un .ï rfl) .nil) .nil) .nil) rfl rfl ?_) (by decide);have a:∀s o:V,Sub ((57,(o,0))::(56,(s,0))::G) G:=λs o=>.skip rfl<|.skip rfl .refl;exact .cons (.two (by decide)<|by decide) (p.Ī<|a _ _)<|.cons (.two (by decide)<|by decide) (k.Ī<|a _ _)<|.cons (.two (by decide)<|by decide) (j.Ī<|a _ _)<|.cons (.two (by decide)<|by decide) (f.Ī<|a _ _) .nil
end
section
variable{d:Data}
def D0(c:EV n Γ a (.bool false) k ò)(h:EV n ò b (.bool false) l ĕ):EV n Γ (.iQ a b) (.bool false) 0 ĕ:=.mR c rfl h
def Wb:S1 50 62 ((58,(sV d,1))::(55,(pS d,0))::(54,(.int<|ŏ d,0))::mU d) (Į.getD 23<|.ret<|.c .none) (yO d):=by
 let G:ĳ:=(58,(sV d,0))::(55,(pS d,0))::(54,(.int<|ŏ d,0))::mU d
 have l:EV 62 G QG (sV d) 1 G:=
  .Ñ (.cons (EV.ñ<|.cons .ï<|.cons (.Æ rfl) .nil)<|ES.cons (EV.ñ<|ES.cons EV.ï<|ES.cons (EV.un (EV.Æ rfl) rfl) ES.nil)<|ES.cons (EV.Æ rfl)<|ES.cons (EV.ñ<|ES.cons (EV.ä rfl EV.ï rfl rfl)<|ES.cons (EV.un (EV.ä rfl EV.ï rfl rfl) rfl) ES.nil) ES.nil)
 have m:∀a b:Â,jq 5 (.ñ [.int a,.int b]) (.ñ [.int a,.int b])=À true:=λa b=>sa λx hx=>by
  rcases ő.mp hx with rfl|hx
  .exact bb _
  .rcases ő.mp hx with rfl|hx
   .exact bb _
   .exact ϭ hx
 have f:∀a b:Â,jq 4 (.ñ [.int a,.int b]) (.ñ [.int a,.int b])=À true:=λa b=>sa λx hx=>by
  rcases ő.mp hx with rfl|hx
  .exact bb _
  .rcases ő.mp hx with rfl|hx
   .exact bb _
   .exact ϭ hx
 have ty:∀{Γ:ĳ}{i:Á}{z:Â},Γ.lookup i=À (.int z,0)->EV 62 Γ (.cmp .Is (.fn eX [(.Æ i)])<|.c<|.ty "int") (.bool true) 0 Γ:=λh=>EV.cmp (EV.fn (ES.cons (EV.Æ h) ES.nil) rfl) EV.ï rfl;have row:∀a b:Â,CR 62 (.one 60) (.cmp .Is (.fn eX [(.Æ 60)])<|.c<|.ty "int") ((59,(.ñ [.int a,.int b],0))::G) [.int a,.int b] [.bool true,.bool true] ((59,(.ñ [.int a,.int b],0))::G):=λa b=>
  .p1 (by decide) rfl ⟨_,ty rfl⟩ (.p1 (by decide) rfl ⟨_,ty rfl⟩ .nil)
 have g:∀(a b:Â){vs qs:Ã V},D7 62 (.one 59) [.Æ 59] Ń (.one 60) (.cmp .Is (.fn eX [(.Æ 60)])<|.c<|.ty "int") G vs qs G->D7 62 (.one 59) [.Æ 59] Ń (.one 60) (.cmp .Is (.fn eX [(.Æ 60)])<|.c<|.ty "int") G (.ñ [.int a,.int b]::vs) ([.bool true,.bool true]++qs) G:=by
  intro a b vs qs h;refine .cons (TP.one<|by decide) ((λa b=>ES.cons (EV.Æ rfl) ES.nil) a b) rfl (gD:=G) ?_ h;have k:=row a b;exact(CR.cons (n:=62) (t:=.one 60) (e:=(.cmp .Is (.fn eX [(.Æ 60)])<|.c<|.ty "int")) (Γ:=(59,(.ñ [.int a,.int b],0))::G) (v:=.int a) (TP.one<|by decide) ((ty rfl).Ī<|.skip rfl .refl)<|CR.cons (n:=62) (t:=.one 60) (e:=(.cmp .Is (.fn eX [(.Æ 60)])<|.c<|.ty "int")) (Γ:=(59,(.ñ [.int a,.int b],0))::G) (v:=.int b) (TP.one<|by decide) ((ty rfl).Ī (ĕ:=G)<|.skip rfl<|.skip rfl .refl) .nil)
 have j:EV 62 G P0 (.Ñ<|rX 8<|.bool true) 1 G:=
  EV.eZ (ES.cons (EV.Æ rfl) ES.nil) rfl rfl (g _ _<|g _ _<|g _ _<|g _ _ .nil) (by decide)
 refine(S1.skip (D0 (EV.cmp ((EV.dK rfl (by decide)<|by decide).Ī .shadow) l<|HE rfl<|bK λx hx=>?_)<|EV.cmp j (EV.Õ (EV.Ñ<|ES.cons EV.ï ES.nil) (EV.Ϻ (x:=8) rfl)<|wk (by decide)<|by decide)<|HE rfl<|bK λx hx=>Å (List.eq_of_mem_replicate hx)<|u5 _) rfl).Ī<|.skip rfl<|.skip rfl<|.skip rfl<|.skip rfl .refl
 .rcases ő.mp hx with rfl|hx
  .exact f _ _
  rcases ő.mp hx with rfl|hx
  .exact f _ _
  rcases ő.mp hx with rfl|hx
  .exact f _ _
  rcases ő.mp hx with rfl|hx
  .exact f _ _
  .exact ϭ hx
def Ux(g:ň d):S1 50 62 (yO d) (Į.getD 24<|.ret<|.c .none) [(49,(.int 1,0))]:=by
 refine Ö (λy fb=>?_)<|w9 g;have fl:=zN g
 let C:Á->ĳ:=λk=>[(49,(.int<|Ġ<|(ϔ d).drop k,0)),(51,(ui d,0))]
 have fr:=FR.idx (F:=50) (n:=62) (t:=.one 53) (p:=[.mO [49,61] (.fn Ņ [(.Æ 49),(.Æ 53)]),Ub]) (items:=(ϔ d).map V.int) C 0 λk v w=>by
   obtain⟨f,m,rfl⟩:=ŧ w;have o:=ĵ m;refine Å (ů ..) ?_;obtain⟨f0,A⟩:=fb f<|Ŕ m;have e:(ϔ d).drop k=f::(ϔ d).drop (k+1):=by
    refine Å (fH o) ?_;rw[Ų o] at m;exact Å (à m) rfl
   have lim:∀{x:Â},x.natAbs<2^200->x.natAbs<2^249:=λh=>r9 h (fA (by decide)<|by decide);have dm:=jh (a:=Ġ<|(ϔ d).drop k) (b:=f) f0 (lim (y k<|M6 ‹_›).2)<|lim A;have B:DM (Ġ<|(ϔ d).drop k) f=.ñ [.int (Ġ<|(ϔ d).drop<|k+1),.int 0]:=by
    unfold DM;rw[e,prod_cons,Int.mul_fdiv_cancel _ f0,Int.mul_fmod_left]
   rw[B] at dm;have j:∀{Γ:ĳ}{i:Á}{z:Â},Γ.lookup i=À (.int z,0)->EV 62 Γ (.cmp .IsNot (.fn eX [(.Æ i)])<|.c<|.ty "int") (.bool false) 0 Γ:=λh=>.cmp (.fn (.cons (.Æ h) .nil) rfl) .ï rfl
   let G:ĳ:=(61,(.int 0,0))::(49,(.int<|Ġ<|(ϔ d).drop<|k+1,0))::(53,(.int f,0))::C k
   have s:S1 50 62 G (Ub) G:=
    S1.skip (D0 (.cmp (.Æ rfl) .ï<|HE rfl<|bb _)<|D0 (j rfl)<|j rfl) rfl
   exact⟨_,.one<|by decide,.Ī (.cons (S1.mO (is:=[49,61]) (.fn (.cons (.Æ rfl)<|.cons (.Æ rfl) .nil) dm) (by decide) rfl)<|.cons s .nil)<|.to rfl<|.to rfl .ŉ⟩
 rw[É,ů] at fr;have q:C (ϔ d).length=[(49,(.int 1,0)),(51,(ui d,0))]:=by
  exact(Å rP rfl:[(49,(V.int<|Ġ<|(ϔ d).drop (ϔ d).length,0)),(51,(ui d,0))]=_)
 rw[(show C 0=[(49,(.int<|Ġ<|ϔ d,0)),(51,(ui d,0))] from rfl),q] at fr;exact(S1.Ū (ò:=[(49,(.int<|Ġ<|ϔ d,0)),(51,(ui d,0))]) (ES.cons ((EV.Æ rfl).Ī<|.to rfl<|.to rfl .ŉ) ES.nil) (ϡ<|Å (É ..)<|ϴ ‹_› rfl) fr).Ī<|.to rfl .ŉ
def Lh(g:ň d):SV 50 62 (mU d) (Į.drop 20) (.ret<|.bool true) []:=
 .cons (Uo g) (.cons (VQ g)<|.cons (UE g)<|.cons Wb<|.cons (Ux g)<|.Ī (.ret<|.cmp (.Æ rfl) .ï<|iB 1 1) .ŉ)
def BW{xs:Ã Â}(hx:xs.length<=63):∃Ø i j,ċ 50 (Į.take 20) (À (.Ñ<|xs.map V.int,0)::replicate 61 Ä)=À (.next,Ø)/\Ø[49]?=À (À (.int i,0))/\Ø[6]?=À (À (.int j,0))/\∃a,ċ 50 (Į.drop 20) Ø=À (.ret<|.bool true,a):=by
 exact ì (HW hx) λd g h=>(ì (h _<|vz (ar:=62) [.Ñ (xs.map V.int)]<|Ϙ rfl) λØ c b=>ì (Lh g Ø b) λa f _=>⟨Ø,_,_,c,b.2 49 _ rfl,b.2 6 _ rfl,a,f⟩)
end
section
variable{w:dk}{mg mb:Str->Ï Ë}
def VR.L5{P:tM}{h:gk}{v:Ë}{i:Â}(a:Well P h v (.int i)):VR B (.int i) v:=by
 have z:∀d,Well P h v d->bg i=d->VR B (.int i) v:=λd a=>by
  apply a.casesOn (motive_1:=λv d _=>bg i=d->VR B (.int i) v)
  case int=>intro j t e;obtain rfl:=WData.int.inj e;exact .int
  all_goals intros;contradiction
 exact z _ a rfl
def ě.ints{xs:Ã Â}:∀{vs:Ã Ë}{h:gk}{P:tM},WellAll P h vs (xs.map bg)->ě B (xs.map V.int) vs:=by
 induction xs with
 |nil=>intro vs h P w;cases w;exact .nil
 |cons x xs ih=>intro vs h P w;obtain⟨v,b,rfl,a,r⟩:=wellAll_cons_inv w;exact .cons (VR.L5 a)<|ih r
def zV(P:tM):(ϒ P).get? 44=À {cls:=.none,data:=.fields #[]}/\(ϒ P).get? 51=À {cls:=.none,data:=.fields #[]}:=⟨by decide,by decide⟩
def M8(P:tM):∀a∈bS,∃c o vs,(ϒ P).get? c=À o/\o.cls=.type "code"/\o.data=.fields vs/\vs[11]?=À (.ref a):=by
 intro a h;rcases(show a=44\/a=51 by simpa[bS,jH] using h) with rfl|rfl
 .exact⟨48,co "_int2digits" 258 77 2 43 45 46 47 266,_,by decide,rfl,rfl,by decide⟩
 .exact⟨55,co "_digits2int" 269 93 2 50 52 53 54 277,_,by decide,rfl,rfl,by decide⟩
def zA(P:tM):∀a∈bS,(ϒ P).get? a=À {cls:=.none,data:=.fields #[]}:=by
 intro a h;rcases(show a=44\/a=51 by simpa[bS,jH] using h) with rfl|rfl
 .exact(zV P).1
 .exact(zV P).2
def D3(S:bj w s.heap mg mb){xs:Ã Â}(hx:xs.length<=63)(m:s.heap.get? l=À {cls:=.type "list",data:=.seq vs.toArray})(v:∀B:PB,ě B (xs.map V.int) vs)
  (q:∀s',(∃h tk,s'={s with heap:=h,toks:=tk})->(∀b o,s.heap.get? b=À o->b∉bS->s'.heap.get? b=À o)->(∀a∈bS,∃ps,s'.heap.get? a=À {cls:=.none,data:=.fields ps})->Q (.bool true) s'):
  ϛ (aT jg w) callerA (call (.ref 208) [.ref l]) Q E s:=by
 obtain⟨Ø,i,j,M,hi,D,dM,G⟩:=BW hx;have K:=PJ S
 let B:PB:=λa=>if a=l then À {cls:=.type "list",data:=.seq vs.toArray} else Ä
 have g:l∉bS:=λf=>by
  have m:=(S.y _ _<|zA w.params l f)▸m;cases m
 have hB:ŀ B s.heap.get?:=λa o e=>by
  simp only[B] at e;by_cases h:a=l
  .have e:=(ť h)▸e;obtain rfl:=à e;exact Å h m
  .have e:=(È h)▸e;exact ÿ e
 refine lC (X:=XX S) (vs:=[.Ñ (xs.map V.int)]) (n:=62) (params:=["script"]) (sc:=ĺ) K.ho K.hd K.yt K.body K.Lv K.gl K.bi K.kC K.names K.kind K.co K.gen rfl rfl (by decide) (λa o e=>of_hideAll bS e) hB (λa f=>⟨⟨È λ(h:a=l)=>g<|h▸f,⟨_,_,S.y _ _<|zA w.params a f,rfl,.inl rfl,rfl⟩⟩,F0 _ f⟩) (.cons (.Ñ (ť rfl) rfl rfl ⟨rfl,rfl⟩<|v B) .nil) λenv c p t keep K1=>?_;have en:env.scope.names=ĺ.kinds:=Đ c K.names;rw[By,iH];have R1:ţ 15 (callerA.deeper env):=(show ţ 16 callerA from⟨by decide,by decide,rfl⟩).deeper;refine Ü<|I0 S env en _ _ _ M _ B _ _ _ _ _ R1 K1 λfl s2 B2 cR R K2 L=>?_;cases L;refine mI ?_;refine MZ (k:=14) (gl S) (Gu S<|by decide) (Gu S<|by decide) (jE S).mg (jE S).ho (jE S).hd (jE S).yt (jE S).body (jE S).Lv (jE S).gl (jE S).bi (jE S).kC (jE S).names (jE S).kind (jE S).co (jE S).gen R1 (gc rfl) (Đ c rfl) en K2 hi D λs3 B3 I S3 J=>?_;refine C0 S env en _ _ _ G _ B3 _ _ _ _ _ R1 J λfl H B4 RX S4 C f4=>?_;cases f4 with
 |ret A=>
  cases A;have x:=(R.trans S3).trans S4;refine q H (zm x.eq λh tk rfl=>⟨h,tk,rfl⟩) (λb o e W=>x.kept b o (keep b o e) λP=>?_) λa f=>H4 ((C.ex a f).2.tab) λo ps Y h2 h3 h4=>⟨ps,h4▸Y⟩
  .rcases P with h|h
   .exact gC<|e.symm.trans h
   .exact W h
end
def items_int{R:WRecords}{xs:Ã WData}:tO R xs .int=true->∃is:Ã Â,xs=is.map bg:=by
 induction xs with
 |nil=>exact λ_=>⟨[],rfl⟩
 |cons x xs ih=>
  intro h;have h:(WShape.has R x .int&&tO R xs .int)=true:=by simpa[tO] using h
  obtain⟨h1,h2⟩:=jU.mp h;obtain⟨i,rfl⟩:=hasW_int h1;obtain⟨is,rfl⟩:=ih h2;exact⟨i::is,rfl⟩
noncomputable abbrev v5:RowW:=(OpenLaw.row tP).toRowW
def LV{args:Ã WData}(h:v5.claim.pre args=true):∃is:Ã Â,args=[.list (is.map bg)]/\is.length<=63:=by
 obtain⟨h1,h2⟩:=pre_splitW (r:=v5) h;obtain⟨d,r,rfl,h3,h4⟩:=hasAllW_cons h1;obtain rfl:=hasAllW_nil h4;obtain⟨xs,rfl,h5⟩:=hasW_list h3;obtain⟨is,rfl⟩:=items_int h5;refine⟨is,rfl,yo λMQ=>?_⟩;have e:v5.pre=.and (.not<|.lt (.lit<|.int 63)<|.len<|.arg 0) (.lit<|.bool true):=rfl;rw[e] at h2;have v1:lW v5.records (.lt (.lit<|.int 63)<|.len<|.arg 0) {args:=[.list (is.map bg)]}=À (.bool true):=by
  have hl:(63:Â)<((is.map bg).length:Â):=by rw[É];exact(A1 0xd3f27403f2716) MQ
  simp only[lW,List.getElem?_cons_zero];show(less? (.int 63)<|.int ((is.map bg).length:Â)).map WData.bool=_;simp only[less?,Num.less?,ej,ix hl]
 have v2:lW v5.records (.and (.not<|.lt (.lit<|.int 63)<|.len<|.arg 0)<|.lit<|.bool true) {args:=[.list (is.map bg)]}=À (.bool false):=by
  have vn:lW v5.records (.not<|.lt (.lit<|.int 63)<|.len<|.arg 0) {args:=[.list (is.map bg)]}=À (.bool false):=by rw[lW,v1];rfl
  rw[lW,vn]
 unfold WTm.holds at h2;rw[v2] at h2;cases h2
def JI(a:Ã WData):v5.claim.post a (.bool true) a=true:=by decide
def QM{d:DefRec}{Zo:Ã (Str×Expr)}(hn:d.name="law"):WalkO qv Sz (λ_ _=>True) Behind v5 d Zo (λf vs=>Î f vs):=by
 intro w YW Hf mg mb G Y fa o pm cd doc dV kV ho hd RR hD Xl hg args vals as Wz Yy YN Yu Z5;have S:bj w Hf.heap mg mb:=⟨Y,G.T.g,G.T.b,G.T.nolimit,G.T.builtins⟩
 obtain⟨is,rfl,hl⟩:=LV Wz;obtain⟨v,W4,rfl,wv,wr⟩:=wellAll_cons_inv Yu;cases wr;cases wv with
 |list ha Ji=>
  rw[hn] at Xl;have e:À (aD fa)=À (aD 208):=Xl.symm.trans (PJ S).mg;obtain rfl:=EL<|à e;refine D3 S hl ha (λB=>ě.ints Ji) λs' he hk hx=>?_;have os:s'.os=Hf.os:=by obtain⟨h,tk,rfl⟩:=he;rfl
  have gs:s'.gens=#[]:=by obtain⟨h,tk,rfl⟩:=he;exact hg
  refine⟨.inl ⟨_,.bool true,[],rfl,λ_=>rfl,.bool _,JI _,λ_=>⟨.nil,λ_ h=>nomatch h⟩⟩,⟨λb o' e'=>?_,λb o' e'=>?_⟩,os,.of_eq gs⟩
  .by_cases hb:b∈bS
   .obtain⟨ps,hp⟩:=hx b hb;have e2:=S.y _ _<|zA w.params b hb;rw[e'] at e2;obtain rfl:=à e2;obtain⟨c,oc,vc,h1,h2,h3,h4⟩:=M8 w.params b hb;exact .inr<|.inl ⟨⟨c,oc,vc,S.y _ _ h1,h2,h3,h4⟩,rfl,#[],ps,rfl,by rw[hp,Array.empty_append]⟩
   .exact .inl<|hk b o' e' hb
  .by_cases hb:b∈bS
   .obtain⟨ps,hp⟩:=hx b hb;exact⟨_,hp⟩
   .exact⟨_,hk b o' e' hb⟩
noncomputable abbrev rL:=tP
noncomputable abbrev pL:=rL.prog
def Yq:(sreFenced pL.main&&((moduleNames pL.main.body).isEmpty||lookedIntoSs (moduleNames pL.main.body) pL.main.body)&&namesResolve pL)=true:=by decide
def YG:pL.boundNames.all (λn=>!worldNames.contains n)=true:=by decide
def OH:noRoadLSs {strict:=!(zw pL.main.body).all cThrough.contains,foot:=Ä,bare:=(["vars","dir","locals"]:Ã Str).filter (readsOut pL pL.main.body)} pL.main.body=true:=by decide
def UW:(namesMeet pL pL.main.body λ_ n=>attrL n)=true:=by decide
def Yw:rL.row.wellSaid=true:=by
 unfold OpenRow.wellSaid OpenRow.partSaid;rw[show looksOpen rL.row.prog=true from look_both (look_both (look_both Yq YG) OH) UW];decide
def ws:DP rL=true:=by
 unfold DP;rw[Yw];decide
end Mine
end
theorem PySem.Challenge.cw_wb0101_03_holds : PySem.Challenge.rw_wb0101_03.Holds := by
  refine holds_law Mine.ws fun said => ?_
  refine holds_open (q := Mine.qv) (loose := Mine.Sz) (Xt := fun _ => true) (XP := fun _ _ => True) (Yf := Shared.heap) (Ya := fun w => Mine.ϒ w.params) (YP := Mine.Behind) (N := 40000) Mine.Sb (fun w s e b o h => by rw [e]; exact h) (fun w h h' k k' b o e => k' b o (k b o e)) (fun _ _ => trivial) (fun _ _ _ _ _ => trivial) (by rfl) (by rfl) (by rfl) (fun s _ => recFacts_of (by rfl)) (by rfl) (by first | assumption | decide) (by decide) ⟨rfl, rfl, rfl, rfl, rfl, by decide⟩ ?_ (Mine.QM rfl)
  w_witness2
