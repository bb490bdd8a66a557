import PyProof.Rows.All
import Wide.All
import OpenK.AllK
import Wide.FinOn
import Lean
import PySem.Challenge.RW_ik0231_01
set_option Elab.async false
set_option tactic.hygienic false
set_option backward.match.sparseCases false
set_option maxHeartbeats 4000000
set_option maxRecDepth 100000
set_option linter.unusedVariables false
set_option genSizeOf false
open PySem PySem.W PyProof.Rows
open _root_.And renaming intro->t9
open _root_.Array renaming getElem?_eq_getElem->iK,forIn_toList->lF,length_toList->CY,isEmpty_iff->FW,size_push->Jw
open _root_.Array.Perm renaming mem_iff->yQ
open _root_.Bool renaming and_eq_true_iff->aO,false_ne_true->aX,false_eq_true->a8,and_eq_true->bd,not_eq_true'->cG,eq_false_iff->fj,or_eq_true_iff->fz,or_eq_true->fT,or_eq_false_iff->f9,and_false->jK,not_true->qF,true_and->yO,false_or->yP,and_assoc->LU,and_self->MK
open _root_.Eq renaming trans->cS,symm->fw
open _root_.Exists renaming imp->CX
open _root_.False renaming elim->ny
open _root_.ForIn renaming forIn->nI
open _root_.ForInStep renaming yield->j4
open _root_.Inhabited renaming default->bN
open _root_.Int renaming toNat_natCast->ft,natCast_nonneg->gT,ofNat_lt->iL,ofNat_le->iM,le_trans->iN,fdiv->kH,not_lt->nW,fmod->qb,toNat_of_nonneg->qC,le_of_lt->sV,toNat->tZ,min_eq_left->vT,ne_of_gt->A6,le_total->A7,natAbs_of_nonneg->DY,add_lt_add_right->DZ,toNat_of_nonpos->FV,lt_of_toNat_lt->Gg,lt_of_lt_of_le->Gh,lt_of_le_of_lt->Gi,self_le_toNat->Jr,min_eq_right->JJ,max_eq_right->JK
open _root_.Int.ofNat renaming inj->t8
open _root_.LawfulBEq renaming eq_of_beq->aJ
open _root_.Lean renaming maxHeartbeats->nS
open _root_.List renaming length_map->ae,length_append->ai,mem_cons_self->aj,mem_cons_of_mem->an,length_cons->ao,mem_cons->ay,mem_singleton->aC,map_map->aG,mem_map->aH,map_cons->aK,append_nil->aM,append_assoc->aP,size_toArray->aT,lookup_cons->ba,mem_of_getElem?->be,map_congr_left->bf,toArray->bk,all_eq_true->bu,getElem?_append_right->bI,not_mem_nil->bJ,map_eq_nil_iff->bP,getElem?_eq_getElem->bQ,getElem?_toArray->bV,map_append->bW,length->bY,drop_eq_getElem_cons->bZ,length_pos_iff->b6,mem_append_right->cf,length_nil->ci,length_take->cB,range->cM,length_drop->cR,contains_iff_mem->cY,getD_eq_getElem?_getD->db,mem_append->dk,mem_map_of_mem->dE,cons_prefix_cons->dK,cons_lt_cons_iff->dL,filter_cons->d3,nil_prefix->eu,nil_append->ew,forIn_cons->ey,getElem?_eq_some_iff->eF,getElem?_append_left->eG,isEmpty_iff->eP,cons_append->eQ,drop_eq_nil_of_le->fC,mem_append_left->fY,map_id'->fZ,lookup->f8,mergeSort_perm->gw,filterMap_cons->gy,mapM_cons->gB,cons_ne_nil->gC,length_filter_le->g9,getElem?_eq_none->hG,dropLast_eq_take->hH,length_range->ia,mem_range->ix,mem_of_mem_take->iy,mem_of_mem_drop->iz,forall_mem_cons->iA,filter_eq_self->iV,prefix_append->jj,pairwise_mergeSort->jl,take_zero->jF,getElem?_map->jG,flatMap_cons->jH,drop_zero->jI,take_append_drop->j3,contains_eq_mem->kD,foldl_cons->kN,pairwise_cons->lH,exists_mem_of_ne_nil->ml,not_lt->mr,map_id->ms,nil_lt_cons->nn,take_of_length_le->nN,map_nil->nO,not_lt_nil->nV,length_singleton->oL,eq_nil_or_concat->oM,drop_take->pI,toList_toArray->qw,take_succ_cons->qx,sum_cons->qz,map_take->qA,any_cons->qB,filter_congr->sk,take_length->tq,mem_flatMap->tr,isEmpty_nil->tu,prefix_rfl->vH,mem_filter->vI,length_set->vJ,filter_map->vK,lt_irrefl->wq,forIn_nil->wr,prefix_iff_eq_take->y0,drop->y4,length_eq_one_iff->AH,filter_eq_nil_iff->AI,length_mergeSort->A3,countP_mono_left->A4,concat_eq_append->A5,pairwise_append->CT,length_dropLast->CU,drop_eq_nil_iff->CV,append_toArray->DX,mem_filterMap->FU,getElem?_set->F9,foldl_append->Ga,drop_sublist->Gb,map_snd_zip->Jn,le_antisymm->Jo,ext_getElem->Jp,countP_cons->Jq,nodup_cons->JH,find?_cons->JI,rec->LK,map->LL,drop_drop->LM,map_drop->MF,le_trans->MG,le_total->MH,all_cons->MI
open _root_.List.Mem renaming tail->Gc,head->Ge
open _root_.List.Perm renaming eq_of_pairwise->tY
open _root_.List.Sublist renaming refl->xt
open _root_.List.cons renaming injEq->dG,inj->jJ
open _root_.Min renaming min->yU
open _root_.MonadExcept renaming tryCatch->iq
open _root_.Nat renaming le_trans->ah,le_of_eq->az,le_refl->aF,le_of_lt->bg,zero_le->bp,lt_of_le_of_lt->bq,le_of_ble_eq_true->bw,sub_add_cancel->bO,lt_trans->bR,le_antisymm->bX,le_of_not_lt->b9,add_le_add->cq,succ_le_succ->cT,lt_of_lt_of_le->dh,le_succ->di,le_add_of_sub_le->dj,lt_succ_self->dy,le_add_right->dz,not_lt->dF,mul_div_le->dO,ne_of_lt->dU,lt_of_not_le->d5,zero_add->eo,not_le_of_lt->eT,sub_self->eX,lt_or_ge->eY,lt_irrefl->eZ,le_of_lt_succ->fq,sub_le->fu,mul_one->gb,lt_mul_div_succ->gA,ne_of_gt->gR,add_comm->gS,le_add_left->gZ,add_assoc->g8,not_lt_zero->ji,le_succ_of_le->jO,sub_eq_zero_of_le->kg,ble_eq_true_of_le->kh,not_lt_of_le->kr,mul_le_mul_right->kF,add_le_add_right->kG,min_le_left->kW,div_le_self->kX,mod_lt->l7,lt_of_le_of_ne->l8,lt_trichotomy->mI,ble->mJ,min_le_right->nw,div_lt_self->oK,sub_one_lt->pW,sub_le_sub_right->pX,sub_le_of_le_add->pY,not_succ_le_zero->pZ,le_sub_one_of_lt->qa,beq->qu,add_le_add_left->qy,succ_sub->sR,sub_pos_of_lt->sS,lt_succ_of_le->sT,le_of_succ_le->sU,succ_ne_zero->tX,succ_add_eq_add_succ->yY,lt_add_of_pos_right->AG,zero_mul->AY,lt_of_succ_lt_succ->AZ,le_of_add_right_le->A0,eq_zero_of_le_zero->A1,lt_of_sub_eq_succ->CO,le_sub_of_add_le'->CP,le_of_add_left_le->CR,eq_of_beq_eq_true->CS,sub_sub->DS,le_sub_of_add_le->DU,add_sub_add_left->DV,add_mul->DW,sub_le_sub_left->FP,add_sub_cancel'->FQ,lt_of_lt_of_eq->F7,add_sub_cancel->F8,rec->Jl,lt_of_succ_lt->Jm,succ_ne_self->JG,div_add_mod->LI
open _root_.Nat.ToInt renaming of_diseq->pC
open _root_.Ne renaming symm->dg
open _root_.Option renaming ne_none_iff_exists'->bj,isNone_iff_eq_none->cK,isSome_iff_exists->fX,bind_some->gr,bind_eq_some_iff->gt,map_some->i8,map_eq_some_iff->jC,getD_some->sj,getD_none->FO
open _root_.Option.some renaming inj->aW,injEq->gJ
open _root_.Or renaming inr->am,inl->av
open _root_.PUnit renaming unit->DR
open _root_.Prod renaming ext->si
open _root_.Prod.mk renaming inj->eR
open _root_.Pure renaming pure->b8
open _root_.PyProof.Rows renaming get?_update_seq->eO,listUpdate_at->tm,oneType'->JB,kwAll_cons->Mx,bubble->MD,assignInOrder_cons->ME
open _root_.PySem renaming wpAny_bind->aa,wpAny_pure->ab,Value->af,Shared->ag,wpAny->aq,wpAny_mono->ar,model->aw,Addr->aB,wpAny_holding->aY,strValues->bc,codeAny_builtin->bB,Around->bD,Expr->bE,World->bG,plainId_quiet->bT,starEach->bU,wpAny_newObj_type->ce,builtinLookup_eq_fast->cg,wpAny_updateSeq->cu,Operator->cw,codeAny->cA,wpAny_of_eq->cF,wpAny_tryCatch->cI,Keyword->cQ,wpAny_seqItems->cZ,letOwnedTupleGo->c0,mainGlobals->c8,wpAny_Name->dw,wpAny_setState_of->dQ,wpAny_letGo->dR,Pos->dS,Params->dX,NameKind->dY,typeLookup_type->d4,Env->d7,wpAny_call_entry->ei,eval->ej,Spec->el,wpAny_pyNext_list_item->eC,Program->eE,wpAny_call->fc,wpAny_Call_Name_kw->fe,wpAny_standAt->fh,Heap->fv,Builtin->fA,attributeBase->fI,Comprehension->fJ,pyNext->fQ,isSubtype_type->fR,Result->fS,wpAny_specialOf->gn,wpAny_truthy_bool->gu,codeAny_mono->gv,rawInt->gD,wpAny_callSpecial?_slot->gN,wpAny_askSetting->gO,entryFor_of_tree->gP,backTo->hU,Stmt->ir,Arguments->iC,wpAny_rule->iX,letTemporaryGo->iY,assign->iZ,treeTable->je,seqItems?->jf,Obj->jh,builtinsNs->jN,updateSeq->jZ,wpAny_typeOf->ki,wpAny_pyIter_list->kj,newFunctionEnv->kl,holding->km,foldedSetIterable->ko,wpAny_pyNext_list_end->kM,wpAny_isInstance->kR,wpAny_execs_cons->kT,typeIs_str->kU,DictEntry->kY,methodCallPos->lv,getItem->lw,subscripted->lz,richCompare->lA,callSpecialIfBoundUnlessNone?->lD,wpAny_execs_nil->lV,importedModules->lW,argsOk->lY,Thread->lZ,isSubtype->mH,wpAny_newFunctionEnv_cells->mK,wpAny_Constant_str->mL,typeLookup->mM,sizeLine->mO,pyIter->mP,methodCallForm->mQ,entryFor->mR,CmpOp->mU,wpAny_evalAll_nil->nF,standAt->nG,wpAny_comprehension_free->nQ,wpAny_attempt->nR,behindInMarks->nU,specialOf->pr,opaqueClassAbove->pt,compareOp->py,codeAmong->pz,checkBuiltinCall->pA,cellsFrom->pB,Fin->pH,wpAny_load->pV,Call_name1->qc,Call_method1->qd,codeAny_of_tree->qt,wpAny_newTuple->rD,wpAny_field->rE,compPost->rF,callWith_function_kw->rG,Model->rI,wpAny_Constant_none->sO,wpAny_Assign_stores->sP,swapsWithSole->ti,swappedStores->tj,Sem->tn,ExceptHandler->tw,assignEach->tV,operate->vL,getAttr->vO,compEnvC->vP,bindArgs->vQ,Tok->vR,swapsWith->xl,noFill_tuple_add->xm,isSame->xn,keywordEach->yL,notedBy->AE,wpAny_setField->AN,table->AP,setsByText->AQ,recursionLimit->AR,isSubtype_stop->AT,closureFor->AV,Meets->A2,evalArgs_none->CM,callWith_type->CN,seq_tuple_add->DO,fenceModules?->DP,wpAny_callSpecial?_none->FJ,wpAny_allTrue_And_cons->F0,truthy->F1,richCompare_meets_room->F2,isType->F4,concat_meets->F5,IsPart->Gf,wpAny_allTrue_Or_cons->Jj,codeAny_call_function->Jk,wpAny_alloc->JA,callWith->JC,cStatics->JD,backToKw->JE,setEntries->Mv,isInstance->My,importEnds->Mz,denote->MA,cellOf->MB,call_function_tree->MC
open _root_.PySem.Around renaming under_plainId->bh
open _root_.PySem.AutoSeq1 renaming wpAny_loadPart'->aE,sub_list_list->wv
open _root_.PySem.Bind renaming madeHere->ML
open _root_.PySem.Builtin renaming divisionGoesByPylong->sW
open _root_.PySem.Builtin.Builtins renaming bindParams->dD,unionMembers->LQ,nestingLimit->LR
open _root_.PySem.Builtin.Deque renaming size->vV
open _root_.PySem.Builtin.Frozenset renaming addrOf->j5,oneOther->pE,slot0->JL,sizeOf->JM
open _root_.PySem.Builtin.List renaming listExtendWith->dM,listLengthHint->qE,listSameRef->sq,listUpdate->sX,listTouch->tz,listItems->tA
open _root_.PySem.Builtin.Range renaming rangeSize->so
open _root_.PySem.Builtin.Re renaming reNoCollectionInside->qe,reAnswer->xu
open _root_.PySem.Builtin.Slice renaming slicePlaces->gX,sliceAdjust->ky,sliceApplied->qD
open _root_.PySem.Builtin.SmallTypes renaming iterAll->oN,refuseKeywords->Jt,newRecord->Ju,newClass->Jv
open _root_.PySem.Builtin.Str renaming tooLong->wu
open _root_.PySem.Builtin.Tuple renaming tupleExact->ib
open _root_.PySem.Calls renaming spliced_cons->fG,spliced_nil->hO,evalArgs_plain->kt,callWith_builtin->y6
open _root_.PySem.Code renaming quiet_builtin->rC
open _root_.PySem.Expr renaming ListComp->MJ
open _root_.PySem.F renaming plain_max_loop->cr,plain_min_loop->gK,entry_max_loop->i9,plain_extend_loop->jg,slot_bool_hash->jk,args_tuple_add_2->l6,entry_tuple_add->mq,slot_tuple_add->mS,plainAttrs_str->mT,slot_set_iter->nv,slot_tuple_getitem->tW,entry_min_loop->vU,plainAttrs_list->wo,args_str_join_2->wp,slot_str_split->xo,args_set_add_2->xr,slot_str_join->yM,entry_set_add->yN,slot_set_add->yW,slot_list_lt->yX,called_tuple->y5,entry_extend_loop->Js,plain_tuple_new->LN,plain_list_iadd->LP
open _root_.PySem.Heap renaming get?_push_of_some->au,get?_update_other->aD,get?_push_size->aU,get?_update_self->cz,lt_size->c7,size_push->iB,nsMap->nP,get?_none_of_le->pL,SameBut->sm,ExtBut->CW
open _root_.PySem.Heap.SameBut renaming update->jP
open _root_.PySem.Manifest renaming signature?->yZ
open _root_.PySem.MeetsSeq3 renaming plain_eq_loop->cX,entry_eq_loop->iU
open _root_.PySem.NameKind renaming free->d6,cell->pD
open _root_.PySem.Obj renaming mapSeq->bC,mapFields->rB
open _root_.PySem.PyData renaming depthAll->kC,keyHash->oI,canLayAll0->DQ,strOk->LG
open _root_.PySem.SeqAt renaming shaped->rH
open _root_.PySem.SetTable renaming below->FN
open _root_.PySem.Sre renaming M->l5,Seen->sQ
open _root_.PySem.Sre.M renaming admitted->vS,runFor->yV,attemptFrom->FM,mk->JF
open _root_.PySem.Str renaming ofString->em,mk->F6
open _root_.PySem.Txt renaming split->AF
open _root_.PySem.Value renaming bool->dT,str->iF,ref->j2,type->lE,notImplemented->AX
open _root_.PySem.W renaming emptyDict->gQ,findIn->kq,hideAll_get->lC,SharedT->mo,tabObj->mN,instObj->nH,Looks->qv,hideAll->sf,absHeap->sg,kas_rev->vM,kas_descPart->vN,plainGet_of->yJ,lookIn_dict->yK,opening->AD,typeIn->AO,peekA->AS,dictOf->AU,any_some->AW,kas_tail3->FK,kas_place->FL,looks_findIn->F3,stepOk->Mu,namesBound->Mw
open _root_.PySem.W.Fast renaming tw14364793385576792824->nu,tw8920871248978507458->nK,tw5923862056798008813->nL,tw9807087744658564304->wt
open _root_.PySem.W.KasT renaming kasWp_bind->kO
open _root_.PySem.W.Looks renaming of_peek->fB,of_pure->LJ
open _root_.PySem.W.SharedT renaming abs->LF
open _root_.PySem.callAny renaming viaDunder->CL
open _root_.ToString renaming toString->jD
section
namespace Mine
section
set_option genSizeOf false
set_option genInjectivity false
inductive LE where
 | v (i:Nat)
 | n (k:Nat)
 | a (x y:LE)
 | m (k:Nat) (x:LE)
end
noncomputable def LE.d(c:List Nat)(e:LE):Nat:=LE.rec (λi=>c.getD i 0) (λk=>k) (λζ ζ x y=>x+y) (λk ζ x=>k*x) e
noncomputable def LE.co(e:LE)(j:Nat):Nat:=LE.rec (λi=>bif qu j (i+1)then 1 else 0) (λk=>bif qu j 0 then k else 0) (λζ ζ x y=>x+y) (λk ζ x=>k*x) e
noncomputable def lX(c:List Nat)(j:Nat):Nat:=Jl 1 (λj ζ=>c.getD j 0) j
noncomputable def lS(f:Nat->Nat)(n:Nat):Nat:=Jl (f 0) (λn x=>x+f (n+1)) n
noncomputable def lB(f g:Nat->Nat)(n:Nat):Bool:=Jl (mJ (f 0) (g 0)) (λn x=>mJ (f (n+1)) (g (n+1))&&x) n
theorem PU{f g X:Nat->Nat}(n:Nat)(h:lB f g n=true):lS (λj=>f j*X j) n<=lS (λj=>g j*X j) n:=by
 induction n with
 | zero=>exact kF _ (bw h)
 | succ n ih=>
  have h:=(bd _ _).mp h
  exact cq (ih h.2) (kF _ (bw h.1))
theorem HA{X:Nat->Nat}(i n:Nat):lS (λj=>(bif qu j i then 1 else 0)*X j) n=bif mJ i n then X i else 0:=by
 induction n with
 | zero=>cases i with
  | zero=>exact Nat.one_mul _
  | succ i=>exact AY _
 | succ n ih=>
  refine(congrArg (· + (bif qu (n+1) i then 1 else 0)*X (n+1)) ih).trans ?_
  rcases mI i (n+1)with h | h | h
  ·rw [show mJ i n=true from kh (fq h),show mJ i (n+1)=true from kh (bg h),show qu (n+1) i=false from fj.mpr λq=>dU h (CS q).symm]
   exact congrArg _ (AY _)
  ·subst h
   rw [show mJ (n+1) n=false from fj.mpr λq=>Nat.not_succ_le_self n (bw q),show mJ (n+1) (n+1)=true from kh (aF _),show qu (n+1) (n+1)=true from Nat.beq_refl _]
   exact(eo _).trans (Nat.one_mul _)
  ·rw [show mJ i n=false from fj.mpr λq=>eT (Jm h) (bw q),show mJ i (n+1)=false from fj.mpr λq=>eT h (bw q),show qu (n+1) i=false from fj.mpr λq=>dU h (CS q)]
   exact congrArg _ (AY _)
theorem Nm{f g X:Nat->Nat}(n:Nat):lS (λj=>(f j+g j)*X j) n=lS (λj=>f j*X j) n+lS (λj=>g j*X j) n:=by
 induction n with
 | zero=>exact DW _ _ _
 | succ n ih=>exact(congr (congrArg _ ih) (DW _ _ _)).trans (Nat.add_add_add_comm _ _ _ _)
theorem HB{f X:Nat->Nat}(k n:Nat):lS (λj=>(k*f j)*X j) n=k*lS (λj=>f j*X j) n:=by
 induction n with
 | zero=>exact Nat.mul_assoc _ _ _
 | succ n ih=>exact(congr (congrArg _ ih) (Nat.mul_assoc _ _ _)).trans (Nat.mul_add _ _ _).symm
theorem LE.den(c:List Nat)(e:LE):e.d c=lS (λj=>e.co j*lX c j) c.length:=by
 induction e with
 | v i=>
  refine cS ?_ (HA (i+1) c.length).symm
  cases h:mJ (i+1) c.length with
  | true=>rfl
  | false=>exact(db).trans (congrArg (·.getD 0) (hG (b9 λq=>aX (h▸kh q))))
 | n k=>
  show k=_
  refine cS (cS (gb k).symm ?_) (HB (f:=λj=>bif qu j 0 then 1 else 0) (X:=lX c) k c.length).symm |>.trans ?_
  ·rw [HA];rfl
  ·exact congrArg (lS · c.length) (funext λj=>congrArg (· * lX c j) (by cases j with | zero=>exact gb k | succ j=>exact Nat.mul_zero k))
 | a x y ihx ihy=>exact(congr (congrArg _ ihx) ihy).trans (Nm c.length).symm
 | m k x ih=>exact(congrArg _ ih).trans (HB k c.length).symm
structure LH where
 k:Nat
 l:LE
 r:LE
noncomputable def lL(hs:List LH):LE:=LK (.n 0) (λh ζ t=>.a (.m h.k h.l) t) hs
noncomputable def lR(hs:List LH):LE:=LK (.n 0) (λh ζ t=>.a (.m h.k h.r) t) hs
noncomputable def lI(c:List Nat)(G:Prop)(hs:List LH):Prop:=LK G (λh ζ t=>h.l.d c<=h.r.d c->t) hs
theorem PW{c:List Nat}{G:Prop}:∀(hs:List LH),((lL hs).d c<=(lR hs).d c->G)->lI c G hs:=λhs=>by
 induction hs generalizing G with
 | nil=>exact λk=>k (aF _)
 | cons h t ih=>exact λk q=>ih λz=>k (cq (Nat.mul_le_mul_left _ q) z)
theorem dc(c:List Nat)(g:Nat)(hs:List LH)(l r:LE)(ok:lB (LE.co (.a (.m (g+1) l) (lR hs))) (LE.co (.a (.m (g+1) r) (.a (lL hs) (.n g)))) c.length=true):lI c (l.d c<=r.d c) hs:=PW hs λq=>by
 have h:(g+1)*l.d c+(lR hs).d c<=(g+1)*r.d c+((lL hs).d c+g):=by
  have:=PU (X:=lX c) c.length ok
  rw [<-LE.den,<-LE.den]at this
  exact this
 refine fq (Nat.lt_of_mul_lt_mul_left (a:=g+1) ?_)
 rw [Nat.mul_succ]
 refine sT (Nat.le_of_add_le_add_right (b:=(lR hs).d c) (ah h ?_))
 show _+(_+g)<=_+g+_
 exact(g8 _ g _).symm▸qy (ah (kG q g) (az (gS _ g))) _
theorem m2(P:Nat->Prop)(h0:∀k,P (2*k))(h1:∀k,P (2*k+1))(a:Nat):P a:=by
 rcases Nat.mod_two_eq_zero_or_one a with h | h
 ·have:=LI a 2;rw [h]at this;exact this▸h0 (a/2)
 ·have:=LI a 2;rw [h]at this;exact this▸h1 (a/2)
theorem d0(k:Nat):2*k/2=k:=Nat.mul_div_cancel_left k (by decide)
theorem d1(k:Nat):(2*k+1)/2=k:=Nat.mul_add_div (by decide) k 1
theorem tP(a:Nat):((-1)+(a:Int)).toNat=a-1:=(congrArg tZ (Int.add_comm (-1) a)).trans (Int.toNat_sub a 1)
theorem tM(x:Int):x.toNat=(max 0 x).toNat:=(A7 0 x).elim (λh=>congrArg tZ (JK h).symm) λh=>(FV h).trans (congrArg tZ (Int.max_eq_left h).symm)
theorem o0{a b:Nat}:a+(b+1)=a+1+b:=fw (yY a b)
theorem o1{a:Nat}(h0:¬(((63:Nat):Int)<(a:Int))):a<=63:=b9 λq=>h0 (iL.mpr q)
theorem o2{a b:Nat}(h0:a<b):a+1<=b:=Nat.succ_le_of_lt h0
theorem o3{a b:Nat}(h0:a+10*(b+1)<=900):a+10*b<=900:=dc [a,b] 0 [⟨1,.a (.v 0) (.m 10 (.a (.v 1) (.n 1))),.n 900⟩] (.a (.v 0) (.m 10 (.v 1))) (.n 900) (.refl true) h0
theorem o4{a b:Nat}(h0:a+50*(b+1)<=9000):a+1+50*b<=9000:=dc [a,b] 0 [⟨1,.a (.v 0) (.m 50 (.a (.v 1) (.n 1))),.n 9000⟩] (.a (.a (.v 0) (.n 1)) (.m 50 (.v 1))) (.n 9000) (.refl true) h0
theorem o5{a b c:Nat}(h0:a<=b)(h1:c+10*b<=900):c+10*a<=900:=dc [a,b,c] 0 [⟨10,.v 0,.v 1⟩,⟨1,.a (.v 2) (.m 10 (.v 1)),.n 900⟩] (.a (.v 2) (.m 10 (.v 0))) (.n 900) (.refl true) h0 h1
theorem o6{a b c:Nat}(h0:a<=b)(h1:c+50*b<=9000):c+50*a<=9000:=dc [a,b,c] 0 [⟨50,.v 0,.v 1⟩,⟨1,.a (.v 2) (.m 50 (.v 1)),.n 9000⟩] (.a (.v 2) (.m 50 (.v 0))) (.n 9000) (.refl true) h0 h1
theorem o7{a b:Nat}(h0:a<=b):a-b=0:=kg h0
theorem o8{a b:Nat}(h0:a+10*(b+1)<=900):a+1+10*b<=900:=dc [a,b] 0 [⟨1,.a (.v 0) (.m 10 (.a (.v 1) (.n 1))),.n 900⟩] (.a (.a (.v 0) (.n 1)) (.m 10 (.v 1))) (.n 900) (.refl true) h0
theorem o9{a b:Nat}(h0:a+50*(b+1)<=9000):a+3+50*b<=9000:=dc [a,b] 0 [⟨1,.a (.v 0) (.m 50 (.a (.v 1) (.n 1))),.n 9000⟩] (.a (.a (.v 0) (.n 3)) (.m 50 (.v 1))) (.n 9000) (.refl true) h0
theorem UN{a b:Nat}(h0:a+10*(b+2)<=900):a<1000:=dc [a,b] 0 [⟨1,.a (.v 0) (.m 10 (.a (.v 1) (.n 2))),.n 900⟩] (.a (.v 0) (.n 1)) (.n 1000) (.refl true) h0
theorem LW{a b:Nat}(h0:a<=b):a+1<=b+1:=kG h0 1
theorem WI{a b c:Nat}(h0:a<=b)(h1:c<=b):(max a c)<=b:=Nat.max_le_of_le_of_le h0 h1
theorem WH{a b:Nat}(h0:a+50*b<=9000):a+64<9900:=dc [a,b] 0 [⟨1,.a (.v 0) (.m 50 (.v 1)),.n 9000⟩] (.a (.a (.v 0) (.n 64)) (.n 1)) (.n 9900) (.refl true) h0
theorem WG{a b:Nat}{c:Int}(h0:a<=b)(h1:(b:Int)<c):(a:Int)<c:=Gi (iM.mpr h0) h1
theorem Ub{a:Nat}{b:Int}(h0:(a:Int)<b):¬((a:Int)≥b):=Int.not_le.mpr h0
theorem WF{a b c d:Nat}(h0:a<=6)(h1:b+64<c):b+1+(yU a d)<c:=dc [a,b,c,yU a d] 0 [⟨1,.v 0,.n 6⟩,⟨1,.a (.a (.v 1) (.n 64)) (.n 1),.v 2⟩,⟨1,.v 3,.v 0⟩] (.a (.a (.a (.v 1) (.n 1)) (.v 3)) (.n 1)) (.v 2) (.refl true) h0 h1 (kW a d)
theorem Vv{a:Nat}(h0:a<=1000000):(a:Int)<=1000000:=Nat.ToInt.of_le rfl rfl h0
theorem Vu{b:Nat}{a:Int}(h0:0<=a+(b:Int)):(-(b:Int))<=a:=Int.add_nonneg_iff_neg_le.mp h0
theorem WE{a:Int}(h0:0<=a):¬(a<0):=Int.not_lt_of_ge h0
theorem WD{b:Nat}{a:Int}(h0:0<=a+(b:Int))(h1:a<0):0<=a+(b:Int)/\a+(b:Int)<(b:Int):=⟨h0,Gh (DZ h1 b) (Int.le_of_eq (Int.zero_add b))⟩
theorem Vt{b:Nat}{a:Int}:(a+(b:Int)).toNat=(max 0 (a+(b:Int))).toNat:=tM _
theorem Vs{a:Nat}{b:Int}(h0:(a:Int)<=b):a<=b.toNat:=iM.mp (iN h0 (Jr b))
theorem WC{a b:Nat}{c:Int}(h0:a<=b)(h1:(b:Int)<=c):a<=c.toNat:=ah h0 (iM.mp (iN h1 (Jr c)))
theorem WB{a b:Nat}:(yU a b)<=b:=nw a b
theorem WA{a b c:Nat}:(yU (a-b) (c-b))<=c:=ah (nw _ _) (fu _ _)
theorem Wz{a b:Nat}:((a:Int)-(b:Int)-1+1).toNat=a-b:=(congrArg tZ (Int.sub_add_cancel _ _)).trans (Int.toNat_sub a b)
theorem Wy{a b:Nat}:((a:Int)+(b:Int)*1).toNat=a+b:=congrArg (λx=>((a:Int)+x).toNat) (Int.mul_one _)
theorem Wx{a b c:Nat}(h0:a-b=c)(h1:a<=c)(h2:b<=c):b=0:=A1 (Nat.le_of_add_le_add_left (a:=a) (ah (kG h1 b) (h0▸az (bO (ah h2 (h0▸fu a b))))))
theorem Ww{a b c:Nat}(h0:a-b=c):c<=a-0:=h0▸fu a b
theorem Oh{a b:Nat}(h0:a<=b):a<=b+1:=Nat.le_add_right_of_le h0
theorem Wv{a b:Nat}(h0:a<=b):a-1<=b:=ah (fu a 1) h0
theorem Vr{a b:Nat}(h0:a<=b+1):a+1<=b+1+1:=LW h0
theorem Vq{a b:Nat}(h0:a<900)(h1:b<=a+1):b<=900:=ah h1 h0
theorem Vp{a b:Nat}{c:Int}(h0:a<b)(h1:b=c.toNat):a<c.toNat:=F7 h0 h1
theorem Wu{a:Nat}{b:Int}(h0:a<b.toNat):0<((b.toNat:Nat):Int)-(a:Int):=Int.sub_pos_of_lt (iL.mpr h0)
theorem Wt{a:Nat}:((a+1:Nat):Int)=(a:Int)+1:=Nat.ToInt.add_congr rfl rfl
theorem Ws{b:Nat}{a:Int}:((a.toNat:Nat):Int)-((b+1:Nat):Int)=((a.toNat:Nat):Int)-(b:Int)-1:=(Int.sub_sub (a.toNat:Int) (b:Int) 1).symm
theorem Wr{b:Nat}{a:Int}(h0:a.toNat<=b):((a.toNat:Nat):Int)-(b:Int)<=0:=by lia
theorem Wq{a b:Nat}(h0:¬(a<256))(h1:b<256):a≠b:=λq=>h0 (q.symm▸h1)
theorem Wp{a b:Nat}(h0:¬(a<256))(h1:b<256):¬(a<=b):=λq=>h0 (bq q h1)
theorem Wo{a:Nat}:7+a/32=6+(1+a/32):=by lia
theorem Wn{a b c:Nat}(h0:a=b)(h1:c≥a):b<=c:=le_of_eq_of_le h0.symm h1
theorem Wm{a b c:Nat}(h0:a=b)(h1:¬(c≥a)):c<b:=h0▸d5 h1
theorem Wl{a b c:Nat}(h0:a+1-b<=c+1):a+1-(b+1)<=c:=by rw [<-DS];exact pY h0
theorem Wk{a b:Nat}(h0:a<b):¬(a≥b):=eT h0
theorem Wj{a:Nat}(h0:a<=1000000):(yU 9223372036854775807 a)=a:=Nat.min_eq_right (ah h0 (by decide))
theorem Wi{a b c d:Nat}(h0:a+(b+1)<=c)(h1:d=a):d+1<=c:=h1.symm▸ah (cT (dz a b)) h0
theorem Wh{a b:Nat}(h0:a+50*(b+1)<=9000):a+1+1+1+1+50*b<=9000:=dc [a,b] 0 [⟨1,.a (.v 0) (.m 50 (.a (.v 1) (.n 1))),.n 9000⟩] (.a (.a (.a (.a (.a (.v 0) (.n 1)) (.n 1)) (.n 1)) (.n 1)) (.m 50 (.v 1))) (.n 9000) (.refl true) h0
theorem Wg{a b c:Nat}(h0:a+2<=b)(h1:c+10*(b+1)<=900):c+10*(a+2)<=900:=dc [a,b,c] 0 [⟨10,.a (.v 0) (.n 2),.v 1⟩,⟨1,.a (.v 2) (.m 10 (.a (.v 1) (.n 1))),.n 900⟩] (.a (.v 2) (.m 10 (.a (.v 0) (.n 2)))) (.n 900) (.refl true) h0 h1
theorem Wf{a b c:Nat}(h0:a+2<=b)(h1:c+50*(b+1)<=9000):c+1+1+50*(a+2)<=9000:=dc [a,b,c] 0 [⟨50,.a (.v 0) (.n 2),.v 1⟩,⟨1,.a (.v 2) (.m 50 (.a (.v 1) (.n 1))),.n 9000⟩] (.a (.a (.a (.v 2) (.n 1)) (.n 1)) (.m 50 (.a (.v 0) (.n 2)))) (.n 9000) (.refl true) h0 h1
theorem We{a:Nat}:a<=a+2:=by lia
theorem Wd{a b:Nat}(h0:a+2<=b):a+3<=b+1:=LW h0
theorem Wc{a b:Nat}(h0:a≥b):¬(a<b):=dF.mpr h0
theorem Wb{a b:Nat}(h0:a<=b):¬(a>b):=kr h0
theorem Wa{a b:Nat}(h0:a<b):¬(b<a):=Nat.not_lt_of_gt h0
theorem Vo{a b:Nat}(h0:a-b=0)(h1:b<=a):b=a:=bX h1 (Nat.le_of_sub_eq_zero h0)
theorem Q2{a b c:Nat}(h0:a-b=c+1):b<a:=CO h0
theorem Vn{a b c:Nat}(h0:a-b=c+1):a-(b+1)=c:=by rw [<-DS,h0];rfl
theorem OM{a b:Nat}(h0:a<=b)(h1:a≥b):a=b:=bX h0 h1
theorem Vm{a b:Nat}(h0:a<b):a<b:=by omega
theorem V9{a b:Nat}(h0:a+50*b<=9000):a<9900:=dc [a,b] 0 [⟨1,.a (.v 0) (.m 50 (.v 1)),.n 9000⟩] (.a (.v 0) (.n 1)) (.n 9900) (.refl true) h0
theorem Vl{a:Nat}:a+1<=a+2:=di (a+1)
theorem V8{a b:Nat}(h0:(a:Int)>(b:Int)):b<a:=iL.mp h0
theorem V7{a b:Nat}(h0:¬((a:Int)>(b:Int))):¬(b<a):=λq=>h0 (iL.mpr q)
theorem V6{a:Nat}(h0:2<=a):0+2<=a+1:=Oh h0
theorem Q1{a b:Nat}:a<=a+(b+1):=dz a (b+1)
theorem OL{a:Nat}:1<=a+1:=by lia
theorem QJ{a b c:Nat}(h0:a+(b+1)<=c):a+1+b<=c:=dc [a,b,c] 0 [⟨1,.a (.v 0) (.a (.v 1) (.n 1)),.v 2⟩] (.a (.a (.v 0) (.n 1)) (.v 1)) (.v 2) (.refl true) h0
theorem QI{a b:Nat}(h0:a+1<=b):a<=b:=sU h0
theorem QH{a b c:Nat}(h0:a<=b+1+c):a<=b+(c+1):=dc [a,b,c] 0 [⟨1,.v 0,.a (.a (.v 1) (.n 1)) (.v 2)⟩] (.v 0) (.a (.v 1) (.a (.v 2) (.n 1))) (.refl true) h0
theorem V5{a b c:Nat}(h0:a<b+(c+1)):a<b+1+c:=dc [a,b,c] 0 [⟨1,.a (.v 0) (.n 1),.a (.v 1) (.a (.v 2) (.n 1))⟩] (.a (.v 0) (.n 1)) (.a (.a (.v 1) (.n 1)) (.v 2)) (.refl true) h0
theorem QG{a b:Nat}(h0:a<b+1)(h1:a≥b):a=b:=Nat.eq_of_le_of_lt_succ h1 h0
theorem Q0{a b:Nat}(h0:a<b):a<=b-1:=qa h0
theorem QZ{a b:Nat}(h0:a<b):b-1<b:=Nat.sub_one_lt_of_lt h0
theorem QY{a b:Nat}(h0:¬(a<b)):b<=a:=b9 h0
theorem V4{a b:Nat}:2*((a-b)/2)<=a-b:=dO (a-b) 2
theorem w3{a b c m:Nat}(h:m<=c-a)(p:a<=b)(q:b<a+m):b<c:=d5 λw=>eZ _ (bq (ah h (pX w a)) (Nat.sub_lt_left_of_lt_add p q))
theorem w4{a b c m:Nat}(h:m<=c-a)(p:c-m<=b)(q:b<c):a<=b:=by
 rcases Nat.le_total a c with e | e
 ·exact ah (DU (gS a m▸(Nat.le_sub_iff_add_le e).mp h)) p
 ·rw [kg e]at h
  rw [A1 h]at p
  exact absurd q (dF.mpr p)
theorem V3{a b c:Nat}(h0:a<=b/\b<a+(c-a)/2\/c-(c-a)/2<=b/\b<c):a<=b/\b<c:=h0.elim (λh=>⟨h.1,w3 (kX _ 2) h.1 h.2⟩) λh=>⟨w4 (kX _ 2) h.1 h.2,h.2⟩
theorem w6{a b c m:Nat}(h:c<2*(m+1)+a)(h1:a+m<=b)(h2:b+m<c):b=a+m/\c=a+m+m+1:=⟨bX (dc [c,m,a,b] 0 [⟨1,.a (.v 0) (.n 1),.a (.m 2 (.a (.v 1) (.n 1))) (.v 2)⟩,⟨1,.a (.a (.v 3) (.v 1)) (.n 1),.v 0⟩] (.v 3) (.a (.v 2) (.v 1)) (.refl true) h h2) (dc [m,a,b] 0 [⟨1,.a (.v 1) (.v 0),.v 2⟩] (.a (.v 1) (.v 0)) (.v 2) (.refl true) h1),bX (dc [c,m,a] 0 [⟨1,.a (.v 0) (.n 1),.a (.m 2 (.a (.v 1) (.n 1))) (.v 2)⟩] (.v 0) (.a (.a (.a (.v 2) (.v 1)) (.v 1)) (.n 1)) (.refl true) h) (dc [c,m,a,b] 0 [⟨1,.a (.v 2) (.v 1),.v 3⟩,⟨1,.a (.a (.v 3) (.v 1)) (.n 1),.v 0⟩] (.a (.a (.a (.v 2) (.v 1)) (.v 1)) (.n 1)) (.v 0) (.refl true) h1 h2)⟩
theorem WK{a b c:Nat}(h:a-b<c):a<c+b:=bq (dj (aF _)) (Nat.add_lt_add_right h b)
theorem w2{a b c m:Nat}(h:c-a<2*(m+1))(h1:a+m<=b)(h2:b<c-m):a+c-1-b=b:=by
 obtain⟨rfl,rfl⟩:=w6 (WK h) h1 (Nat.add_lt_of_lt_sub h2)
 show a+(a+m+m)-(a+m)=a+m
 rw [show a+(a+m+m)=a+m+(a+m) by rw [Nat.add_right_comm a m m,Nat.add_left_comm,g8],F8]
theorem V2{a b c:Nat}(h0:¬(a<=b/\b<a+(c-a)/2\/c-(c-a)/2<=b/\b<c))(h1:a<=b/\b<c):a+c-1-b=b:=w2 (gA (c-a) (by decide)) (b9 λq=>h0 (.inl ⟨h1.1,q⟩)) (d5 λq=>h0 (.inr ⟨q,h1.2⟩))
theorem V1{a b c:Nat}(h0:a<=b/\b<c):a<=a+c-1-b:=DU (Nat.le_pred_of_lt (Nat.add_lt_add_left h0.2 a))
theorem V0{a b c:Nat}(h0:a<=b/\b<c):a+c-1-b<c:=by
 refine bq (FP h0.1 _) ?_
 rw [Nat.sub_right_comm,Nat.add_sub_cancel_left]
 exact pW (gR (bq (bp b) h0.2))
theorem VZ{a b c:Nat}(h0:a<=b)(h1:b<c):0<=a/\a<c:=⟨bp a,bq h0 h1⟩
theorem VY{a b:Nat}(h0:a<b):0<=a/\a<b:=if_false_right.mp h0
theorem VX{a b c:Nat}(h0:a<=b):0+c-1-b<=0+c-1-a:=FP h0 (0+c-1)
theorem VW{a b c:Nat}(h0:a<b):0+b-1-c<b:=by
 refine bq (fu _ _) ?_
 rw [eo]
 exact pW (gR (bq (bp a) h0))
theorem VU{a b c:Nat}(h0:a+(b+1)<=c):a<=c:=A0 h0
theorem QX{a:Nat}:0+1<=a+1:=gZ (0+1) a
theorem QW{a b:Nat}(h0:a+1-(0+1)<=b)(h1:b<a+1):b=a+1-1:=QG h1 h0
theorem VT{a b:Nat}(h0:a+1<=b):a+1+1<=b+1:=LW h0
theorem VR{a b c:Nat}(h0:a+1-(b+1+1)<=c):a-(b+1)<=c:=ah (az (Nat.add_sub_add_right a 1 (b+1)).symm) h0
theorem Vk{a b:Nat}(h0:¬(a<b))(h1:¬(b<a)):b=a:=bX (b9 h0) (b9 h1)
theorem QV{a b:Nat}(h0:a<=b):a+(b-a)<=b:=dc [a,b,(b-a)] 0 [⟨1,.a (.v 2) (.v 0),.v 1⟩] (.a (.v 0) (.v 2)) (.v 1) (.refl true) (az (bO (dc [a,b] 0 [⟨1,.v 0,.v 1⟩] (.v 0) (.v 1) (.refl true) h0)))
theorem VQ{a b:Nat}(h0:1<=a)(h1:a<=b):1<=b:=ah h0 h1
theorem Vj{a b c:Nat}(h0:a<=b)(h1:c<=a+(b-a)):c<=b:=dc [a,b,c,(b-a)] 0 [⟨1,.v 2,.a (.v 0) (.v 3)⟩,⟨1,.a (.v 3) (.v 0),.v 1⟩] (.v 2) (.v 1) (.refl true) h1 (az (bO (dc [a,b] 0 [⟨1,.v 0,.v 1⟩] (.v 0) (.v 1) (.refl true) h0)))
theorem VO{a b:Nat}(h0:a+1<=b):a+1+(b-(a+1))<=b:=QV h0
theorem QU{a b c:Nat}(h0:a+1<=b)(h1:c<=a+1+(b-(a+1))):c<=b:=Vj h0 h1
theorem Vi{a b:Nat}(h0:a+1<=b):1<=b:=Nat.one_le_of_lt h0
theorem VN{a:Nat}(h0:0<a):1+(a-1)<=a:=QV h0
theorem UM{a b:Nat}(h0:a<=b)(h1:b<1):a=b:=bX (dc [a,b] 0 [⟨1,.v 0,.v 1⟩] (.v 0) (.v 1) (.refl true) h0) (dc [a,b] 0 [⟨1,.a (.v 1) (.n 1),.n 1⟩] (.v 1) (.v 0) (.refl true) h1)
theorem Na{a b:Nat}(h0:a=b):a<=b:=az h0
theorem UL{a b:Nat}(h0:0<a)(h1:b<=1+(a-1))(h2:¬(b=a)):b<1+(a-1):=l8 h1 λq=>h2 (q.trans ((gS _ _).trans (bO h0)))
theorem Py{a b:Nat}(h0:a<=1+(b-1))(h1:a>1):a<=b:=dc [a,(b-1),b] 0 [⟨1,.v 0,.a (.n 1) (.v 1)⟩,⟨1,.a (.v 1) (.n 1),.v 2⟩] (.v 0) (.v 2) (.refl true) h0 (az (bO (dc [a,(b-1),b] 0 [⟨1,.v 0,.a (.n 1) (.v 1)⟩,⟨1,.a (.n 1) (.n 1),.v 0⟩,⟨1,.v 1,.v 2⟩] (.n 1) (.v 2) (.refl true) h0 h1 (fu _ _))))
theorem UK{a b c:Nat}(h0:¬(a<b))(h1:a<=c)(h2:c<=b):c=b:=bX h2 (ah (b9 h0) h1)
theorem UJ{a b:Nat}(h0:a<=1+(b-1))(h1:¬(a=b))(h2:a>1):a+1<=b:=match b,h0,h1 with | 0,h0,_=>absurd h0 (eT h2) | b+1,h0,h1=>l8 (ah h0 (az (gS 1 b))) h1
theorem UI{a b c:Nat}(h0:a<=b)(h1:b<c):a<c:=bq h0 h1
theorem UH{a b:Nat}(h0:0<a)(h1:¬(b=a))(h2:¬(b>1)):b+1<=a:=l8 (ah (b9 h2) h0) h1
theorem UG{a b c:Nat}(h0:¬(a>1))(h1:b<=c)(h2:c<a):b=c:=bX (dc [b,c] 0 [⟨1,.v 0,.v 1⟩] (.v 0) (.v 1) (.refl true) h1) (dc [a,b,c] 0 [⟨1,.v 0,.n 1⟩,⟨1,.a (.v 2) (.n 1),.v 0⟩] (.v 2) (.v 1) (.refl true) (b9 h0) h2)
theorem UF{a b:Nat}(h0:a<=b)(h1:b-a<=0):a=b:=bX (dc [a,b,(b-a)] 0 [⟨1,.a (.v 2) (.v 0),.v 1⟩] (.v 0) (.v 1) (.refl true) (az (bO (dc [a,b] 0 [⟨1,.v 0,.v 1⟩] (.v 0) (.v 1) (.refl true) h0)))) (dc [a,b,(b-a)] 0 [⟨1,.v 2,.n 0⟩,⟨1,.v 1,.a (.v 2) (.v 0)⟩] (.v 1) (.v 0) (.refl true) h1 (dj (aF _)))
theorem UE{a b:Nat}(h0:¬(a≥b)):a<=(a+b)/2:=dc [a,b,((a+b)/2)] 1 [⟨1,.a (.v 0) (.n 1),.v 1⟩,⟨1,.a (.a (.v 0) (.v 1)) (.n 1),.m 2 (.a (.v 2) (.n 1))⟩] (.v 0) (.v 2) (.refl true) (d5 h0) (gA _ (by decide))
theorem UD{a b c:Nat}(h0:a<=b)(h1:¬(c≥a)):(c+a)/2<=b:=dc [a,b,c,((c+a)/2)] 1 [⟨2,.v 0,.v 1⟩,⟨1,.a (.v 2) (.n 1),.v 0⟩,⟨1,.m 2 (.v 3),.a (.v 2) (.v 0)⟩] (.v 3) (.v 1) (.refl true) h0 (d5 h1) (dO _ 2)
theorem UC{a b c:Nat}(h0:a-b<=c+1):(b+a)/2-b<=c:=pY (fq (Nat.div_lt_of_lt_mul (dc [a-b,a,b,c] 0 [⟨1,.v 0,.a (.v 3) (.n 1)⟩,⟨1,.v 1,.a (.v 0) (.v 2)⟩] (.a (.a (.v 2) (.v 1)) (.n 1)) (.m 2 (.a (.a (.v 3) (.v 2)) (.n 1))) (.refl true) h0 (dj (aF _)))))
theorem UB{a b:Nat}(h0:¬(a≥b)):(a+b)/2+1<=b:=dc [a,b,((a+b)/2)] 1 [⟨1,.a (.v 0) (.n 1),.v 1⟩,⟨1,.m 2 (.v 2),.a (.v 0) (.v 1)⟩] (.a (.v 2) (.n 1)) (.v 1) (.refl true) (d5 h0) (dO _ 2)
theorem w5{a b c m:Nat}(h:b+a<2*(m+1))(h0:a-b<=c+1):a<=c+(m+1):=dc [b,a,m,(a-b),c] 1 [⟨1,.a (.a (.v 0) (.v 1)) (.n 1),.m 2 (.a (.v 2) (.n 1))⟩,⟨1,.v 3,.a (.v 4) (.n 1)⟩,⟨1,.v 1,.a (.v 3) (.v 0)⟩] (.v 1) (.a (.v 4) (.a (.v 2) (.n 1))) (.refl true) h h0 (dj (aF _))
theorem UA{a b c:Nat}(h0:a-b<=c+1):a-((b+a)/2+1)<=c:=pY (w5 (gA (b+a) (by decide)) h0)
theorem Uz{a b c:Nat}(h0:a<(b+c)/2+1):a<=(b+c)/2:=fq h0
theorem Uy{a b c:Nat}(h0:a<=b)(h1:¬(c≥a)):(c+a)/2<b:=dc [a,b,c,((c+a)/2)] 1 [⟨2,.v 0,.v 1⟩,⟨1,.a (.v 2) (.n 1),.v 0⟩,⟨1,.m 2 (.v 3),.a (.v 2) (.v 0)⟩] (.a (.v 3) (.n 1)) (.v 1) (.refl true) h0 (d5 h1) (dO _ 2)
theorem Ux{a b:Nat}(h0:0+a=b):a=b:=by lia
theorem Uw{a:Nat}:a-0<=a:=Na rfl
theorem Px{a b:Nat}(h0:a<=b):¬(b<a):=by lia
theorem Uv{a b c:Nat}(h0:a+1+b=c):b<c:=dc [a,b,c] 0 [⟨1,.a (.a (.v 0) (.n 1)) (.v 1),.v 2⟩] (.a (.v 1) (.n 1)) (.v 2) (.refl true) (az h0)
theorem Uu{a b:Nat}:a-b<=a:=fu a b
theorem Ut{a b:Nat}(h0:a<=b):b-(b-a)=a:=Nat.sub_sub_self h0
theorem Pw{a b c:Nat}(h0:a+1+b=c):a+(b+1)=c:=(yY a b).symm.trans h0
theorem Us{a:Nat}(h0:1<=a):(max a 1)=a:=Nat.max_eq_left h0
theorem Ur{a:Nat}:0+1<=a+1+1:=by lia
theorem Uq{a b:Nat}(h0:a+1<=b+1):a+1<=b+1+1:=Oh h0
theorem Pu{a b:Nat}(h0:a<=b):a+0<b+1:=sT h0
theorem Up{a b:Nat}(h0:a<b):a+1<b+1:=Pu h0
theorem M9{a b c:Nat}(h0:a=b)(h1:c<a):c<b:=F7 h1 h0
theorem Pt{a b c:Nat}(h0:a=b)(h1:c<a):0<b:=dc [a,b,c] 0 [⟨1,.v 0,.v 1⟩,⟨1,.a (.v 2) (.n 1),.v 0⟩] (.a (.n 0) (.n 1)) (.v 1) (.refl true) (az h0) h1
theorem Uo{a b:Nat}(h0:a<b):0<b:=Pt rfl h0
theorem Un{a b c:Nat}(h0:a+(b+1)<64)(h1:c=a):c<=16777216:=dc [a,b,c] 0 [⟨1,.a (.a (.v 0) (.a (.v 1) (.n 1))) (.n 1),.n 64⟩,⟨1,.v 2,.v 0⟩] (.v 2) (.n 16777216) (.refl true) h0 (az h1)
theorem Um{a b c:Nat}(h0:a+(b+1)<64)(h1:c=a):c+1<=16777216+1:=dc [a,b,c] 0 [⟨1,.a (.a (.v 0) (.a (.v 1) (.n 1))) (.n 1),.n 64⟩,⟨1,.v 2,.v 0⟩] (.a (.v 2) (.n 1)) (.a (.n 16777216) (.n 1)) (.refl true) h0 (az h1)
theorem Ul{a b:Nat}(h0:a+(b+1)<64):a+1+b<64:=dc [a,b] 0 [⟨1,.a (.a (.v 0) (.a (.v 1) (.n 1))) (.n 1),.n 64⟩] (.a (.a (.a (.v 0) (.n 1)) (.v 1)) (.n 1)) (.n 64) (.refl true) h0
theorem Uk{a:Nat}(h0:a<64):a<=16777216:=ah (bg h0) (by decide)
theorem Uj{a:Nat}(h0:a<64):a<=16777216+1:=ah (bg h0) (by decide)
theorem Ui{a b:Nat}(h0:a=b)(h1:2<=b):¬(a<2):=kr (h0.symm▸h1)
theorem Ps{a b:Nat}(h0:a=b)(h1:2<=b):2<=a:=le_of_le_of_eq h1 h0.symm
theorem Pr{a b c:Nat}(h0:a=b)(h1:c=b):c=a:=by grind
theorem M8{a b:Nat}(h0:a<64)(h1:b=a):b<64:=h1.symm▸h0
theorem Uh{a b:Nat}(h0:a=b)(h1:¬(2<=b)):a<2:=h0.symm▸d5 h1
theorem Pq{a b:Nat}(h0:a=b)(h1:¬(2<=b)):a<64:=bR (h0.symm▸d5 h1) (by decide:2<64)
theorem Kp{a b:Nat}(h0:a<64)(h1:b=a):b<=16777216:=h1.symm▸ah (bg h0) (by decide)
theorem Ug{a:Nat}(h0:3<=a):0+3<=a+1:=Oh h0
theorem Uf{a:Nat}(h0:3<=a):0+2+1+1<=a+1:=LW h0
theorem Ue:¬(1>1):=by lia
theorem Ud{a:Nat}(h0:a<2):a<30:=bR h0 (by decide)
theorem Pp{a b c:Nat}(h0:a+(b+c)<100000):a+b<100000:=dc [a,b,c] 0 [⟨1,.a (.a (.v 0) (.a (.v 1) (.v 2))) (.n 1),.n 100000⟩] (.a (.a (.v 0) (.v 1)) (.n 1)) (.n 100000) (.refl true) h0
theorem Uc{a:Int}(h0:99<a.natAbs):((a.natAbs:Nat):Int)>99:=Gg h0
theorem Ua{a:Int}(h0:¬(99<a.natAbs)):¬(((a.natAbs:Nat):Int)>99):=λq=>h0 (iL.mp q)
theorem T9{a:Nat}(h0:0+1+a<100000):a+1<=100000:=CR h0
theorem T8{a b:Nat}(h0:a+1+b<100000):b+1<=100000:=CR h0
theorem T7{a b:Nat}(h0:a+b<100000):a+(b+1)<=100001:=Oh h0
theorem T6{a b:Nat}:a<=a+0+b:=dz a b
theorem T5{a b c d e f:Nat}(h0:a<=b+c+(d+1*e)):f+e+a<=f+(b+c)+(d+1*e+1*e):=dc [a,b,c,d,e,f] 0 [⟨1,.v 0,.a (.a (.v 1) (.v 2)) (.a (.v 3) (.m 1 (.v 4)))⟩] (.a (.a (.v 5) (.v 4)) (.v 0)) (.a (.a (.v 5) (.a (.v 1) (.v 2))) (.a (.a (.v 3) (.m 1 (.v 4))) (.m 1 (.v 4)))) (.refl true) h0
theorem T4{a b c:Nat}:a+b+(c+1)=a+1+(b+c):=by lia
theorem Po{a b c:Nat}:a+1+(b+c)=a+1+b+c:=fw (g8 (a+1) b c)
theorem T3{a:Nat}:0+1+(a+1)=a+1+1:=gS (0+1) (a+1)
theorem T2{a b c:Nat}(h0:a+1+b=c+1):a+1+1+b=c+1+1:=bX (dc [a,b,c] 0 [⟨1,.a (.a (.v 0) (.n 1)) (.v 1),.a (.v 2) (.n 1)⟩] (.a (.a (.a (.v 0) (.n 1)) (.n 1)) (.v 1)) (.a (.a (.v 2) (.n 1)) (.n 1)) (.refl true) (az h0)) (dc [a,b,c] 0 [⟨1,.a (.v 2) (.n 1),.a (.a (.v 0) (.n 1)) (.v 1)⟩] (.a (.a (.v 2) (.n 1)) (.n 1)) (.a (.a (.a (.v 0) (.n 1)) (.n 1)) (.v 1)) (.refl true) (az h0.symm))
theorem Pn{a b:Nat}:a<=b+a:=gZ a b
theorem T1{a:Nat}:0<=(-1)+((a+(0+1):Nat):Int):=Int.add_le_add_left (a:=1) (iM.mpr (gZ 1 a)) (-1)
theorem T0{a:Nat}:((-1)+((a+(0+1):Nat):Int)).toNat=a:=tP (a+(0+1))
theorem TZ{a b c:Nat}(h0:a+(0+1+b)<=c+1):a+b<=c+1:=dc [a,b,c] 0 [⟨1,.a (.v 0) (.a (.a (.n 0) (.n 1)) (.v 1)),.a (.v 2) (.n 1)⟩] (.a (.v 0) (.v 1)) (.a (.v 2) (.n 1)) (.refl true) h0
theorem TY{a b c:Nat}(h0:a+(0+1+1+b)<=c+1):a+b<=c+1:=dc [a,b,c] 0 [⟨1,.a (.v 0) (.a (.a (.a (.n 0) (.n 1)) (.n 1)) (.v 1)),.a (.v 2) (.n 1)⟩] (.a (.v 0) (.v 1)) (.a (.v 2) (.n 1)) (.refl true) h0
theorem TX{a b c:Nat}(h0:a+(0+1+1+1+b)<=c+1):a+b<=c+1:=dc [a,b,c] 0 [⟨1,.a (.v 0) (.a (.a (.a (.a (.n 0) (.n 1)) (.n 1)) (.n 1)) (.v 1)),.a (.v 2) (.n 1)⟩] (.a (.v 0) (.v 1)) (.a (.v 2) (.n 1)) (.refl true) h0
theorem TV{a b c d:Nat}(h0:a+b+(0+1+1+1+c)<=d+1):a+c<=d+1:=dc [a,b,c,d] 0 [⟨1,.a (.a (.v 0) (.v 1)) (.a (.a (.a (.a (.n 0) (.n 1)) (.n 1)) (.n 1)) (.v 2)),.a (.v 3) (.n 1)⟩] (.a (.v 0) (.v 2)) (.a (.v 3) (.n 1)) (.refl true) h0
theorem TU{a b c d e f:Nat}(h0:a<=300000)(h1:b+(c+1+d)<=a+1)(h2:e<=b)(h3:f=1000000):e<f:=dc [a,b,c,d,e,f] 0 [⟨1,.v 0,.n 300000⟩,⟨1,.a (.v 1) (.a (.a (.v 2) (.n 1)) (.v 3)),.a (.v 0) (.n 1)⟩,⟨1,.v 4,.v 1⟩,⟨1,.n 1000000,.v 5⟩] (.a (.v 4) (.n 1)) (.v 5) (.refl true) h0 h1 h2 (az h3.symm)
theorem TS{a b c d e:Nat}(h0:a+(b+1+c)<=d+1)(h1:e=0):a+(b+1+e)+c<=d+1:=dc [a,b,c,d,e] 0 [⟨1,.a (.v 0) (.a (.a (.v 1) (.n 1)) (.v 2)),.a (.v 3) (.n 1)⟩,⟨1,.v 4,.n 0⟩] (.a (.a (.v 0) (.a (.a (.v 1) (.n 1)) (.v 4))) (.v 2)) (.a (.v 3) (.n 1)) (.refl true) h0 (az h1)
theorem TQ{a b c:Nat}(h0:a+b<=c+1):a<=c+1:=A0 h0
theorem TP{a b c d:Nat}(h0:a<=300000)(h1:b+c<=a+1)(h2:d=1000000):b+c<=d:=dc [a,b,c,d] 0 [⟨1,.v 0,.n 300000⟩,⟨1,.a (.v 1) (.v 2),.a (.v 0) (.n 1)⟩,⟨1,.n 1000000,.v 3⟩] (.a (.v 1) (.v 2)) (.v 3) (.refl true) h0 h1 (az h2.symm)
theorem TO{a b c d e:Nat}(h0:a<=300000)(h1:b+c<=a+1)(h2:d<=b+c)(h3:e=1000000):d+1<=e:=dc [a,b,c,d,e] 0 [⟨1,.v 0,.n 300000⟩,⟨1,.a (.v 1) (.v 2),.a (.v 0) (.n 1)⟩,⟨1,.v 3,.a (.v 1) (.v 2)⟩,⟨1,.n 1000000,.v 4⟩] (.a (.v 3) (.n 1)) (.v 4) (.refl true) h0 h1 h2 (az h3.symm)
theorem TN{a b c:Nat}(h0:a<=100000)(h1:b<=5*a)(h2:c=1000000):1+b<=c:=dc [a,b,c] 0 [⟨5,.v 0,.n 100000⟩,⟨1,.v 1,.m 5 (.v 0)⟩,⟨1,.n 1000000,.v 2⟩] (.a (.n 1) (.v 1)) (.v 2) (.refl true) h0 h1 (az h2.symm)
theorem TM{a b c:Nat}(h0:a<=100000)(h1:b<=5*a)(h2:c=1000000):1+b+1<=c:=dc [a,b,c] 0 [⟨5,.v 0,.n 100000⟩,⟨1,.v 1,.m 5 (.v 0)⟩,⟨1,.n 1000000,.v 2⟩] (.a (.a (.n 1) (.v 1)) (.n 1)) (.v 2) (.refl true) h0 h1 (az h2.symm)
theorem TL{a:Nat}:((-1)+(a:Int)).toNat=a-1:=tP a
theorem TK{a b c d:Nat}(h0:a+b<=100000)(h1:c<=b+1)(h2:d=1000000):c<=d:=dc [a,b,c,d] 0 [⟨1,.a (.v 0) (.v 1),.n 100000⟩,⟨1,.v 2,.a (.v 1) (.n 1)⟩,⟨1,.n 1000000,.v 3⟩] (.v 2) (.v 3) (.refl true) h0 h1 (az h2.symm)
theorem TJ{a b c:Nat}(h0:a+(b+1)<=200000)(h1:c<=a+1):c+b<=200000:=dc [a,b,c] 0 [⟨1,.a (.v 0) (.a (.v 1) (.n 1)),.n 200000⟩,⟨1,.v 2,.a (.v 0) (.n 1)⟩] (.a (.v 2) (.v 1)) (.n 200000) (.refl true) h0 h1
theorem TI{a b c:Nat}(h0:a=1000000)(h1:b+(c+1)<=200000):b+1<=a:=dc [a,b,c] 0 [⟨1,.n 1000000,.v 0⟩,⟨1,.a (.v 1) (.a (.v 2) (.n 1)),.n 200000⟩] (.a (.v 1) (.n 1)) (.v 0) (.refl true) (az h0.symm) h1
theorem TH{a b c:Nat}(h0:a+b<=100000)(h1:c<=b+1):a+c<=200000:=dc [a,b,c] 0 [⟨1,.a (.v 0) (.v 1),.n 100000⟩,⟨1,.v 2,.a (.v 1) (.n 1)⟩] (.a (.v 0) (.v 2)) (.n 200000) (.refl true) h0 h1
theorem TG{a b c:Nat}(h0:a+b<=100000)(h1:c<=b+1):0+c<=200000:=dc [a,b,c] 0 [⟨1,.a (.v 0) (.v 1),.n 100000⟩,⟨1,.v 2,.a (.v 1) (.n 1)⟩] (.a (.n 0) (.v 2)) (.n 200000) (.refl true) h0 h1
theorem M7{a b c:Nat}(h0:a+b<=300000)(h1:c=1000000):a+b<=c:=dc [a,b,c] 0 [⟨1,.a (.v 0) (.v 1),.n 300000⟩,⟨1,.n 1000000,.v 2⟩] (.a (.v 0) (.v 1)) (.v 2) (.refl true) h0 (az h1.symm)
theorem Pl{a b c d:Nat}(h0:a+b<=300000)(h1:c=1000000)(h2:d<=a+b):d+1<=c:=dc [a,b,c,d] 0 [⟨1,.a (.v 0) (.v 1),.n 300000⟩,⟨1,.n 1000000,.v 2⟩,⟨1,.v 3,.a (.v 0) (.v 1)⟩] (.a (.v 3) (.n 1)) (.v 2) (.refl true) h0 (az h1.symm) h2
theorem Pk{a:Nat}(h0:a<1000):1+a<100000:=dc [a] 0 [⟨1,.a (.v 0) (.n 1),.n 1000⟩] (.a (.a (.n 1) (.v 0)) (.n 1)) (.n 100000) (.refl true) h0
theorem TF{a:Nat}(h0:a<1000):2+a<100000:=dc [a] 0 [⟨1,.a (.v 0) (.n 1),.n 1000⟩] (.a (.a (.n 2) (.v 0)) (.n 1)) (.n 100000) (.refl true) h0
theorem TD{a b c:Nat}(h0:a+(b+2)<=300000)(h1:c=1000000):b+1+1<=c:=dc [a,b,c] 0 [⟨1,.a (.v 0) (.a (.v 1) (.n 2)),.n 300000⟩,⟨1,.n 1000000,.v 2⟩] (.a (.a (.v 1) (.n 1)) (.n 1)) (.v 2) (.refl true) h0 (az h1.symm)
theorem TC{a b c:Nat}(h0:a+(b+2)<=300000)(h1:c=1000000):a+(b+1+1)<=c:=M7 h0 h1
theorem TB{a b:Nat}(h0:a<b):¬((a:Int)≥(b:Int)):=λq=>eT h0 (iM.mp q)
theorem TA{a b:Nat}(h0:a<b)(h1:¬((a:Int)+1<(b:Int))):b=a+1:=bX (b9 λq=>h1 (iL.mpr q)) h0
theorem Pj{a:Nat}:a+1-a=1:=fw (Nat.eq_sub_of_add_eq' rfl)
theorem Pi{a b:Nat}(h0:a+(b+1)<100000):a+1+b<100000:=dc [a,b] 0 [⟨1,.a (.a (.v 0) (.a (.v 1) (.n 1))) (.n 1),.n 100000⟩] (.a (.a (.a (.v 0) (.n 1)) (.v 1)) (.n 1)) (.n 100000) (.refl true) h0
theorem M6{a b:Nat}(h0:a+(b+1)<100000):a<100000:=Nat.lt_of_add_right_lt h0
theorem Tz{a b:Nat}:a+(5+b)=a+1+1+1+1+1+b:=by lia
theorem Tx{a b:Nat}:a+(5+b)=a+b+1+1+1+1+1:=by lia
theorem Tw{a b:Nat}:a+(1+b)=a+1+b:=fw (g8 a 1 b)
theorem Tv{a b:Nat}:a+(1+b)=a+b+1:=by lia
theorem Tu{a:Nat}(h0:a<10000):1+a<100000:=dc [a] 0 [⟨1,.a (.v 0) (.n 1),.n 10000⟩] (.a (.a (.n 1) (.v 0)) (.n 1)) (.n 100000) (.refl true) h0
theorem Tt{a:Nat}(h0:a<10000):100000=99999-a+a+1:=bX (dc [a,(99999-a)] 0 [⟨1,.n 99999,.a (.v 1) (.v 0)⟩] (.n 100000) (.a (.a (.v 1) (.v 0)) (.n 1)) (.refl true) (dj (aF _))) (dc [a,(99999-a)] 0 [⟨1,.a (.v 1) (.v 0),.n 99999⟩] (.a (.a (.v 1) (.v 0)) (.n 1)) (.n 100000) (.refl true) (az (bO (dc [a] 0 [⟨1,.a (.v 0) (.n 1),.n 10000⟩] (.v 0) (.n 99999) (.refl true) h0))))
theorem Ts{a:Nat}(h0:a<10000):99998-a+1=99999-a:=(sR (ah (bg h0) (by decide))).symm
theorem Tr{a:Nat}(h0:a<=10000):0+a<100000:=dc [a] 0 [⟨1,.v 0,.n 10000⟩] (.a (.a (.n 0) (.v 0)) (.n 1)) (.n 100000) (.refl true) h0
theorem Tq{a b:Nat}:a+(b+1+1)=a+1+b+1:=o0
theorem Tp{a b:Nat}(h0:a<=10000)(h1:b<=5*a):b<=50000:=dc [a,b] 0 [⟨5,.v 0,.n 10000⟩,⟨1,.v 1,.m 5 (.v 0)⟩] (.v 1) (.n 50000) (.refl true) h0 h1
theorem To{a:Nat}(h0:a<=50000):100000=99999-a+a+1:=bX (dc [a,(99999-a)] 0 [⟨1,.n 99999,.a (.v 1) (.v 0)⟩] (.n 100000) (.a (.a (.v 1) (.v 0)) (.n 1)) (.refl true) (dj (aF _))) (dc [a,(99999-a)] 0 [⟨1,.a (.v 1) (.v 0),.n 99999⟩] (.a (.a (.v 1) (.v 0)) (.n 1)) (.n 100000) (.refl true) (az (bO (dc [a] 0 [⟨1,.v 0,.n 50000⟩] (.v 0) (.n 99999) (.refl true) h0))))
theorem Tn{a:Nat}(h0:a<=50000):99999-a=99997-a+1+1:=(sR (ah h0 (by decide:50000<=99998))).trans (congrArg (·+1) (sR (ah h0 (by decide:50000<=99997))))
theorem Tl{a b c:Nat}(h0:a<=b)(h1:b-a=c):a+c=b:=h1▸FQ h0
theorem Tk{a b c d:Nat}(h0:a-(b+c)=d+1):b+c+1<=a:=CO h0
theorem Ph{a b:Nat}(h0:a+1<b+1):a<b:=Nat.succ_lt_succ_iff.mp h0
theorem Tj{a:Nat}(h0:a<1000):a<100000:=bR h0 (by decide)
theorem Pg{a:Nat}(h0:0<a):(a:Int)≠0:=Int.natCast_ne_zero_iff_pos.mpr h0
theorem Ti{a:Nat}(h0:a%2=1):a/2=(a-1)/2:=m2 (λa=>a%2=1->a/2=(a-1)/2) (λk h=>nomatch (Nat.mul_mod_right 2 k).symm.trans h) (λk ζ=>(d1 k).trans (d0 k).symm) a h0
theorem Th{a:Nat}(h0:a%2=1):(a-1)/2<a:=bq (kX _ 2) (pW λq=>nomatch (congrArg (· % 2) q).symm.trans h0)
theorem Tg{a:Nat}(h0:¬(a%2=1)):((a%2:Nat):Int)≠1:=pC rfl rfl h0
theorem Tf{a:Nat}(h0:0<a)(h1:¬(a%2=1)):((a/2:Nat):Int)-1=(((a-1)/2:Nat):Int):=m2 (λa=>0<a->¬(a%2=1)->((a/2:Nat):Int)-1=(((a-1)/2:Nat):Int)) (λk h ζ=>by cases k with | zero=>exact absurd h (eZ 0) | succ j=>exact(congrArg (λx:Nat=>(x:Int)-1) (d0 (j+1))).trans ((Int.add_sub_cancel j 1).trans (congrArg Int.ofNat (d1 j).symm))) (λk ζ h=>absurd (Nat.mul_add_mod 2 k 1) h) a h0 h1
theorem Pf{a:Nat}(h0:0<a):(a-1)/2<a:=dc [a,(a-1),((a-1)/2)] 0 [⟨1,.a (.v 1) (.n 1),.v 0⟩,⟨1,.m 2 (.v 2),.v 1⟩] (.a (.v 2) (.n 1)) (.v 0) (.refl true) (az (bO (dc [a] 0 [⟨1,.a (.n 0) (.n 1),.v 0⟩] (.n 1) (.v 0) (.refl true) h0))) (dO _ 2)
theorem M5{a:Nat}:¬((a:Int)<0):=by lia
theorem Te{a b:Nat}:(a:Int)<(b:Int)↔a<b:=iL
theorem Td{a b c:Nat}(h0:a<=b)(h1:c=b):¬(c<a):=λq=>kr h0 (h1▸q)
theorem Tc{a:Nat}:((a+1:Nat):Int)-1=(a:Int):=Int.sub_eq_iff_eq_add.mpr rfl
theorem Tb{a:Nat}(h0:a<10000):a<100000:=bR h0 (by decide)
theorem Ta{a b:Nat}(h0:a=b)(h1:0<b):a/2+1<=a:=dc [a,b,(a/2)] 1 [⟨1,.v 1,.v 0⟩,⟨1,.a (.n 0) (.n 1),.v 1⟩,⟨1,.m 2 (.v 2),.v 0⟩] (.a (.v 2) (.n 1)) (.v 0) (.refl true) (az h0.symm) h1 (dO _ 2)
theorem S9{a b:Nat}(h0:a<1000)(h1:b=a):b<10000:=dc [a,b] 0 [⟨1,.a (.v 0) (.n 1),.n 1000⟩,⟨1,.v 1,.v 0⟩] (.a (.v 1) (.n 1)) (.n 10000) (.refl true) h0 (az h1)
theorem S8{a b:Nat}(h0:a=b)(h1:0<b)(h2:a=0):False:=gR h1 (h0.symm.trans h2)
theorem M4{a b:Nat}(h0:a<1000)(h1:b=1000000):a<=b:=h1.symm▸ah (bg h0) (by decide)
theorem S7{a b c d:Nat}(h0:a=1000000)(h1:b<=1000)(h2:c=b+1)(h3:d<=c):d<=a:=dc [a,b,c,d] 0 [⟨1,.n 1000000,.v 0⟩,⟨1,.v 1,.n 1000⟩,⟨1,.v 2,.a (.v 1) (.n 1)⟩,⟨1,.v 3,.v 2⟩] (.v 3) (.v 0) (.refl true) (az h0.symm) h1 (az h2) h3
theorem S6{a b c d e:Nat}(h0:a=1000000)(h1:b<=1000)(h2:c=b+1)(h3:d<=c)(h4:e<=d):e<=a:=dc [a,b,c,d,e] 0 [⟨1,.n 1000000,.v 0⟩,⟨1,.v 1,.n 1000⟩,⟨1,.v 2,.a (.v 1) (.n 1)⟩,⟨1,.v 3,.v 2⟩,⟨1,.v 4,.v 3⟩] (.v 4) (.v 0) (.refl true) (az h0.symm) h1 (az h2) h3 h4
theorem S5{a b c:Nat}(h0:a=1000000)(h1:b+c<=300000):b+c<=a:=M7 h1 h0
theorem S4{a b c d:Nat}(h0:a=1000000)(h1:b+c<=300000)(h2:d<=b+c):d+1<=a:=Pl h1 h0 h2
theorem S3{a:Nat}:(-1000000)<=(a:Int):=Int.neg_ofNat_le_natCast 1000000 a
theorem S2{a:Nat}(h0:a<1000):(a:Int)<=1000000:=Vv (ah (bg h0) (by decide))
theorem S1{a b:Nat}(h0:a<64)(h1:b=1000000):a<=b:=h1.symm▸ah (bg h0) (by decide)
theorem S0{a b:Nat}(h0:a=1000000)(h1:b<=1000):b<a:=h0.symm▸bq h1 (by decide)
theorem SY{a b:Nat}(h0:a<64):a-b+1<1000:=dc [a,(a-b)] 0 [⟨1,.a (.v 0) (.n 1),.n 64⟩,⟨1,.v 1,.v 0⟩] (.a (.a (.v 1) (.n 1)) (.n 1)) (.n 1000) (.refl true) h0 (fu _ _)
theorem SX{a b:Nat}(h0:0<a)(h1:a/2+1=b):(a:Int)-(b:Int)+1=((a-b+1:Nat):Int):=congrArg (·+1) (Int.ofNat_sub (h1▸oK h0 (by decide))).symm
theorem Pe{a:Nat}:(a:Int)+1=((a+1:Nat):Int):=Int.ofNat_add_one_out a
theorem SW{a b:Nat}:(a:Int)+(b:Int)=((a+b:Nat):Int):=Int.ofNat_add_ofNat a b
theorem w0{a b c e:Nat}:yU (a+b) e-(a+c)<=b-c:=ah (pX (kW _ _) _) (az (DV a b c))
theorem SV{a b c d e:Nat}(h0:a=1000000)(h1:b<64)(h2:b/2+1=c):yU (d+c) e-(d+1)+(yU (d+1) e-d)<=a:=by
 subst h0;subst h2
 exact ah (cq w0 (w0 (c:=0))) (ah (cT (kX b 2)) (ah h1 (by decide)))
theorem SU{a b c:Nat}(h0:a=1000000)(h1:b<64):b-c+1<=a:=dc [a,b,(b-c)] 0 [⟨1,.n 1000000,.v 0⟩,⟨1,.a (.v 1) (.n 1),.n 64⟩,⟨1,.v 2,.v 1⟩] (.a (.v 2) (.n 1)) (.v 0) (.refl true) (az h0.symm) h1 (fu _ _)
theorem Pd{a b:Nat}(h0:a-b+1=0):False:=by lia
theorem SS{a:Nat}(h0:a<1000):0+a<100000:=(eo a).symm▸bR h0 (by decide)
theorem SR{a b:Nat}(h0:a<4+2*b):4+2*b≠a:=dg (dU h0)
theorem SQ{a b:Nat}(h0:a<4+2*b):a<4+2*(b+1):=dc [a,b] 0 [⟨1,.a (.v 0) (.n 1),.a (.n 4) (.m 2 (.v 1))⟩] (.a (.v 0) (.n 1)) (.a (.n 4) (.m 2 (.a (.v 1) (.n 1)))) (.refl true) h0
theorem SP{a:Nat}:4+2*a≠3+2*a:=by lia
theorem SO{a:Nat}:3+2*a<4+2*(a+1):=by lia
theorem SN{a:Nat}:4+2*a<4+2*(a+1):=by lia
theorem SM{a b:Nat}(h0:a<b):b-a=b-(a+1)+1:=by rw [<-DS];exact(bO (sS h0)).symm
theorem Ko{a b:Nat}:a+1+b=a+(b+1):=fw o0
theorem SL{a b:Nat}(h0:a<3+2*b):3+2*b≠a:=dg (dU h0)
theorem SK{a b:Nat}(h0:a<3+2*b):a<3+2*(b+1):=dc [a,b] 0 [⟨1,.a (.v 0) (.n 1),.a (.n 3) (.m 2 (.v 1))⟩] (.a (.v 0) (.n 1)) (.a (.n 3) (.m 2 (.a (.v 1) (.n 1)))) (.refl true) h0
theorem Pc{a:Nat}:3+2*a+1+1=3+2*(a+1):=by lia
theorem SJ{a b:Nat}(h0:a=3+2*b):0<a:=dc [a,b] 0 [⟨1,.a (.n 3) (.m 2 (.v 1)),.v 0⟩] (.a (.n 0) (.n 1)) (.v 0) (.refl true) (az h0.symm)
theorem SI{a b:Nat}:3+2*a+2*(b+1)=3+2*(a+1)+2*b:=by lia
theorem SH{a b:Nat}:3+2*a<3+2*(a+1)+2*b:=by lia
theorem SG{a b:Nat}:3+2*a+1<3+2*(a+1)+2*b:=dc [a,b] 0 [] (.a (.a (.a (.n 3) (.m 2 (.v 0))) (.n 1)) (.n 1)) (.a (.a (.n 3) (.m 2 (.a (.v 0) (.n 1)))) (.m 2 (.v 1))) (.refl true)
theorem SF{a:Nat}:3+2*a<3+2*(a+1):=by lia
theorem SE{a:Nat}:3+2*a+1=3+2*a+1:=by lia
theorem SD{a:Nat}:3+2*a+1<3+2*(a+1):=Nat.lt_add_one (3+2*a+1)
theorem Pb{a:Nat}:3+2*a+1=4+2*a:=fw Ko
theorem SA{a:Nat}:2*a+1+1=2*(a+1):=Pw rfl
theorem M3{a:Nat}:2*a+1+1+1=3+2*a:=fw (gS 3 (2*a))
theorem Sz{a b:Nat}(h0:a=3+2*b):a<=3+2*b:=Na h0
theorem Sy{a b:Nat}(h0:a=3+2*b):a<=4+2*b:=dc [a,b] 0 [⟨1,.v 0,.a (.n 3) (.m 2 (.v 1))⟩] (.v 0) (.a (.n 4) (.m 2 (.v 1))) (.refl true) (az h0)
theorem Sx{a:Nat}:4+2*a-(3+2*a)=1:=bX (dc [((4+(2*a))-(3+(2*a))),a] 0 [⟨1,.a (.v 0) (.a (.n 3) (.m 2 (.v 1))),.a (.n 4) (.m 2 (.v 1))⟩] (.v 0) (.n 1) (.refl true) (az (bO (dc [a] 0 [] (.a (.n 3) (.m 2 (.v 0))) (.a (.n 4) (.m 2 (.v 0))) (.refl true))))) (dc [((4+(2*a))-(3+(2*a))),a] 0 [⟨1,.a (.n 4) (.m 2 (.v 1)),.a (.v 0) (.a (.n 3) (.m 2 (.v 1)))⟩] (.n 1) (.v 0) (.refl true) (dj (aF _)))
theorem Sw{a b c:Nat}(h0:a=1000000)(h1:b=3):b+(yU 5 c)<=a:=dc [a,b,(yU 5 c)] 0 [⟨1,.n 1000000,.v 0⟩,⟨1,.v 1,.n 3⟩,⟨1,.v 2,.n 5⟩] (.a (.v 1) (.v 2)) (.v 0) (.refl true) (az h0.symm) (az h1) (kW _ _)
theorem Sv{a b c d e:Nat}(h0:a+b+(c+1)<=16)(h1:d+e<=a+b+1):d+e+c<=16:=dc [a,b,c,d,e] 0 [⟨1,.a (.a (.v 0) (.v 1)) (.a (.v 2) (.n 1)),.n 16⟩,⟨1,.a (.v 3) (.v 4),.a (.a (.v 0) (.v 1)) (.n 1)⟩] (.a (.a (.v 3) (.v 4)) (.v 2)) (.n 16) (.refl true) h0 h1
theorem Su{a:Nat}(h0:7<a):(a:Int)>7:=Gg h0
theorem Pa{a b:Nat}:a+1+0<=a+b+1:=by lia
theorem Ss{a:Nat}(h0:7<a):(a:Int)≠6:=λq=>gR (Jm h0) (t8 q)
theorem Sr{a:Nat}(h0:7<a):(a:Int)≠7:=λq=>gR h0 (t8 q)
theorem O9{a b c d:Nat}(h0:a=1000000)(h1:b+c+(d+1)<=16):b<a:=dc [a,b,c,d] 0 [⟨1,.n 1000000,.v 0⟩,⟨1,.a (.a (.v 1) (.v 2)) (.a (.v 3) (.n 1)),.n 16⟩] (.a (.v 1) (.n 1)) (.v 0) (.refl true) (az h0.symm) h1
theorem Sq{a:Nat}(h0:¬(7<a)):¬((a:Int)>7):=λq=>h0 (iL.mp q)
theorem O8{a:Nat}(h0:¬(a=6)):(a:Int)≠6:=dg (pC rfl rfl λa_1=>h0 (id (fw a_1)))
theorem O0{a:Nat}(h0:¬(a=7)):(a:Int)≠7:=dg (pC rfl rfl λa_1=>h0 (id (fw a_1)))
theorem Sp{a b c d e:Nat}(h0:a=1000000)(h1:b+c+(d+1)<=16)(h2:b=e):e<a:=dc [a,b,c,d,e] 0 [⟨1,.n 1000000,.v 0⟩,⟨1,.a (.a (.v 1) (.v 2)) (.a (.v 3) (.n 1)),.n 16⟩,⟨1,.v 4,.v 1⟩] (.a (.v 4) (.n 1)) (.v 0) (.refl true) (az h0.symm) h1 (az h2.symm)
theorem So{a b c d e:Nat}(h0:a=1000000)(h1:b+c+(d+1)<=16)(h2:c=e):e<a:=dc [a,b,c,d,e] 0 [⟨1,.n 1000000,.v 0⟩,⟨1,.a (.a (.v 1) (.v 2)) (.a (.v 3) (.n 1)),.n 16⟩,⟨1,.v 4,.v 2⟩] (.a (.v 4) (.n 1)) (.v 0) (.refl true) (az h0.symm) h1 (az h2.symm)
theorem Sn{a:Nat}:1<3+2*a:=by lia
theorem Sm{a:Nat}:1+1<3+2*a:=by lia
theorem Sl{a b:Nat}(h0:a=3):0+0+(a+(yU 5 b))<=16:=dc [a,(yU 5 b)] 0 [⟨1,.v 0,.n 3⟩,⟨1,.v 1,.n 5⟩] (.a (.a (.n 0) (.n 0)) (.a (.v 0) (.v 1))) (.n 16) (.refl true) (az h0) (kW _ _)
theorem Sk{a b c:Nat}(h0:a=b+c):b<=a:=Nat.le.intro h0.symm
theorem Sj{a:Nat}:(a+1)/2<=a:=dc [((a+1)/2),a] 1 [⟨1,.m 2 (.v 0),.a (.v 1) (.n 1)⟩] (.v 0) (.v 1) (.refl true) (dO _ 2)
theorem Si{a:Nat}(h0:a<60):a<10000:=bR h0 (by decide)
theorem M2{a b:Nat}(h0:a<60)(h1:b=1000000):a<=b:=h1.symm▸ah (bg h0) (by decide)
theorem Sh{a:Nat}(h0:a<50000):0+a<50000:=Nat.add_lt_of_lt_sub' h0
theorem Sg{a b c d e:Nat}(h0:a+(b+1)<=c+d)(h1:e<=a+1):e+b<=c+d:=dc [a,b,c,d,e] 0 [⟨1,.a (.v 0) (.a (.v 1) (.n 1)),.a (.v 2) (.v 3)⟩,⟨1,.v 4,.a (.v 0) (.n 1)⟩] (.a (.v 4) (.v 1)) (.a (.v 2) (.v 3)) (.refl true) h0 h1
theorem Sf{a:Nat}:a<=a+1:=by lia
theorem Se{a b c d e f:Nat}(h0:a+(b+c)<50000)(h1:d+(e+1)<=a+b)(h2:f=1000000):d<f:=dc [a,b,c,d,e,f] 0 [⟨1,.a (.a (.v 0) (.a (.v 1) (.v 2))) (.n 1),.n 50000⟩,⟨1,.a (.v 3) (.a (.v 4) (.n 1)),.a (.v 0) (.v 1)⟩,⟨1,.n 1000000,.v 5⟩] (.a (.v 3) (.n 1)) (.v 5) (.refl true) h0 h1 (az h2.symm)
theorem Sd{a b c d:Nat}(h0:a+(b+c)<50000)(h1:d+0<=a+b):d+c<50000:=dc [a,b,c,d] 0 [⟨1,.a (.a (.v 0) (.a (.v 1) (.v 2))) (.n 1),.n 50000⟩,⟨1,.a (.v 3) (.n 0),.a (.v 0) (.v 1)⟩] (.a (.a (.v 3) (.v 2)) (.n 1)) (.n 50000) (.refl true) h0 h1
theorem Sc{a:Nat}(h0:a<60):a<1000:=bR h0 (by decide)
theorem Sb{a b:Nat}(h0:a=1000000)(h1:b<60):b<=a:=M2 h1 h0
theorem Sa{a b:Nat}(h0:a=1000000)(h1:b<60):1+b<=a:=h0.symm▸ah (qy (bg h1) 1) (by decide)
theorem R8{a b c:Nat}(h0:a=0):b+(c+1+a)<=b+(c+1):=dc [a,b,c] 0 [⟨1,.v 0,.n 0⟩] (.a (.v 1) (.a (.a (.v 2) (.n 1)) (.v 0))) (.a (.v 1) (.a (.v 2) (.n 1))) (.refl true) (az h0)
theorem R4{a b c d:Nat}(h0:a=b+c):b<=a+(d+1):=dc [a,b,c,d] 0 [⟨1,.a (.v 1) (.v 2),.v 0⟩] (.v 1) (.a (.v 0) (.a (.v 3) (.n 1))) (.refl true) (az h0.symm)
theorem R0{a b c d e:Nat}(h0:a<=b+c)(h1:b<=d+(e+1)):a<=d+(e+1+c):=dc [a,b,c,d,e] 0 [⟨1,.v 0,.a (.v 1) (.v 2)⟩,⟨1,.v 1,.a (.v 3) (.a (.v 4) (.n 1))⟩] (.v 0) (.a (.v 3) (.a (.a (.v 4) (.n 1)) (.v 2))) (.refl true) h0 h1
theorem RZ{a b c d:Nat}(h0:a=b+1)(h1:c<=d+a):c<=d+(b+1):=le_of_le_of_eq h1 (congrArg (HAdd.hAdd d) h0)
theorem RY{a b c:Nat}(h0:a<=b+c):a+1<=b+c+1:=LW h0
theorem RW{a:Nat}(h0:a<=10):1+a<100000:=dc [a] 0 [⟨1,.v 0,.n 10⟩] (.a (.a (.n 1) (.v 0)) (.n 1)) (.n 100000) (.refl true) h0
theorem RU{a:Nat}(h0:a<=10):a<=300000:=ah h0 (by decide)
theorem RT{a b c:Nat}(h0:a<=1000)(h1:b<=10)(h2:c<=a+1):c+b<100000:=dc [a,b,c] 0 [⟨1,.v 0,.n 1000⟩,⟨1,.v 1,.n 10⟩,⟨1,.v 2,.a (.v 0) (.n 1)⟩] (.a (.a (.v 2) (.v 1)) (.n 1)) (.n 100000) (.refl true) h0 h1 h2
theorem RS{a b c d:Nat}(h0:a<=1000)(h1:b<=10)(h2:c<=a+1)(h3:c=d+1):d+(b+1)<=300000:=dc [a,b,c,d] 0 [⟨1,.v 0,.n 1000⟩,⟨1,.v 1,.n 10⟩,⟨1,.v 2,.a (.v 0) (.n 1)⟩,⟨1,.a (.v 3) (.n 1),.v 2⟩] (.a (.v 3) (.a (.v 1) (.n 1))) (.n 300000) (.refl true) h0 h1 h2 (az h3.symm)
theorem RQ{a:Nat}(h0:a+1<=10):a<=300000:=ah (sU h0) (by decide)
theorem RP{a b:Nat}(h0:¬(a<b))(h1:¬(b<a)):a=b:=Vk h1 h0
theorem RO{a:Nat}(h0:a<=900):a<=300000:=ah h0 (by decide)
theorem RN{a b c:Nat}(h0:a+1<b+1+c):a<b+c:=dc [a,b,c] 0 [⟨1,.a (.a (.v 0) (.n 1)) (.n 1),.a (.a (.v 1) (.n 1)) (.v 2)⟩] (.a (.v 0) (.n 1)) (.a (.v 1) (.v 2)) (.refl true) h0
theorem RM{a b c d:Nat}(h0:a+1<b+c)(h1:b+c<=b+(d+1)):a<b+d:=dc [a,b,c,d] 0 [⟨1,.a (.a (.v 0) (.n 1)) (.n 1),.a (.v 1) (.v 2)⟩,⟨1,.a (.v 1) (.v 2),.a (.v 1) (.a (.v 3) (.n 1))⟩] (.a (.v 0) (.n 1)) (.a (.v 1) (.v 3)) (.refl true) h0 h1
theorem RL{a b c:Nat}(h0:a/2+1<=b)(h1:a/2+1<=c):a<b+c:=dc [(a/2),b,c,a] 0 [⟨1,.a (.v 0) (.n 1),.v 1⟩,⟨1,.a (.v 0) (.n 1),.v 2⟩,⟨1,.a (.v 3) (.n 1),.m 2 (.a (.v 0) (.n 1))⟩] (.a (.v 3) (.n 1)) (.a (.v 1) (.v 2)) (.refl true) h0 h1 (gA _ (by decide))
theorem RJ{a b c d:Nat}(h0:a<b)(h1:b<=0):c<d:=absurd (dh h0 h1) (ji a)
theorem RI{a b:Nat}(h0:a<=b+1)(h1:¬(a=b+1)):a<=b:=fq (l8 h0 h1)
theorem RH{a b c d:Nat}(h0:a+1<b)(h1:b<=a+1):c<d:=absurd h1 (eT h0)
theorem RG{a b c d:Nat}(h0:a<=b)(h1:b<a):c<=d:=absurd h0 (eT h1)
theorem OZ{a:Nat}(h0:0<a):a/2+1<=a:=oK h0 (by decide)
theorem RF{a b:Nat}:a+1+b+1=a+1+(b+1):=fw Po
theorem RE{a b c:Nat}(h0:0<a):0+1<b+(a+1+c):=dc [a,b,c] 0 [⟨1,.a (.n 0) (.n 1),.v 0⟩] (.a (.a (.n 0) (.n 1)) (.n 1)) (.a (.v 1) (.a (.a (.v 0) (.n 1)) (.v 2))) (.refl true) h0
theorem RD{a b c:Nat}:a<a+(b+1+c):=by lia
theorem RC{a:Nat}(h0:0<a):¬(a<=0):=eT h0
theorem RB{a b:Nat}(h0:a<=b):0+a<=b:=(eo a).symm▸h0
theorem RA{a b c:Nat}(h0:a+b<=c):a+1+b<=c+1:=Nat.succ_add a b▸cT h0
theorem Rz{a b:Nat}:a+b-(a+1)=b-1:=DV a b 1
theorem Ry{a:Nat}(h0:0<a):a=a-1+1:=(Nat.sub_eq_iff_eq_add h0).mp rfl
theorem OY{a b:Nat}(h0:a=b/2+1):0<a:=Q2 h0
theorem Rx{a b:Nat}(h0:0<a)(h1:b=a/2+1):b<=a:=dc [a,b,(a/2)] 1 [⟨1,.a (.n 0) (.n 1),.v 0⟩,⟨2,.v 1,.a (.v 2) (.n 1)⟩,⟨1,.m 2 (.v 2),.v 0⟩] (.v 1) (.v 0) (.refl true) h0 (az h1) (dO _ 2)
theorem Rw{a b c d:Nat}(h0:a+b<=c)(h1:(yU b (c-a))<=d):b<=d:=ah (Nat.le_min.mpr ⟨aF b,CP h0⟩) h1
theorem Rv{a b c:Nat}(h0:a=b)(h1:c<=b):0+c<=a:=dc [a,b,c] 0 [⟨1,.v 1,.v 0⟩,⟨1,.v 2,.v 1⟩] (.a (.n 0) (.v 2)) (.v 0) (.refl true) (az h0.symm) h1
theorem Ru{a b c d:Nat}(h0:a=b)(h1:c+d<=a):c+d<=b:=le_of_le_of_eq h1 h0
theorem Rt{a b c:Nat}(h0:0<a)(h1:b+a<=c)(h2:(yU a (c-b))=0):False:=gR (dh h0 (Nat.le_min.mpr ⟨aF a,CP h1⟩)) h2
theorem Rr{a b c d:Nat}(h0:a=b)(h1:c+d<=a):c<b-d+1:=dc [a,b,c,d,(b-d)] 0 [⟨1,.v 0,.v 1⟩,⟨1,.a (.v 2) (.v 3),.v 0⟩,⟨1,.v 1,.a (.v 4) (.v 3)⟩] (.a (.v 2) (.n 1)) (.a (.v 4) (.n 1)) (.refl true) (az h0) h1 (dj (aF _))
theorem Rq{a b c:Nat}(h0:a<=b)(h1:c<b-a+1):c+a<=b:=dc [a,b,c,(b-a)] 0 [⟨1,.a (.v 2) (.n 1),.a (.v 3) (.n 1)⟩,⟨1,.a (.v 3) (.v 0),.v 1⟩] (.a (.v 2) (.v 0)) (.v 1) (.refl true) h1 (az (bO (dc [a,b] 0 [⟨1,.v 0,.v 1⟩] (.v 0) (.v 1) (.refl true) h0)))
theorem Rp{a b c:Nat}(h0:a<b)(h1:c=b):a<c:=M9 h1.symm h0
theorem Ro{a b c d e:Nat}(h0:a=b)(h1:c<a)(h2:b-c<=d)(h3:e=d)(h4:e<=a-(c+1)):False:=eZ _ (bq h4 (dh (Nat.sub_lt_sub_left h1 (dy c)) (h0.symm▸h3.symm▸h2)))
theorem Rm{a:Nat}(h0:0<a):a/2<a:=oK h0 (by decide)
theorem OX{a:Nat}:a-a/2=(a+1)/2:=bX (dc [(a/2),a,(a-(a/2)),((a+1)/2)] 1 [⟨1,.a (.v 1) (.n 1),.m 2 (.a (.v 0) (.n 1))⟩,⟨2,.a (.v 2) (.v 0),.v 1⟩,⟨1,.a (.a (.v 1) (.n 1)) (.n 1),.m 2 (.a (.v 3) (.n 1))⟩] (.v 2) (.v 3) (.refl true) (gA _ (by decide)) (az (bO (dc [(a/2),a] 0 [⟨1,.m 2 (.v 0),.v 1⟩] (.v 0) (.v 1) (.refl true) (dO _ 2)))) (gA _ (by decide))) (dc [(a/2),a,(a-(a/2)),((a+1)/2)] 1 [⟨1,.m 2 (.v 0),.v 1⟩,⟨2,.v 1,.a (.v 2) (.v 0)⟩,⟨1,.m 2 (.v 3),.a (.v 1) (.n 1)⟩] (.v 3) (.v 2) (.refl true) (dO _ 2) (dj (aF _)) (dO _ 2))
theorem Rl{a b:Nat}(h0:a=3):a+(yU 5 b)<=8:=dc [a,(yU 5 b)] 0 [⟨1,.v 0,.n 3⟩,⟨1,.v 1,.n 5⟩] (.a (.v 0) (.v 1)) (.n 8) (.refl true) (az h0) (kW _ _)
theorem Rk{a b:Nat}(h0:a<=5*b):1+a+1<=5*b+2:=dc [a,b] 0 [⟨1,.v 0,.m 5 (.v 1)⟩] (.a (.a (.n 1) (.v 0)) (.n 1)) (.a (.m 5 (.v 1)) (.n 2)) (.refl true) h0
theorem Rj{a:Nat}:a<=5*a+2:=by lia
theorem Ri{a:Nat}:2<=5*a+2:=Pn
theorem Rh{a b:Nat}(h0:a<=b):5*a+2<=5*b+2:=dc [a,b] 0 [⟨5,.v 0,.v 1⟩] (.a (.m 5 (.v 0)) (.n 2)) (.a (.m 5 (.v 1)) (.n 2)) (.refl true) h0
theorem Rg{a b c d e:Nat}(h0:a<=b)(h1:c<=5*d+2)(h2:5*d+2<=5*e+2):c+a<=b+(5*e+2):=dc [a,b,c,d,e] 0 [⟨1,.v 0,.v 1⟩,⟨1,.v 2,.a (.m 5 (.v 3)) (.n 2)⟩,⟨1,.a (.m 5 (.v 3)) (.n 2),.a (.m 5 (.v 4)) (.n 2)⟩] (.a (.v 2) (.v 0)) (.a (.v 1) (.a (.m 5 (.v 4)) (.n 2))) (.refl true) h0 h1 h2
theorem Rf{a b c d e:Nat}(h0:a<=b+c)(h1:b<=d)(h2:e=d+c):a<=e:=dc [a,b,c,d,e] 0 [⟨1,.v 0,.a (.v 1) (.v 2)⟩,⟨1,.v 1,.v 3⟩,⟨1,.a (.v 3) (.v 2),.v 4⟩] (.v 0) (.v 4) (.refl true) h0 h1 (az h2.symm)
theorem Rd{a b c d:Nat}(h0:a=b)(h1:b<50):(yU (c+d) a)-(c+1)+((yU (c+1) a)-c)<=200:=by
 subst h0
 exact ah (cq (ah (fu _ _) (nw _ _)) (ah (fu _ _) (nw _ _))) (ah (cq (bg h1) (bg h1)) (by decide))
theorem Rc{a:Nat}(h0:a<=200):a<1000:=bq h0 (by decide)
theorem Rb{a b c d:Nat}(h0:a+(b/2+1)<=b)(h1:0<c)(h2:d=b)(h3:(yU c (d-a))=0):False:=gR (Nat.lt_min.mpr ⟨h1,sS (h2.symm▸dh (AG (Nat.succ_pos _)) h0)⟩) h3
theorem Ra{a:Nat}(h0:0<a):a≠0:=Nat.ne_zero_of_lt h0
theorem OW{a b:Nat}(h0:a=b)(h1:b<50):a<64:=h0.symm▸bR h1 (by decide)
theorem Q9{a b:Nat}(h0:0<a)(h1:b<a-(a/2+1)+1):b+(a/2+1)<=a:=dc [a,b,(a-((a/2)+1)),(a/2)] 0 [⟨1,.a (.v 1) (.n 1),.a (.v 2) (.n 1)⟩,⟨1,.a (.v 2) (.a (.v 3) (.n 1)),.v 0⟩] (.a (.v 1) (.a (.v 3) (.n 1))) (.v 0) (.refl true) h1 (az (bO (dc [a,(a/2)] 1 [⟨1,.a (.n 0) (.n 1),.v 0⟩,⟨1,.m 2 (.v 1),.v 0⟩] (.a (.v 1) (.n 1)) (.v 0) (.refl true) h0 (dO _ 2))))
theorem Kn{a:Nat}(h0:a<50):a<1000:=bR h0 (by decide)
theorem M1{a:Nat}(h0:a<=100):a<10000:=bq h0 (by decide)
theorem OV{a:Nat}(h0:a<50):a<64:=OW rfl h0
theorem OU{a:Nat}(h0:a<50):a<60:=bR h0 (by decide)
theorem OT{a:Nat}(h0:a<=8):a+1<50:=dc [a] 0 [⟨1,.v 0,.n 8⟩] (.a (.a (.v 0) (.n 1)) (.n 1)) (.n 50) (.refl true) h0
theorem EA{a:Nat}(h0:a<=8):a<1000:=bq h0 (by decide)
theorem OS{a b c:Nat}(h0:a<=11)(h1:b<=a)(h2:c<=10):b+c<=100000:=dc [a,b,c] 0 [⟨1,.v 0,.n 11⟩,⟨1,.v 1,.v 0⟩,⟨1,.v 2,.n 10⟩] (.a (.v 1) (.v 2)) (.n 100000) (.refl true) h0 h1 h2
theorem Q8{a b c:Nat}(h0:a<=10)(h1:b<=11+11)(h2:c<=b):c+a<=100000:=dc [a,b,c] 0 [⟨1,.v 0,.n 10⟩,⟨1,.v 1,.a (.n 11) (.n 11)⟩,⟨1,.v 2,.v 1⟩] (.a (.v 2) (.v 0)) (.n 100000) (.refl true) h0 h1 h2
theorem OR{a:Nat}(h0:a<=8):a+1+1<=10:=dc [a] 0 [⟨1,.v 0,.n 8⟩] (.a (.a (.v 0) (.n 1)) (.n 1)) (.n 10) (.refl true) h0
theorem Q7{a:Nat}(h0:a<=8):100000+a<=300000:=dc [a] 0 [⟨1,.v 0,.n 8⟩] (.a (.n 100000) (.v 0)) (.n 300000) (.refl true) h0
theorem OQ{a:Nat}(h0:a<=600):a<=100000:=ah h0 (by decide)
theorem OP{a:Nat}(h0:a<=10):a<=600:=ah h0 (by decide)
theorem Q6{a b:Nat}(h0:a<=8)(h1:b+(a+2)<=100000+a):b+(a+2)<=300000:=dc [a,b] 0 [⟨1,.v 0,.n 8⟩,⟨1,.a (.v 1) (.a (.v 0) (.n 2)),.a (.n 100000) (.v 0)⟩] (.a (.v 1) (.a (.v 0) (.n 2))) (.n 300000) (.refl true) h0 h1
theorem Q5:0<=1000:=bp 1000
theorem OO{a:Nat}(h0:a<=8):a+1+1<1000:=dc [a] 0 [⟨1,.v 0,.n 8⟩] (.a (.a (.a (.v 0) (.n 1)) (.n 1)) (.n 1)) (.n 1000) (.refl true) h0
theorem ON{a:Nat}(h0:a<=10):a<=10000:=ah h0 (by decide)
theorem Q4{a b c:Nat}(h0:a<=b*50)(h1:c<=50):c+a<=b*50+50:=dc [a,(b*50),c] 0 [⟨1,.v 0,.v 1⟩,⟨1,.v 2,.n 50⟩] (.a (.v 2) (.v 0)) (.a (.v 1) (.n 50)) (.refl true) h0 h1
theorem Q3{a b:Nat}(h0:a<50)(h1:b<=a*50):b<50000:=bq h1 (dh (Nat.mul_lt_mul_of_pos_right h0 (by decide)) (by decide))
theorem Rn{a:Nat}(h0:0<a):a-(a-1)/2=a/2+1:=by
 cases a with
 | zero=>exact absurd h0 (eZ 0)
 | succ a=>
  show a+1-a/2=(a+1)/2+1
  rw [sR (kX a 2),OX]
theorem p1{a b c:Nat}(h0:a<=5*b)(h1:c<=5):c+a<=5*(b+1):=dc [a,b,c] 0 [⟨1,.v 0,.m 5 (.v 1)⟩,⟨1,.v 2,.n 5⟩] (.a (.v 2) (.v 0)) (.m 5 (.a (.v 1) (.n 1))) (.refl true) h0 h1
theorem p2{a b c d e:Nat}(h0:a<=b+c)(h1:b=0)(h2:c<=d):a<=e+d:=dc [a,b,c,d,e] 0 [⟨1,.v 0,.a (.v 1) (.v 2)⟩,⟨1,.v 1,.n 0⟩,⟨1,.v 2,.v 3⟩] (.v 0) (.a (.v 4) (.v 3)) (.refl true) h0 (az h1) h2
theorem p3{a m:Nat}(h0:a<=30020):a+(m+2)<=100000+m:=dc [a,m] 0 [⟨1,.v 0,.n 30020⟩] (.a (.v 0) (.a (.v 1) (.n 2))) (.a (.n 100000) (.v 1)) (.refl true) h0
theorem ifn{α:Type}{M:rI}{A:bD}{E:af->ag->Prop}{s:ag}{c:Prop} [Decidable c]{a b:tn α}{Q:α->ag->Prop}(hc:¬c)(h:aq M A b Q E s):aq M A (if c then a else b) Q E s:=by rw [if_neg hc];exact h
theorem ife{α:Type}{M:rI}{A:bD}{E:af->ag->Prop}{s:ag}{c:Prop} [Decidable c]{a b:tn α}{Q:α->ag->Prop}(hc:c)(h:aq M A a Q E s):aq M A (if c then a else b) Q E s:=by rw [if_pos hc];exact h
end Mine
end
namespace Mine
@[elab_as_elim] theorem rwG {α:Sort u} {a b:α} {M:α->Prop} (h:a=b) (p:M b):M a:=h▸p
@[elab_as_elim] theorem rwB {α:Sort u} {a b:α} {M:α->Prop} (h:b=a) (p:M b):M a:=h▸p
end Mine
local macro_rules
| `(term| ∅)=>`(by kernel_rfl)
| `(tactic| rewrite [if_neg $h])=>`(tactic| first | with_reducible_and_instances refine Mine.ifn $h ?_ | with_reducible_and_instances refine Mine.rwG (if_neg $h) ?_ | rewrite [if_neg $h]at ⊢)
| `(tactic| rewrite [if_pos $h])=>`(tactic| first | with_reducible_and_instances refine Mine.ife $h ?_ | with_reducible_and_instances refine Mine.rwG (if_pos $h) ?_ | rewrite [if_pos $h]at ⊢)
| `(tactic| rewrite [$e:term])=>`(tactic| first | with_reducible_and_instances refine Mine.rwG $e ?_ | with_reducible_and_instances refine Mine.rwG ($e ..) ?_ | rewrite [$e:term]at ⊢)
| `(tactic| rewrite [<-$e:term])=>`(tactic| first | with_reducible_and_instances refine Mine.rwB $e ?_ | with_reducible_and_instances refine Mine.rwB ($e ..) ?_ | rewrite [<-$e:term]at ⊢)
| `(tactic| rewrite [$e:rwRule,$es:rwRule,*])=>`(tactic| (rewrite [$e:rwRule];rewrite [$es:rwRule,*]))
| `(tactic| show $t:term)=>`(tactic| first | refine(?_ : $t) | change $t at ⊢)
section
set_option maxHeartbeats 0
namespace Mine
abbrev pw:eE:=PySem.Challenge.pw_ik0231_01
theorem PQ:Fast.tw11788848310118352699 pw.main=true:=∅
theorem PO:((wt pw.main.body).isEmpty||Fast.tw12862048085361865435 (wt pw.main.body) pw.main.body)=true:=∅
theorem PN:Fast.tw8377067652309620493 pw=true:=∅
theorem PM:Fast.tw8326940854005059898 { strict :=!R.allR (Fast.tw5923862056798008813 pw.main.body) (Fast.tw3471404346716756564 Fast.tw17691160309236699985),foot:=none,bare:=R.filterR (Fast.tw13343964577679436407 pw pw.main.body) [⟨⟨[118,97,114,115]⟩⟩,⟨⟨[100,105,114]⟩⟩,⟨⟨[108,111,99,97,108,115]⟩⟩] } pw.main.body=true:=∅
theorem PL:(Fast.tw17119622794617984870 pw pw.main.body λx n=>Fast.tw17868728402115742887 n)=true:=∅
theorem MW:PySem.Challenge.rw_ik0231_01.wellSaid=true:=by
 rw [PySem.W.Fast.te9446332074065402090]
 unfold PySem.W.Fast.tw9446332074065402090 PySem.W.Fast.tw17960256430627541270 PySem.W.Fast.tw2436336058641802641 PySem.W.Fast.tw12908688711261696721
 repeat' (with_reducible apply PySem.W.look_both)
 ·exact PQ
 ·exact PO
 ·exact PN
 ·kernel_rfl
 ·exact PM
 ·exact PL
 all_goals kernel_rfl
theorem Nl(h:PySem.Challenge.rw_ik0231_01.row.wellSaid=true->PySem.Challenge.rw_ik0231_01.row.Holds):PySem.Challenge.rw_ik0231_01.Holds:=PySem.W.holds_law MW h
end Mine
end
section
set_option maxHeartbeats 0
namespace Mine
noncomputable section
structure FD where
 name:Str
 params:iC
 body:List ir
 scope:Scope
 deriving Inhabited
noncomputable def bv:ir->FD
 | .FunctionDef name params body _ _ _ scope _ _ _=>⟨name,params,body,scope⟩
 | _=>bN
noncomputable def aL(p:eE)(i:Nat):ir:=p.main.body.getD i bN
noncomputable def bL(p:eE)(i j:Nat):ir:=match aL p i with
 | .ClassDef _ _ _ body _ _ _ _ _ _ _=>body.getD j bN
 | _=>bN
noncomputable abbrev ed(d:FD)(qual:Str)(dV pm:af)(cd:aB):jh:=⟨.type "function",none,.func (fnOf d.name qual d.params d.body d.scope dV .none .none pm none (.ref cd) .none),#[]⟩
noncomputable def de(P:dX)(n:Str)(t:vR)(v:af):kY:={ hash:=oI P n,key:=.str n t,val:=v }
noncomputable def KK(p:eE)(P:dX):Frag:=[
 (64,ed (bv (aL p 5)) "median_low" .none (.str "cpy313.statistics" 331) 63),
 (71,ed (bv (aL p 6)) "median_high" .none (.str "cpy313.statistics" 331) 70),
 (144,ed (bv (aL p 15)) "fspath" .none (.str "os" 454) 143),
 (158,ed (bv (aL p 20)) "_get_sep" .none (.str "cpy313.posixpath" 480) 157),
 (165,ed (bv (aL p 21)) "join" .none (.str "cpy313.posixpath" 480) 164),
 (172,ed (bv (aL p 23)) "splitroot" .none (.str "cpy313.posixpath" 480) 171),
 (179,ed (bv (aL p 24)) "normpath" .none (.str "cpy313.posixpath" 480) 178),
 (184,ed (bv (aL p 25)) "commonpath" .none (.str "cpy313.posixpath" 480) 183),
 (188,⟨.type "tuple",none,.seq #[.int 14 0,.int 17 0,.int 4 0,.int 1 0,.int 1 0,.int 21 0,.int 9 0,.int 0 0,.int 604043296 0,.int 1 0,.int 0 0,.int 0 0,.int 0 0,.int 0 0,.int 0 0,.int 8 0,.int 4 0,.int 0 0,.int 13 0,.int 14 0,.int 21 0,.int 9 0,.int 0 0,.int 604043296 0,.int 1 0,.int 0 0,.int 0 0,.int 0 0,.int 0 0,.int 0 0,.int 8 0,.int 4 0,.int 0 0,.int 1 0] 0,#[]⟩),
 (189,⟨.type "re.Pattern",none,.fields #[.str "[^\\w@%+=:,./-]" 532,.int 256 569,.int 0 0,.none,.none,.ref 188,.int 0 0],#[]⟩),
 (203,ed (bv (aL p 29)) "_index" .none (.str "io" 571) 202),
 (230,ed (bv (bL p 31 1)) "IOBase.__new__" .none (.str "io" 571) 229),
 (232,⟨.type "dict",none,.dict #[de P "__module__" 618 (.str "io" 623),de P "__firstlineno__" 622 (.int 192 621),de P "__new__" 633 (.ref 234),de P "__static_attributes__" 634 (.ref 231),de P "__dict__" 637 (.ref 235),de P "__weakref__" 639 (.ref 236),de P "__doc__" 640 .none] 4,#[]⟩),
 (233,⟨.type "type",none,.cls { name:="IOBase",bases:=[.type "object"],mro:=[.ref 233,.type "object"],ns:=232,qualname:="IOBase",subclasses:=[.ref 248,.ref 260] },#[none,none,some (.str "IOBase" 611),some (.str "IOBase" 619),some (.none),some (.bool true)]⟩),
 (234,⟨.type "staticmethod",none,.fields #[.ref 230],#[]⟩),
 (259,⟨.type "dict",none,.dict #[de P "__module__" 668 (.str "io" 673),de P "__firstlineno__" 672 (.int 201 671),de P "__static_attributes__" 675 (.ref 258),de P "__doc__" 676 .none] 2,#[]⟩),
 (260,⟨.type "type",none,.cls { name:="TextIOBase",bases:=[.ref 233],mro:=[.ref 260,.ref 233,.type "object"],ns:=259,qualname:="TextIOBase",subclasses:=[.ref 737] },#[some (.ref 251),none,some (.str "TextIOBase" 661),some (.str "TextIOBase" 669),some (.none),some (.bool true)]⟩),
 (500,⟨.type "tuple",none,.seq #[.str "" 955,.str "\n" 956] 0,#[]⟩),
 (507,ed (bv (bL p 35 1)) "StringIO.__init__" (.ref 500) (.str "io" 571) 506),
 (514,ed (bv (bL p 35 2)) "StringIO.__translated" .none (.str "io" 571) 513),
 (521,ed (bv (bL p 35 3)) "StringIO.__check" .none (.str "io" 571) 520),
 (676,⟨.type "tuple",none,.seq #[.int (-1) 1148] 0,#[]⟩),
 (683,ed (bv (bL p 35 25)) "StringIO.read" (.ref 676) (.str "io" 571) 682),
 (736,⟨.type "dict",none,.dict #[de P "__module__" 948 (.str "_io" 953),de P "__firstlineno__" 952 (.int 373 951),de P "__init__" 965 (.ref 507),de P "_StringIO__translated" 974 (.ref 514),de P "_StringIO__check" 981 (.ref 521),de P "_StringIO__check_dot" 988 (.ref 528),de P "_StringIO__line" 1003 (.ref 535),de P "closed" 1011 (.ref 543),de P "line_buffering" 1019 (.ref 551),de P "newlines" 1027 (.ref 559),de P "encoding" 1035 (.ref 567),de P "errors" 1043 (.ref 575),de P "close" 1050 (.ref 582),de P "__enter__" 1057 (.ref 589),de P "__exit__" 1065 (.ref 596),de P "readable" 1072 (.ref 603),de P "writable" 1079 (.ref 610),de P "seekable" 1086 (.ref 617),de P "isatty" 1093 (.ref 624),de P "flush" 1100 (.ref 631),de P "fileno" 1107 (.ref 638),de P "detach" 1114 (.ref 645),de P "getvalue" 1121 (.ref 652),de P "tell" 1128 (.ref 659),de P "seek" 1138 (.ref 667),de P "truncate" 1146 (.ref 675),de P "read" 1158 (.ref 683),de P "readline" 1168 (.ref 691),de P "readlines" 1178 (.ref 699),de P "__iter__" 1185 (.ref 706),de P "__next__" 1193 (.ref 713),de P "write" 1205 (.ref 720),de P "writelines" 1213 (.ref 727),de P "__repr__" 1220 (.ref 734),de P "__static_attributes__" 1224 (.ref 735),de P "__doc__" 1225 .none] 2,#[]⟩),
 (737,⟨.type "type",none,.cls { name:="StringIO",bases:=[.ref 260],mro:=[.ref 737,.ref 260,.ref 233,.type "object"],ns:=736,qualname:="StringIO",subclasses:=[] },#[some (.ref 493),none,some (.str "StringIO" 941),some (.str "StringIO" 949),some (.none),some (.bool true)]⟩),
 (789,⟨.type "tuple",none,.seq #[.none,.none,.bool false,.bool false] 0,#[]⟩),
 (796,ed (bv (bL p 46 0)) "shlex.__init__" (.ref 789) (.str "cpy313.shlex" 1288) 795),
 (803,ed (bv (bL p 46 1)) "shlex.punctuation_chars" .none (.str "cpy313.shlex" 1288) 802),
 (804,⟨.type "property",none,.fields #[.ref 803,.none,.none,.none,.str "punctuation_chars" 1321,.bool false],#[]⟩),
 (833,ed (bv (bL p 46 5)) "shlex.get_token" .none (.str "cpy313.shlex" 1288) 832),
 (840,ed (bv (bL p 46 6)) "shlex.read_token" .none (.str "cpy313.shlex" 1288) 839),
 (862,ed (bv (bL p 46 9)) "shlex.__iter__" .none (.str "cpy313.shlex" 1288) 861),
 (869,ed (bv (bL p 46 10)) "shlex.__next__" .none (.str "cpy313.shlex" 1288) 868),
 (871,⟨.type "dict",none,.dict #[de P "__module__" 1297 (.str "cpy313.shlex" 1288),de P "__firstlineno__" 1301 (.int 644 1300),de P "__init__" 1313 (.ref 796),de P "punctuation_chars" 1321 (.ref 804),de P "push_token" 1329 (.ref 811),de P "push_source" 1338 (.ref 819),de P "pop_source" 1345 (.ref 826),de P "get_token" 1357 (.ref 833),de P "read_token" 1368 (.ref 840),de P "sourcehook" 1376 (.ref 847),de P "error_leader" 1385 (.ref 855),de P "__iter__" 1392 (.ref 862),de P "__next__" 1400 (.ref 869),de P "__static_attributes__" 1421 (.ref 870),de P "__dict__" 1423 (.ref 873),de P "__weakref__" 1425 (.ref 874),de P "__doc__" 1426 .none] 4,#[]⟩),
 (872,⟨.type "type",none,.cls { name:="shlex",bases:=[.type "object"],mro:=[.ref 872,.type "object"],ns:=871,qualname:="shlex",subclasses:=[] },#[none,none,some (.str "shlex" 1290),some (.str "shlex" 1298),some (.builtin "object.__new__"),some (.bool true)]⟩),
 (877,⟨.type "tuple",none,.seq #[.bool false,.bool true] 0,#[]⟩),
 (884,ed (bv (aL p 47)) "split" (.ref 877) (.str "cpy313.shlex" 1288) 883),
 (885,⟨.type "builtin_function_or_method",none,.fields #[.builtin "re.Pattern.search",.ref 189],#[]⟩),
 (892,ed (bv (aL p 49)) "quote" .none (.str "cpy313.shlex" 1288) 891),
 (899,ed (bv (aL p 51)) "_law_way" .none (.str "law_ik0231_01" 1448) 898),
 (906,ed (bv (aL p 52)) "_law_vote" .none (.str "law_ik0231_01" 1448) 905),
 (911,ed (bv (aL p 53)) "_law_line" .none (.str "law_ik0231_01" 1448) 910),
 (918,ed (bv (aL p 54)) "_law_places" .none (.str "law_ik0231_01" 1448) 917),
 (925,ed (bv (aL p 55)) "_law_names" .none (.str "law_ik0231_01" 1448) 924),
 (932,ed (bv (aL p 56)) "_law_rows" .none (.str "law_ik0231_01" 1448) 931),
 (937,ed (bv (aL p 57)) "_law_text" .none (.str "law_ik0231_01" 1448) 936),
 (942,ed (bv (aL p 58)) "_law_front" .none (.str "law_ik0231_01" 1448) 941),
 (947,ed (bv (aL p 59)) "_law_value" .none (.str "law_ik0231_01" 1448) 946),
 (952,ed (bv (aL p 60)) "_law_met" .none (.str "law_ik0231_01" 1448) 951),
 (959,ed (bv (aL p 61)) "_law_seen" .none (.str "law_ik0231_01" 1448) 958),
 (964,ed (bv (aL p 62)) "law" .none (.str "law_ik0231_01" 1448) 963)]
noncomputable def CQ:List (aB × Str):=(63,("median_low":Str))::(70,("median_high":Str))::(143,("fspath":Str))::(157,("_get_sep":Str))::(164,("join":Str))::(171,("splitroot":Str))::(178,("normpath":Str))::(183,("commonpath":Str))::(202,("_index":Str))::(229,("IOBase.__new__":Str))::(506,("StringIO.__init__":Str))::(513,("StringIO.__translated":Str))::(520,("StringIO.__check":Str))::(682,("StringIO.read":Str))::(795,("shlex.__init__":Str))::(802,("shlex.punctuation_chars":Str))::(832,("shlex.get_token":Str))::(839,("shlex.read_token":Str))::(861,("shlex.__iter__":Str))::(868,("shlex.__next__":Str))::(883,("split":Str))::(891,("quote":Str))::(898,("_law_way":Str))::(905,("_law_vote":Str))::(910,("_law_line":Str))::(917,("_law_places":Str))::(924,("_law_names":Str))::(931,("_law_rows":Str))::(936,("_law_text":Str))::(941,("_law_front":Str))::(946,("_law_value":Str))::(951,("_law_met":Str))::(958,("_law_seen":Str))::(963,("law":Str))::[]
noncomputable def QL:List aB:=[64,71,144,158,165,172,179,184,188,189,203,230,232,233,234,259,260,500,507,514,521,676,683,736,737,789,796,803,804,833,840,862,869,871,872,877,884,885,892,899,906,911,918,925,932,937,942,947,952,959,964]
noncomputable def GN:List (Str × af):=[("deque",.type "collections.deque"),("fspath",.ref 144),("_get_sep",.ref 158),("join_posixpath",.ref 165),("splitroot",.ref 172),("normpath",.ref 179),("commonpath",.ref 184),("_index",.ref 203),("StringIO",.ref 737),("BytesIO",.ref 490),("shlex",.ref 872),("split",.ref 884),("_find_unsafe",.ref 885),("quote",.ref 892),("median_low",.ref 64),("median_high",.ref 71),("_law_way",.ref 899),("_law_vote",.ref 906),("_law_line",.ref 911),("_law_places",.ref 918),("_law_names",.ref 925),("_law_rows",.ref 932),("_law_text",.ref 937),("_law_front",.ref 942),("_law_value",.ref 947),("_law_met",.ref 952),("_law_seen",.ref 959),("law",.ref 964)]
noncomputable def m9:List Str:=("_sre":Str)::("deque":Str)::("_wall":Str)::("StatisticsError":Str)::("median_low":Str)::("median_high":Str)::("_plain_name":Str)::("ABCMeta":Str)::("_ABCLike":Str)::("_abc_plain_meta":Str)::("fspath":Str)::("_check_arg_types":Str)::("check_arg_types_genericpath":Str)::("_get_sep":Str)::("join":Str)::("join_posixpath":Str)::("splitroot":Str)::("normpath":Str)::("commonpath":Str)::("_twin_re_1":Str)::("_whence":Str)::("_index":Str)::("UnsupportedOperation":Str)::("IOBase":Str)::("BufferedIOBase":Str)::("TextIOBase":Str)::("BytesIO":Str)::("StringIO":Str)::("_kind":Str)::("_fspath":Str)::("check_arg_types_path":Str)::("isabs":Str)::("join_path":Str)::("dirname":Str)::("shlex":Str)::("split":Str)::("_find_unsafe":Str)::("quote":Str)::("_law_way":Str)::("_law_vote":Str)::("_law_line":Str)::("_law_places":Str)::("_law_names":Str)::("_law_rows":Str)::("_law_text":Str)::("_law_front":Str)::("_law_value":Str)::("_law_met":Str)::("_law_seen":Str)::[]
noncomputable def Fo(o:Option jh):Option Str:=match o with
 | some ⟨_,_,.fields (vs:Array af),_⟩=>(match vs[1]? with
  | some (iF q _)=>some q
  | _=>none)
 | _=>none
theorem vt{h:fv}{c:aB}{q:Str}(e:Fo (h.get? c)=some q):h.CodeRec (.ref c) q:=by
 cases ho:h.get? c with
 | none=>rw [ho]at e;cases e
 | some o=>
  rw [ho]at e
  obtain⟨a,b,d,f⟩:=o
  cases d with
  | fields vs=>
   replace e:(match vs[1]? with
    | some (iF q _)=>some q
    | _=>none)=some q:=e
   cases hv:vs[1]? with
   | none=>rw [hv]at e;cases e
   | some x=>
    rw [hv]at e
    cases x with
    | str q' t=>cases e;exact⟨c,_,vs,t,rfl,ho,rfl,hv⟩
    | _=>cases e
  | _=>cases e
noncomputable def Er(ok:Nat->Option af->lZ->Bool)(st:mo->lZ->Option (mo × lZ))(n₀:Nat)(ann:Option af):Nat->mo->lZ->Option mo
 | 0,_,_=>none
 | n+1,s,t=>match through t with
  | true=>some s
  | false=>match ok n₀ ann t with
   | false=>none
   | true=>match st s t with
    | some (s',t')=>Er ok st n₀ ann n s' t'
    | none=>none
theorem Eo{ok:Nat->Option af->lZ->Bool}{st:mo->lZ->Option (mo × lZ)}{n₀:Nat}{ann:Option af}{n:Nat}{s:mo}{t:lZ}:Er ok st n₀ ann (n+1) s t=match through t with
  | true=>some s
  | false=>match ok n₀ ann t with
   | false=>none
   | true=>match st s t with
    | some (s',t')=>Er ok st n₀ ann n s' t'
    | none=>none:=rfl
theorem Ep{p:eE}{w:bG}{n₀:Nat}{ann:Option af}:∀(n:Nat) (s:mo) (t:lZ) (s':mo),Er Mu (stepT (MA je) p w) n₀ ann n s t=some s' ->
  topRun je p w n₀ ann n s.abs t=some s'.abs:=by
 intro n
 induction n with
 | zero=>
  intro _ _ _ h
  cases h
 | succ n ih=>
  intro s t s' h
  rw [Eo]at h
  unfold topRun
  cases ht:through t with
  | true=>rw [ht]at h;cases h;rfl
  | false=>
   rw [ht]at h
   cases hk:Mu n₀ ann t with
   | false=>rw [hk]at h;cases h
   | true=>
    rw [hk]at h
    cases hs:stepT (MA je) p w s t with
    | none=>rw [hs]at h;cases h
    | some r=>obtain⟨s₂,t₂⟩:=r;rw [hs]at h;rw [stepT_spec hs];exact ih s₂ t₂ s' h
noncomputable def rK:List jh->BT->Nat->Option BT
 | [],t,_=>some t
 | o::r,t,n=>match ((t.ins n o).get n).isSome with
  | true=>rK r (t.ins n o) (n+1)
  | false=>none
theorem zi(o:jh)(r:List jh)(t:BT)(n:Nat):rK (o::r) t n=match ((t.ins n o).get n).isSome with
  | true=>rK r (t.ins n o) (n+1)
  | false=>none:=rfl
theorem zh{life:Life}:∀(l:List jh) (t T:BT) (n:Nat),rK l t n=some T->sg T (n+l.length) life=⟨(sg t n life).objs++l.toArray,life⟩:=by
 intro l
 induction l with
 | nil=>
  intro t T n h
  cases h;simp [sg]
 | cons o r ih=>
  intro t T n h
  rw [zi]at h
  cases g:((t.ins n o).get n).isSome with
  | false=>rw [g]at h;cases h
  | true=>
   rw [g]at h
   have e:=ih _ T (n+1) h
   rw [show n+(o::r).length=n+1+r.length by simp;exact o0,e,absHeap_ins g]
   have:((sg t n life).push o).objs=(sg t n life).objs.push o:=by cases sg t n life;rfl
   rw [this]
   simp
noncomputable abbrev WP:=eE->ag->Option ag
noncomputable def Ll(ie:eE->bG->Nat->ag->lZ->Option ag)(fm:WP)(stt:eE->ag × lZ)(ns:fv->aB->Str->Option af)
  (ok:Nat->Option af->lZ->Bool)(st:eE->bG->mo->lZ->Option (mo × lZ))(im:List ir->List Str)
  {β:Type}(obs:eE->ag->β)(p:eE)(w:bG)(N:Nat):Option β:=
 match (ie (AD p) w N (stt (AD p)).1 (stt (AD p)).2).bind (fm p)with
 | some s=>match s.heap.isNs c8&&s.gens.size==0 with
  | true=>match rK s.heap.objs.toList .nil 0 with
   | some T=>match Er ok (st p w) s.heap.objs.size (ns s.heap c8 "__annotations__") N ⟨T,s.heap.objs.size,s.heap.life,s.gens,s.drawn,s.toks,s.os⟩ (topStub p)with
    | some s'=>match staticsOk (im p.main.body) s.heap s'.abs.heap&&Mw p s'.abs.heap&&gensDone s'.abs&&laidKept s.heap s'.abs.heap with
     | true=>some (obs p s'.abs)
     | false=>none
    | none=>none
   | none=>none
  | false=>none
 | none=>none
theorem IJ{β:Type}{obs:eE->ag->β}{p:eE}{w:bG}{N:Nat}{b:β}
  (h:Ll (Mz je) DP start nP Mu (stepT (MA je)) lW obs p w N=some b) :
  (openEnds je p w N).map (obs p)=some b:=by
 unfold Ll at h
 unfold openEnds fencedOpening
 cases e0:(Mz je (AD p) w N (start (AD p)).1 (start (AD p)).2).bind (DP p)with
 | none=>rw [e0]at h;cases h
 | some s=>
  rw [e0]at h
  show(topFrom je p w N s).map _=_
  dsimp only at h
  unfold topFrom
  cases e1:(s.heap.isNs c8&&s.gens.size==0)with
  | false=>rw [e1]at h;cases h
  | true=>
   rw [e1]at h
   dsimp only at h ⊢
   cases e2:rK s.heap.objs.toList .nil 0 with
   | none=>rw [e2]at h;cases h
   | some T=>
    rw [e2]at h
    dsimp only at h
    have hT:sg T s.heap.objs.size s.heap.life=s.heap:=by
     have:=zh (life:=s.heap.life) _ _ _ _ e2
     rw [eo,CY]at this
     rw [this]
     obtain⟨⟨⟨objs⟩,life⟩,_⟩:=s
     simp [sg,BT.list]
    cases e3:Er Mu (stepT (MA je) p w) s.heap.objs.size (s.heap.nsMap c8 "__annotations__") N ⟨T,s.heap.objs.size,s.heap.life,s.gens,s.drawn,s.toks,s.os⟩ (topStub p)with
    | none=>rw [e3]at h;cases h
    | some s'=>
     rw [e3]at h
     dsimp only at h
     have e4:=Ep _ _ _ _ e3
     have e5:LF ⟨T,s.heap.objs.size,s.heap.life,s.gens,s.drawn,s.toks,s.os⟩=s:=by
      unfold LF
      dsimp only
      rw [hT]
     rw [e5]at e4
     rw [e4]
     show(match staticsOk (lW p.main.body) s.heap s'.abs.heap&&Mw p s'.abs.heap&&gensDone s'.abs&&laidKept s.heap s'.abs.heap with | true=>some s'.abs | false=>none).map _=_
     cases e6:staticsOk (lW p.main.body) s.heap s'.abs.heap&&Mw p s'.abs.heap&&gensDone s'.abs&&laidKept s.heap s'.abs.heap with
     | false=>rw [e6]at h;cases h
     | true=>rw [e6]at h;exact h
end
end Mine
end
section
set_option maxHeartbeats 0
namespace Mine
noncomputable section
noncomputable def j6(p:eE):eE:={ p with main:={ p.main with body:=[aL p 62] } }
noncomputable def Vf(p:eE)(s:ag):Bool:=xlAt (j6 p) [] s&&recOk [] s
noncomputable def HN:af->Bool
 | .str _ _=>true
 | _=>false
noncomputable def BY:af->Bool
 | .int _ _=>true
 | _=>false
noncomputable def Dq:af->Bool
 | .bool _=>true
 | _=>false
noncomputable def NQ(d:Data)(k:Array af->Bool):Bool:=match d with
 | .fields vs=>k vs
 | _=>false
noncomputable def Mg(o:jh):Bool:=o.cls == .type "code"&&NQ o.data λvs=>vs[11]? == some (.ref 949)&&vs.getD 11 .none == .ref 949&&HN (vs.getD 18 .none)&&BY (vs.getD 7 .none)&&Dq (vs.getD 9 .none)&&BY (vs.getD 10 .none)
noncomputable def Ov(o:jh):Bool:=o.cls == .none&&o.dict.isNone&&NQ o.data (·.isEmpty)&&o.slots.isEmpty
noncomputable def ID(h:fv):Bool:=(h.get? 951).any Mg&&(h.get? 949).any Ov
noncomputable abbrev I9:=List (Option jh) × Bool × List (Option af) × List (Option Str)
noncomputable def Dh(ns:fv->aB->Str->Option af)(s:ag):I9:=(QL.map s.heap.get?,s.heap.isNs c8&&(s.heap.get? 490).isSome&&s.heap.isNs JD&&(ns s.heap JD "thirdparty.any").isNone&&ID s.heap,(GN.map λx=>ns s.heap c8 x.1),CQ.map λx=>Fo (s.heap.get? x.1))
noncomputable def M0{β:Type}(seen:eE->List Str->List Str->(ag->Bool)->Bool->ag->β)(im:List ir->List Str)(ns:fv->aB->Str->Option af)(p:eE)(s:ag):β × I9:=
 (seen (j6 p) m9 (im p.main.body) (Vf p) true s,Dh ns s)
noncomputable def Gk(p:eE)(P:dX):I9:=((KK p P).map λx=>some x.2,true,(GN.map λx=>some x.2),CQ.map λx=>some x.2)
noncomputable abbrev QS:eE:=PySem.Challenge.pw_ik0231_01
theorem U6(w:bG):Ll (PySem.W.Fast.tw10274390034422433532 nu) PySem.W.Fast.tw14289696077712309145 PySem.W.Fast.tw1435165496053646825 nK
  PySem.W.Fast.tw6613529449190102663 (PySem.W.Fast.tw10156331382660048174 (PySem.W.Fast.tw11892475500146522536 nu)) nL
  (M0 PySem.W.Fast.tw4187177175401517315 nL nK) QS w 20000=some (openGood (j6 QS) m9,Gk QS w.params):=by
 kernel_rfl
theorem WM(w:bG):Ll (Mz je) DP start nP Mu (stepT (MA je)) lW (M0 openSeen lW nP) PySem.Challenge.pw_ik0231_01 w 20000 =
  some (openGood (j6 PySem.Challenge.pw_ik0231_01) m9,Gk PySem.Challenge.pw_ik0231_01 w.params):=by
 rw [PySem.W.Fast.te10274390034422433532,PySem.W.Fast.te14364793385576792824,PySem.W.Fast.te14289696077712309145,PySem.W.Fast.te1435165496053646825,PySem.W.Fast.te8920871248978507458,PySem.W.Fast.te6613529449190102663,
  PySem.W.Fast.te10156331382660048174,PySem.W.Fast.te11892475500146522536,PySem.W.Fast.te5923862056798008813,PySem.W.Fast.te4187177175401517315]
 exact U6 w
end
end Mine
end
section
set_option maxHeartbeats 0
namespace Mine
noncomputable section
structure CB(w:bG)(h:fv):Prop where
 k:(KK pw w.params).In h
 g:∃mg,h.Ns c8 mg /\ ∀x∈GN,mg x.1=some x.2
 c:∀x∈CQ,h.CodeRec (.ref x.1) x.2
 e:∃o,h.get? 490=some o
 t:∃m,h.Ns JD m/\m "thirdparty.any"=none
 hd:CodeHd h 951 949
 tb:h.get? 949=some (mN #[])
theorem Dm(p:eE)(P:dX):QL=(KK p P).map (·.1):=∅
theorem oz{α β:Type}{f g:α->β}{l:List α}(h:l.map f=l.map g):∀x∈l,f x=g x:=List.map_inj_left.mp h
theorem BW{v:af}(h:HN v=true):∃a b,v = .str a b:=by
 cases v with
 | str a b=>exact⟨a,b,rfl⟩
 | _=>exact absurd h aX
theorem uX{v:af}(h:BY v=true):∃a b,v = .int a b:=by
 cases v with
 | int a b=>exact⟨a,b,rfl⟩
 | _=>exact absurd h aX
theorem zU{v:af}(h:Dq v=true):∃a,v = .bool a:=by
 cases v with
 | bool a=>exact⟨a,rfl⟩
 | _=>exact absurd h aX
theorem z8{d:Data}{k:Array af->Bool}(h:NQ d k=true):∃vs,d = .fields vs/\k vs=true:=by
 cases d with
 | fields vs=>exact⟨vs,rfl,h⟩
 | _=>exact absurd h aX
theorem Fu{o:jh}{h:fv}(ho:h.get? 951=some o)(e:Mg o=true):CodeHd h 951 949:=by
 obtain⟨e1,e⟩:=aO.mp e
 obtain⟨vs,hd,e⟩:=z8 e
 obtain⟨e,a6⟩:=aO.mp e
 obtain⟨e,a5⟩:=aO.mp e
 obtain⟨e,a4⟩:=aO.mp e
 obtain⟨e,a3⟩:=aO.mp e
 obtain⟨a1,a2⟩:=aO.mp e
 have⟨b1,b2,a3⟩:=BW a3
 have⟨c1,c2,a4⟩:=uX a4
 have⟨d1,a5⟩:=zU a5
 have⟨f1,f2,a6⟩:=uX a6
 exact⟨o,vs,b1,b2,c1,c2,d1,f1,f2,ho,aJ e1,hd,aJ a1,aJ a2,a3,a4,a5,a6,by decide⟩
theorem Gu{o:jh}(e:Ov o=true):o=mN #[]:=by
 obtain⟨e,a4⟩:=aO.mp e
 obtain⟨e,a3⟩:=aO.mp e
 obtain⟨a1,a2⟩:=aO.mp e
 have⟨vs,a3,h3⟩:=z8 a3
 obtain⟨c,d,t,l⟩:=o
 cases (show c = .none from aJ a1)
 cases (show d=none from cK.mp a2)
 cases (show t = .fields vs from a3)
 cases (show vs = #[]from FW.mp h3)
 cases (show l = #[]from FW.mp a4)
 rfl
theorem sI{h:fv}(e:ID h=true):CodeHd h 951 949/\h.get? 949=some (mN #[]):=by
 obtain⟨e1,e2⟩:=aO.mp e
 obtain⟨o,h1,e1⟩:=AW e1
 obtain⟨o',h2,e2⟩:=AW e2
 exact⟨Fu h1 e1,Gu e2▸h2⟩
theorem J6{w:bG}{s:ag}(e:Dh nP s=Gk pw w.params):CB w s.heap:=by
 obtain⟨e1,e2⟩:=eR e
 obtain⟨e2,e3⟩:=eR e2
 obtain⟨e3,e4⟩:=eR e3
 obtain⟨e2,e8⟩:=aO.mp e2
 obtain⟨e2,e7⟩:=aO.mp e2
 obtain⟨e2,e6⟩:=aO.mp e2
 obtain⟨e2,e5⟩:=aO.mp e2
 exact⟨Frag.in_of (Dm pw w.params) e1,⟨_,.of_isNs e2,oz e3⟩,λx hx=>vt (oz e4 x hx),fX.mp e5,⟨_,.of_isNs e6,cK.mp e7⟩,(sI e8).1,(sI e8).2⟩
theorem CB.keeps(w:bG)(h h':fv)(x:CB w h)(hk:∀b o,h.get? b=some o->h'.get? b=some o):CB w h':=
 ⟨x.k.keeps hk,let ⟨mg,a,b⟩:=x.g;⟨mg,a.keeps hk,b⟩,λy hy=>(x.c y hy).keeps hk,let ⟨o,a⟩:=x.e;⟨o,hk _ _ a⟩,let ⟨m,a,b⟩:=x.t;⟨m,a.keeps hk,b⟩,x.hd.keeps hk,hk _ _ x.tb⟩
theorem left:LeftO pw (j6 pw) m9 (Vf pw) (Dh nP) (λw=>Gk pw w.params) 20000:=by
 intro w
 have h:=IJ (WM w)
 unfold M0 at h
 exact h
noncomputable def nc:DefRec:=match aL pw 62 with
 | .FunctionDef name params body _ _ _ scope _ _ pos=>⟨name,params,body,scope,pos⟩
 | _=>⟨bN,bN,bN,bN,bN⟩
theorem t1:defOf (j6 pw) PySem.Challenge.rw_ik0231_01.row.name=some (nc,[]):=∅
theorem t2:PySem.Challenge.rw_ik0231_01.row.prog.theDef PySem.Challenge.rw_ik0231_01.row.name=some (nc.params,nc.body,nc.scope):=∅
theorem t3:kwWritten? nc.params.kwonlyargs nc.params.kw_defaults=some []:=∅
theorem t4:(chainsOk (j6 pw)&&opensWell PySem.Challenge.rw_ik0231_01.row.prog&&(frees PySem.Challenge.rw_ik0231_01.row.toRowW&&PySem.Challenge.rw_ik0231_01.row.within.isEmpty))=true:=by decide+kernel
theorem t5:PySem.Challenge.rw_ik0231_01.row.prog.bare:=⟨rfl,rfl,rfl,rfl,rfl,by decide+kernel⟩
theorem t6:PySem.Challenge.rw_ik0231_01.row.toRowW.promised:=by w_witness2
theorem PR:LeftO PySem.Challenge.rw_ik0231_01.row.prog (j6 pw) m9 (Vf pw) (Dh nP) (λw=>Gk pw w.params) 20000:=left
theorem head(call:WalkO (j6 pw) m9 (XL (j6 pw) []) CB PySem.Challenge.rw_ik0231_01.row.toRowW nc [] λf vs=>PySem.call f vs):PySem.Challenge.rw_ik0231_01.Holds:=by
 refine Nl λMW=>?_
 exact holds_open (r:=PySem.Challenge.rw_ik0231_01.row) PR (λw s e=>J6 e) CB.keeps (λs e=>xl_of s (aO.mp e).1) XL.keeps t1 t2 t3 (λs e=>recFacts_nil rfl) rfl MW t4 t5 t6 call
end
end Mine
end
section
namespace Mine
noncomputable section
noncomputable def BN:List (Str × af):=("abs",.builtin "abs")::("isinstance",.builtin "isinstance")::("issubclass",.builtin "issubclass")::("len",.builtin "len")::("sorted",.builtin "sorted")::("max",.builtin "max")::("min",.builtin "min") ::
 ("type",.type "type")::("str",.type "str")::("bytes",.type "bytes")::("tuple",.type "tuple")::("list",.type "list")::("map",.type "map")::("range",.type "range")::("enumerate",.type "enumerate") ::
 ("bool",.type "bool")::("int",.type "int")::("object",.type "object")::("StopIteration",.type "StopIteration")::[]
structure dC(w:bG)(h:fv):Prop where
 k:(KK pw w.params).In h
 c:∀x∈CQ,h.CodeRec (.ref x.1) x.2
 e:∃o,h.get? 490=some o
 t:∃m,h.Ns JD m/\m "thirdparty.any"=none
 hd:CodeHd h 951 949
 lim:h.NoLimit
 g:∃mg,h.Ns c8 mg/\(∀x∈GN,mg x.1=some x.2) /\ ∀x∈BN,mg x.1=none
 b:∃mb,h.Ns jN mb /\ ∀x∈BN,mb x.1=some x.2
 u:∃mg bm ob,h.Ns c8 mg/\mg "__builtins__"=some (.ref bm)/\bm≠jN/\h.get? bm=some ob/\ob.cls = .type "module"/\ob.dict=some jN/\ob.data = .plain
theorem dC.keeps{w:bG}{h h':fv}(x:dC w h)(hk:∀b o,h.get? b=some o->h'.get? b=some o):dC w h':=
 ⟨x.k.keeps hk,λy hy=>(x.c y hy).keeps hk,x.e.imp λζ a=>hk _ _ a,x.t.imp λζ q=>⟨q.1.keeps hk,q.2⟩,x.hd.keeps hk,x.lim.keeps hk,x.g.imp λζ q=>⟨q.1.keeps hk,q.2⟩,x.b.imp λζ q=>⟨q.1.keeps hk,q.2⟩,x.u.imp λζ=>CX λζ=>CX λζ q=>⟨q.1.keeps hk,q.2.1,q.2.2.1,hk _ _ q.2.2.2.1,q.2.2.2.2⟩⟩
theorem KA:(QL.contains 949||(CQ.map (·.1)).contains 949)=false:=by decide+kernel
theorem wP{α β:Type} [BEq α] [LawfulBEq α]{a:α}{b:β}:∀{l:List (α × β)},l.lookup a=some b->(a,b)∈l
 | (x,y)::r,h=>by
  rw [ba]at h
  cases e:a==x with
  | true=>
   rw [e]at h
   have:=aJ e
   cases h
   subst this
   exact aj
  | false=>
   rw [e]at h
   exact an _ (wP h)
theorem dC.hide{w:bG}{h:fv}(x:dC w h)(tb:h.get? 949=some (mN #[])):dC w (sf h [949]):=by
 have ne:∀a o,h.get? a=some o->o.cls ≠ .none->(sf h [949]).get? a=some o:=λa o e hc=>lC _ e λq=>by
  rw [aC]at q
  subst q
  rw [tb]at e
  cases e
  exact hc rfl
 have hk:=KA
 rw [f9]at hk
 have ns:∀{L:aB} {m:Str->Option af},L≠949->h.Ns L m->(sf h [949]).Ns L m:=λhL ⟨o,es,n,e,r⟩=>⟨o,es,n,lC _ e λq=>hL (aC.mp q),r⟩
 refine⟨λa o e=>lC _ (x.k a o e) λq=>?_,λy hy=>?_,?_,?_,?_,?_,?_,?_,?_⟩
 ·rw [aC]at q
  subst q
  have hm:(949:aB)∈QL:=by
   rw [Dm pw w.params]
   exact dE (wP e)
  have:=hk.1
  rw [kD]at this
  simp [hm]at this
 ·obtain⟨c,o,vs,t,e1,e2,e3⟩:=x.c y hy
  injection e1 with e1
  subst e1
  refine⟨y.1,o,vs,t,rfl,lC _ e2 λq=>?_,e3⟩
  rw [aC]at q
  have hm:(949:aB)∈CQ.map (·.1):=q▸dE hy
  have:=hk.2
  rw [kD]at this
  simp [hm]at this
 ·obtain⟨o,e⟩:=x.e
  exact⟨o,lC _ e (by decide)⟩
 ·obtain⟨m,a,b⟩:=x.t
  exact⟨m,ns (by decide) a,b⟩
 ·obtain⟨o,vs,file,tf,flags,tg,Nz,text,tt,e,r⟩:=x.hd
  exact⟨o,vs,file,tf,flags,tg,Nz,text,tt,lC _ e (by decide),r⟩
 ·obtain⟨m,a,b⟩:=x.lim
  exact⟨m,ns (by decide) a,b⟩
 ·obtain⟨m,a,b⟩:=x.g
  exact⟨m,ns (by decide) a,b⟩
 ·obtain⟨m,a,b⟩:=x.b
  exact⟨m,ns (by decide) a,b⟩
 ·obtain⟨mg,bm,ob,a,b,c,d,e,r⟩:=x.u
  exact⟨mg,bm,ob,ns (by decide) a,b,c,ne _ _ d (by rw [e];decide),e,r⟩
noncomputable def Ja:Prop:=∀(w:bG) (s:ag) (l:aB) (vs:List af) (ns:List Int),dC w s.heap->s.heap.get? 949=some (mN #[])->s.heap.get? l=some { cls:=.type "list",dict:=none,data:=.seq vs.toArray,slots := #[] }->IntsAre vs ns->ns.length<=63 ->
 aq (aw pw w) callerA (call (.ref 964) [.ref l]) (λv s'=>v = .bool true/\(∀b o,b≠949->s.heap.get? b=some o->s'.heap.get? b=some o)/\(∃ps,s'.heap.get? 949=some (mN ps))/\s'.os=s.os/\s'.gens=s.gens) (λζ ζ=>False) s
noncomputable def HT(x:Str):Bool :=!(startupNames.contains x||(looseW (j6 pw) m9).contains x||((recsOf (j6 pw)).map (·.name)).contains x||((litsOf (j6 pw)).map (·.1)).contains x||((clssOf (j6 pw) (looseW (j6 pw) m9)).map (·.name)).contains x)
theorem Lp:(BN.all λx=>HT x.1)=true:=by decide+kernel
theorem Lq:(BN.all λx=>decide (bootBuiltins x.1=some x.2)&&x.1 != "__name__")=true:=by decide+kernel
theorem ND:(("law":Str),(j2 964))∈GN:=by unfold GN;repeat (first | exact Ge _ | apply Gc)
theorem Hv:nc.name="law":=∅
set_option tactic.hygienic true in
theorem MT(call:Ja):WalkO (j6 pw) m9 (XL (j6 pw) []) CB PySem.Challenge.rw_ik0231_01.row.toRowW nc [] λf vs=>PySem.call f vs:=by
 intro w s₀ s₁ mg mb G Y fa o pm cd doc dV kV ho hd hcd hD hmg hg args vals as hpre hlay hrd hwl hlo
 refine Ground.open G ?_
 intro T B D TE TW
 have hB:dC w s₁.heap:=by
  obtain⟨mg',a,b⟩:=Y.g
  have hmm:∀x,mg' x=mg x:=λx=>by
   obtain⟨o1,e1,n1,h1,d1,k1,f1⟩:=a
   obtain⟨o2,e2,n2,h2,d2,k2,f2⟩:=T.g
   rw [h1]at h2
   cases h2
   rw [d1]at d2
   cases d2
   rw [<-f1,<-f2]
  refine⟨Y.k,Y.c,Y.e,Y.t,Y.hd,T.nolimit,⟨mg,T.g,λx hx=>(hmm x.1).symm.trans (b x hx),λx hx=>?_⟩,⟨mb,T.b,λx hx=>?_⟩,let ⟨bm,ob,h1,h2,h3,r⟩:=T.bmain;⟨mg,bm,ob,T.g,h1,h2,h3,r⟩⟩
  ·have:=bu.mp Lp x hx
   unfold HT at this
   simp only [cG,f9,kD,decide_eq_false_iff_not]at this
   obtain⟨⟨⟨⟨h1,h2⟩,h3⟩,h4⟩,h5⟩:=this
   exact T.free x.1 h1 h2 h3 h4 h5
  ·have:=bu.mp Lq x hx
   simp only [bd,decide_eq_true_eq,bne_iff_ne]at this
   exact(T.builtins x.1 this.2).trans this.1
 have hfa:fa=964:=by
  obtain⟨mg',a,b,_⟩:=hB.g
  have h1:=b _ ND
  obtain⟨o1,e1,n1,h1',d1,k1,f1⟩:=a
  obtain⟨o2,e2,n2,h2,d2,k2,f2⟩:=T.g
  rw [h1']at h2
  cases h2
  rw [d1]at d2
  cases d2
  rw [<-f1,f2,<-Hv,hmg]at h1
  cases h1
  rfl
 subst hfa
 wrow_args hpre hlay hrd hwl hlo
 rename_i ns _ _ _ _ _ _ _ l vs _ hL _ hW _ hI _ hlen _
 have hE:s₁.heap.get? l=some { cls:=.type "list",dict:=none,data:=.seq vs.toArray,slots := #[] }:=by
  obtain⟨o,e1,_,k,e2⟩:=hL
  have hW':Well w.params s₁.heap (.ref l) (.list (ofPys (ns.map PyData.int))):=hW
  cases hW' with
  | list e3 _=>
   rw [e1]at e3
   cases e3
   injection e2 with e2 _
   rw [<-e2]
   exact e1
 refine ar (call w s₁ l vs ns hB Y.tb hE hI (by exact o1 hlen)) ?_ λζ ζ x=>x.elim
 rintro v s' ⟨rfl,hk,⟨ps,hps⟩,hos,hgn⟩
 refine⟨.inl ⟨_,.bool true,[],rfl,λcls=>rfl,.bool true,postW_of rfl (w_eq_bool (w_res rfl) w_lit) rfl,unshared_nil⟩,⟨λb o e=>?_,λb o e=>?_⟩,hos,.of_eq (hgn.trans hg)⟩
 ·by_cases hb:b=949
  ·subst hb
   rw [Y.tb]at e
   cases e
   exact .inr (.inl ⟨(Y.hd.tab Y.tb).isCodeTable,rfl,#[],ps,rfl,by rw [hps];simp⟩)
  ·exact .inl (hk b o hb e)
 ·by_cases hb:b=949
  ·subst hb
   exact⟨_,hps⟩
  ·exact⟨o,hk b o hb e⟩
theorem holds_of(call:Ja):PySem.Challenge.rw_ik0231_01.Holds:=head (MT call)
end
end Mine
end
section
namespace Mine
noncomputable abbrev LS:=List Nat
inductive PV where
 | none
 | bool (b:Bool)
 | int (i:Int)
 | str (s:LS)
 | list (l:List PV)
 | tup (l:List PV)
 | val (v:af)
 | obj (k:Nat)
 deriving Inhabited
inductive aN where
 | lst (l:List PV)
 | inst (C:aB) (fs:List (Str × PV))
 | deq
 | dead
 | tab
 deriving Inhabited
noncomputable abbrev br:=List (Str × PV)
inductive Fl where
 | next | brk | cont
 | ret (v:PV)
noncomputable def ls(s:Str):LS:=s.cps.toList
noncomputable abbrev SZ:Nat:=1000000
noncomputable def mkS(l:LS):Option PV:=if l.length<=SZ then some (.str l)else none
noncomputable def mkL(l:List PV):Option PV:=if l.length<=SZ then some (.list l)else none
noncomputable def mkT(l:List PV):Option PV:=if l.length<=SZ then some (.tup l)else none
noncomputable def jb(l:LS):Bool:=l.all λc=>decide (c<1114112)
mutual
noncomputable def uD:Nat->PV->Bool
 | _,.none=>true
 | _,.int _=>true
 | _,.str _=>true
 | n+1,.list l=>om n l
 | n+1,.tup l=>om n l
 | _,_=>false
noncomputable def om:Nat->List PV->Bool
 | _,[]=>true
 | n,x::r=>uD n x&&om n r
end
mutual
noncomputable def yC:PV->PV->Bool
 | .none,b=>(match b with | .none=>true | _=>false)
 | .int i,b=>(match b with | .int j=>i==j | _=>false)
 | .str s,b=>(match b with | .str t=>s==t | _=>false)
 | .list x,b=>(match b with | .list y=>mD x y | _=>false)
 | .tup x,b=>(match b with | .tup y=>mD x y | _=>false)
 | _,_=>false
noncomputable def mD:List PV->List PV->Bool
 | [],b=>(match b with | []=>true | _=>false)
 | x::r,b=>(match b with | y::q=>yC x y&&mD r q | []=>false)
end
noncomputable def AL(a b:PV):Option Bool:=if uD 6 a&&uD 6 b then some (yC a b)else none
noncomputable def pS:PV->Option LS
 | .str s=>some s
 | _=>none
noncomputable def fg(l:List PV):Option (List LS):=l.mapM pS
noncomputable def gf(l:List PV):Option (List (List LS)):=l.mapM fun | .list x=>fg x | _=>none
noncomputable def ga(l:List LS):List LS:=l.mergeSort λa b =>!decide (b<a)
noncomputable def iJ{α:Type}(bt:α->α->Bool):List α->Option α
 | []=>none
 | x::r=>some (r.foldl (λb y=>if bt y b then y else b) x)
noncomputable def aQ(sep:Nat):LS->List LS
 | []=>[[]]
 | c::r=>if c=sep then []::aQ sep r else match aQ sep r with
  | []=>[[c]]
  | h::t=>(c::h)::t
theorem cy(s c:Nat)(r:LS):aQ s (c::r)=if c=s then []::aQ s r else match aQ s r with
  | []=>[[c]]
  | h::t=>(c::h)::t:=rfl
noncomputable def cj(sep:LS):List LS->LS
 | []=>[]
 | [x]=>x
 | x::r=>x++sep++cj sep r
noncomputable def dN(c:Nat)(by_:LS)(s:LS):LS:=s.flatMap λx=>if x=c then by_ else [x]
noncomputable def cU(c:Nat):Bool :=!((48<=c&&c<=57)||(65<=c&&c<=90)||(97<=c&&c<=122)||c==95||c==64||c==37||c==43||c==61||c==58||c==44||c==46||c==47||c==45)
noncomputable def KN(i:Int)(n:Nat):Option Nat:=if 0<=i then(if i<n then some i.toNat else none)else if 0<=i+n then some (i+n).toNat else none
noncomputable def jX(i:Int)(n:Nat):Nat:=if i<0 then(max 0 (i+n)).toNat else(yU i n).toNat
noncomputable def r6(i:Int)(n:Nat):Nat:=if i<0 then(i+n).toNat else i.toNat
noncomputable def dH{α:Type}(l:List α)(a b:Option Int):List α:=
 let t:=match b with
  | none=>l
  | some j=>l.take (r6 j l.length)
 match a with
 | none=>t
 | some i=>t.drop (r6 i l.length)
noncomputable def iD{α:Type}(l:List α)(i:Int):Option α:=if 0<=i then l[i.toNat]? else if 0<=i+l.length then l[(i+l.length).toNat]? else none
noncomputable def L3:aN->Option (List PV)
 | .lst l=>some l
 | _=>none
noncomputable def lJ(R:List aN):PV->Option (List PV)
 | .list l=>some l
 | .tup l=>some l
 | .obj k=>R[k]?.bind L3
 | _=>none
noncomputable def Gp:aN->Option Bool
 | .lst l=>some (!l.isEmpty)
 | .deq=>some false
 | _=>none
noncomputable def qh(R:List aN):PV->Option Bool
 | .none=>some false
 | .bool b=>some b
 | .int i=>some (decide (i≠0))
 | .str s=>some (!s.isEmpty)
 | .list l=>some (!l.isEmpty)
 | .tup l=>some (!l.isEmpty)
 | .obj k=>R[k]?.bind Gp
 | _=>none
noncomputable def iG:List (Str × PV)->Str->PV->List (Str × PV)
 | [],n,v=>[(n,v)]
 | (m,x)::r,n,v=>if m==n then(m,v)::r else(m,x)::iG r n v
theorem oa(m:Str)(x:PV)(r:List (Str × PV))(n:Str)(v:PV):iG ((m,x)::r) n v=if m==n then(m,v)::r else(m,x)::iG r n v:=rfl
noncomputable def jR(σ:br)(x:Str)(v:PV):br:=iG σ x v
mutual
noncomputable def sub(k:Nat)(l:List PV):PV->PV
 | .none=>.none
 | .bool b=>.bool b
 | .int i=>.int i
 | .str s=>.str s
 | .list xs=>.list (la k l xs)
 | .tup xs=>.tup (la k l xs)
 | .val v=>.val v
 | .obj j=>if j=k then .list l else .obj j
noncomputable def la(k:Nat)(l:List PV):List PV->List PV
 | []=>[]
 | x::r=>sub k l x::la k l r
end
noncomputable def l9(k:Nat)(l:List PV)(σ:List (Str × PV)):List (Str × PV):=σ.map λx=>(x.1,sub k l x.2)
noncomputable def vX(k:Nat)(l:List PV):aN->aN
 | .lst xs=>.lst (la k l xs)
 | .inst C fs=>.inst C (l9 k l fs)
 | r=>r
noncomputable def U2(k:Nat)(σ:br)(R:List aN):aN->br × List aN
 | .lst l=>(l9 k l σ,(R.map (vX k l)).set k .dead)
 | _=>(σ,R)
noncomputable def rf(k:Nat)(σ:br)(R:List aN):br × List aN:=match R[k]? with
 | some r=>U2 k σ R r
 | none=>(σ,R)
noncomputable def u8:List Nat->br->List aN->br × List aN
 | [],σ,R=>(σ,R)
 | k::ks,σ,R=>u8 ks (rf k σ R).1 (rf k σ R).2
noncomputable def below(k n:Nat):List Nat:=(cM (n-k)).map (· + k)
end Mine
end
section
namespace Mine
set_option genInjectivity false
inductive EV where
 | name (x:Str)
 | const (c:Const)
 | call (f:Expr) (as:List Expr) (ks:List cQ) (p:dS)
 | attr (o:Expr) (a:Str) (p:dS)
 | lam (ps:iC) (b:Expr) (sc:Scope)
 | tup (es:List Expr)
 | list (es:List Expr)
 | setc (elt:Expr) (gs:List fJ) (sc:Scope)
 | listc (elt:Expr) (gs:List fJ) (sc:Scope)
 | bin (l:Expr) (op:cw) (r:Expr)
 | un (op:UnaryOp) (x:Expr)
 | ife (t a b:Expr)
 | boolop (op:BoolOp) (es:List Expr)
 | cmp (l:Expr) (ops:List mU) (rs:List Expr)
 | sub (v i:Expr)
 | slice (a b c:Option Expr)
 | oth
noncomputable def jE:Expr->EV
 | .Name x _=>.name x
 | .Constant c _ _=>.const c
 | .Call f as ks p=>.call f as ks p
 | .Attribute o a p=>.attr o a p
 | .Lambda ps b sc _=>.lam ps b sc
 | .Tuple es _ _=>.tup es
 | .List es _=>.list es
 | .SetComp elt gs sc _=>.setc elt gs sc
 | .ListComp elt gs sc _=>.listc elt gs sc
 | .BinOp l op r _=>.bin l op r
 | .UnaryOp op x _=>.un op x
 | .IfExp t a b _=>.ife t a b
 | .BoolOp op es _=>.boolop op es
 | .Compare l ops rs _=>.cmp l ops rs
 | .Subscript v i _=>.sub v i
 | .Slice a b c _=>.slice a b c
 | _=>.oth
section
variable {α γ:Type}
noncomputable def LY(v:EV)(d:γ)(k:Str->γ):γ:=match v with
 | .name x=>k x
 | _=>d
noncomputable def kE(e:Expr)(d:γ)(k:Str->γ):γ:=LY (jE e) d k
noncomputable def yr(v:EV)(d:γ)(k:Const->γ):γ:=match v with
 | .const c=>k c
 | _=>d
noncomputable def Gz(e:Expr)(d:γ)(k:Str->γ):γ:=yr (jE e) d λc=>match c with
 | .str s=>k s
 | _=>d
noncomputable def Mi(v:EV)(d:γ)(k:Expr->List Expr->List cQ->dS->γ):γ:=match v with
 | .call f as ks p=>k f as ks p
 | _=>d
noncomputable def vy(e:Expr)(d:γ)(k:Expr->List Expr->List cQ->dS->γ):γ:=Mi (jE e) d k
noncomputable def Ml(v:EV)(d:γ)(k:Expr->Str->dS->γ):γ:=match v with
 | .attr o a p=>k o a p
 | _=>d
noncomputable def IT(e:Expr)(d:γ)(k:Expr->Str->dS->γ):γ:=Ml (jE e) d k
noncomputable def PS(v:EV)(d:γ)(k:iC->Expr->Scope->γ):γ:=match v with
 | .lam ps b sc=>k ps b sc
 | _=>d
noncomputable def PT(e:Expr)(d:γ)(k:iC->Expr->Scope->γ):γ:=PS (jE e) d k
noncomputable def oo(l:List α)(d:γ)(k:γ):γ:=match l with
 | []=>k
 | _::_=>d
noncomputable def j9(l:List α)(d:γ)(k:α->γ):γ:=match l with
 | []=>d
 | a::r=>oo r d (k a)
noncomputable def xB(l:List α)(d:γ)(k:α->α->γ):γ:=match l with
 | []=>d
 | a::r=>j9 r d (k a)
noncomputable def optO(o:Option α)(d:γ)(k:α->γ):γ:=match o with
 | some a=>k a
 | none=>d
noncomputable def nC(v:PV)(d:γ)(k:Int->γ):γ:=match v with
 | .int i=>k i
 | _=>d
noncomputable def sY(v:PV)(d:γ)(k:LS->γ):γ:=match v with
 | .str s=>k s
 | _=>d
noncomputable def jL(v:PV)(d:γ)(k:List PV->γ):γ:=match v with
 | .list l=>k l
 | _=>d
noncomputable def aV(v:PV)(d:γ)(k:List PV->γ):γ:=match v with
 | .tup l=>k l
 | _=>d
noncomputable def DK(v:PV)(d:γ)(k:Bool->γ):γ:=match v with
 | .bool b=>k b
 | _=>d
noncomputable def OK(v:PV)(d:γ)(k:Nat->γ):γ:=match v with
 | .obj j=>k j
 | _=>d
noncomputable def OC(v:af)(d:γ)(k:aB->γ):γ:=match v with
 | .ref a=>k a
 | _=>d
end
noncomputable def bnd{α β γ:Type}(x:Option (α × β))(k:α->β->Option γ):Option γ:=match x with
 | some y=>k y.1 y.2
 | none=>none
noncomputable def grd{γ:Type}(c:Bool)(k:Option γ):Option γ:=bif c then k else none
noncomputable def fM{α:Type}(x:Option α)(R:List aN):Option (α × List aN):=optO x none λv=>some (v,R)
noncomputable def jv{γ:Type}(R:List aN)(v:PV)(k:Nat->aB->List (Str × PV)->Option γ):Option γ:=match v with
 | .obj j=>optO R[j]? none λr=>(match r with
  | .inst C fs=>k j C fs
  | _=>none)
 | _=>none
noncomputable def C9{γ:Type}(R:List aN)(j:Nat)(k:List PV->Option γ):Option γ:=optO R[j]? none λr=>(match r with
  | .lst l=>k l
  | _=>none)
noncomputable def BB:PV->Bool
 | .val _=>false
 | _=>true
structure Jf where
 fd:FD
 dflt:List PV
noncomputable def Qf(p:eE):List (aB × Jf):=
 [(64,⟨bv (aL p 5),[]⟩),(71,⟨bv (aL p 6),[]⟩),(144,⟨bv (aL p 15),[]⟩),(158,⟨bv (aL p 20),[]⟩),(165,⟨bv (aL p 21),[]⟩),(172,⟨bv (aL p 23),[]⟩),(179,⟨bv (aL p 24),[]⟩),(184,⟨bv (aL p 25),[]⟩),(203,⟨bv (aL p 29),[]⟩),
 (507,⟨bv (bL p 35 1),[.str [],.str [10]]⟩),(514,⟨bv (bL p 35 2),[]⟩),(521,⟨bv (bL p 35 3),[]⟩),(683,⟨bv (bL p 35 25),[.int (-1)]⟩),(796,⟨bv (bL p 46 0),[.none,.none,.bool false,.bool false]⟩),(803,⟨bv (bL p 46 1),[]⟩),
 (833,⟨bv (bL p 46 5),[]⟩),(840,⟨bv (bL p 46 6),[]⟩),(862,⟨bv (bL p 46 9),[]⟩),(869,⟨bv (bL p 46 10),[]⟩),(884,⟨bv (aL p 47),[.bool false,.bool true]⟩),(892,⟨bv (aL p 49),[]⟩),(899,⟨bv (aL p 51),[]⟩),(906,⟨bv (aL p 52),[]⟩),
 (911,⟨bv (aL p 53),[]⟩),(918,⟨bv (aL p 54),[]⟩),(925,⟨bv (aL p 55),[]⟩),(932,⟨bv (aL p 56),[]⟩),(937,⟨bv (aL p 57),[]⟩),(942,⟨bv (aL p 58),[]⟩),(947,⟨bv (aL p 59),[]⟩),(952,⟨bv (aL p 60),[]⟩),(959,⟨bv (aL p 61),[]⟩),(964,⟨bv (aL p 62),[]⟩)]
noncomputable def Fe(p:eE)(f:aB):Option Jf:=(Qf p).lookup f
noncomputable def VD:List aB:=[64,71,144,158,165,172,179,184,203,884,892,899,906,911,918,925,932,937,942,947,952,959]
noncomputable def Ok(f:aB):Bool:=VD.contains f
noncomputable def WQ:List (Str × af):=("abs",.builtin "abs")::("isinstance",.builtin "isinstance")::("issubclass",.builtin "issubclass")::("len",.builtin "len")::("sorted",.builtin "sorted")::("max",.builtin "max")::("min",.builtin "min") ::
 ("type",.type "type")::("str",.type "str")::("bytes",.type "bytes")::("tuple",.type "tuple")::("list",.type "list")::("map",.type "map")::("range",.type "range")::("enumerate",.type "enumerate") ::
 ("bool",.type "bool")::("int",.type "int")::("object",.type "object")::("StopIteration",.type "StopIteration")::[]
noncomputable def ff(x:Str):Option af:=optO (GN.lookup x) (WQ.lookup x) some
noncomputable def Dd:List (aB × Str × aB):=[(737,"_StringIO__translated",514),(737,"_StringIO__check",521),(737,"read",683),(872,"read_token",840),(872,"get_token",833)]
noncomputable def De(C:aB)(n:Str):Option aB:=optO (Dd.find? λx=>x.1==C&&x.2.1==n) none λx=>some x.2.2
noncomputable def OD(C:aB)(n:Str):Option aB:=bif C==872&&n=="punctuation_chars" then some 803 else none
noncomputable def Qi:List (aB × Str):=[(737,"_StringIO__newline"),(737,"_StringIO__buf"),(737,"_StringIO__pos"),(872,"instream"),(872,"infile"),(872,"posix"),(872,"eof"),(872,"commenters"),(872,"wordchars"),(872,"whitespace"),(872,"whitespace_split"),(872,"quotes"),(872,"escape"),(872,"escapedquotes"),(872,"state"),(872,"pushback"),(872,"lineno"),(872,"debug"),(872,"token"),(872,"filestack"),(872,"source"),(872,"_punctuation_chars")]
noncomputable def ta(C:aB)(n:Str):Bool:=Qi.contains (C,n)
noncomputable def w1(op:cw):Bool:=op == .Add
noncomputable def Pz(op:cw)(x y:Int):Option PV:=match op with
 | .Add=>some (.int (x+y))
 | .Sub=>some (.int (x-y))
 | .FloorDiv=>grd (decide (0<y)&&decide (y<=1000)) (some (.int (kH x y)))
 | .Mod=>grd (decide (0<y)&&decide (y<=1000)) (some (.int (qb x y)))
 | _=>none
noncomputable def Cu(op:cw)(a b:PV):Option PV:=match a with
 | .int x=>nC b none (Pz op x)
 | .str x=>grd (w1 op) (sY b none λy=>mkS (x++y))
 | .tup x=>grd (w1 op) (aV b none λy=>mkT (x++y))
 | .list x=>grd (w1 op) (jL b none λy=>mkL (x++y))
 | _=>none
noncomputable def uf{γ:Type}(v:PV)(d:γ)(k:String->γ):γ:=match v with
 | .val u=>(match u with
  | .type T=>k T
  | _=>d)
 | _=>d
noncomputable def UZ(a b:PV):Option Bool:=match b with
 | .none=>(match a with
  | .none=>some true
  | .val _=>none
  | .tup _=>none
  | _=>some false)
 | .bool y=>(match a with
  | .bool x=>some (x==y)
  | .str _=>some false
  | _=>none)
 | .val w=>uf (.val w) none λy=>uf a none λx=>some (x==y)
 | _=>none
noncomputable def He:PV->Bool
 | .obj _=>false
 | _=>true
noncomputable def Nz(R:List aN)(a b:PV):Option Bool:=optO (lJ R b) (sY b none λy=>sY a none λl=>j9 l none λc=>some (y.contains c))
 λl=>grd (uD 6 a&&l.all (uD 6)) (some (l.any λx=>yC x a))
noncomputable def II(a b:PV)(f:Int->Int->Bool):Option Bool:=nC a none λx=>nC b none λy=>some (f x y)
noncomputable def td(R:List aN)(op:mU)(a b:PV):Option Bool:=match op with
 | .Eq=>grd (He a&&He b) (AL a b)
 | .NotEq=>(AL a b).map not
 | .Lt=>II a b λx y=>decide (x<y)
 | .LtE=>II a b λx y=>decide (x<=y)
 | .Gt=>II a b λx y=>decide (x>y)
 | .GtE=>II a b λx y=>decide (x≥y)
 | .Is=>UZ a b
 | .IsNot=>(UZ a b).map not
 | .In=>Nz R a b
 | .NotIn=>(Nz R a b).map not
noncomputable def BM(v:PV)(T:String):Option Bool:=match v with
 | .str _=>some (T=="str")
 | .tup _=>some (T=="tuple")
 | .list _=>some (T=="list")
 | _=>none
noncomputable def q8(R:List aN)(v:PV):Option Nat:=optO (lJ R v) (sY v none λs=>some s.length) λl=>some l.length
noncomputable def VG(R:List aN)(T:String)(args:List PV):Option PV:=
 bif T=="isinstance" then xB args none λv t=>uf t none λT=>grd (T=="str"||(T=="bytes"||T=="tuple")) (optO (BM v T) none λb=>some (.bool b))
 else bif T=="issubclass" then xB args none λt l=>uf t none λT=>aV l none λus=>xB us none λu v=>uf u none λU=>uf v none λW=>grd (T=="str"&&(U=="str"&&W=="bytes")) (some (.bool true))
 else j9 args none λv=>
  bif T=="abs" then nC v none λi=>some (.int i.natAbs)
  else bif T=="len" then optO (q8 R v) none λn=>some (.int n)
  else bif T=="sorted" then jL v none λl=>optO (fg l) none λss=>grd (decide (ss.length<64)) (some (.list ((ga ss).map .str)))
  else bif T=="min" then jL v none λl=>optO (gf l) none λss=>optO (iJ (λa b=>decide (a<b)) ss) none λs=>some (.list (s.map .str))
  else bif T=="max" then jL v none λl=>optO (gf l) none λss=>optO (iJ (λa b=>decide (b<a)) ss) none λs=>some (.list (s.map .str))
  else none
noncomputable def VF(T:String)(args:List PV):Option PV:=j9 args none λv=>
 bif T=="type" then(match v with
  | .str _=>some (.val (.type "str"))
  | .int _=>some (.val (.type "int"))
  | _=>none)
 else bif T=="int" then nC v none λi=>some (.int i)else none
noncomputable def Ol(R:List aN)(f:af)(args:List PV):Option PV:=match f with
 | .builtin T=>VG R T args
 | .type T=>VF T args
 | _=>none
noncomputable def maxLen(R:List aN)(l:List PV):Option PV:=(l.mapM λv=>(q8 R v).map λn=>(n,v)).bind λr=>(iJ (λa b=>decide (b.1<a.1)) r).map (·.2)
noncomputable def xG(s:LS)(n:Str)(args:List PV):Option PV:=j9 args none λa=>sY a none λp=>
 bif n=="startswith" then some (.bool (decide (p.length<=s.length)&&(s.take p.length==p)))
 else bif n=="endswith" then some (.bool (decide (p.length<=s.length)&&((s.drop (s.length-p.length)).take p.length==p)))
 else grd (n=="split") (j9 p none λc=>mkL ((aQ c s).map .str))
noncomputable def wY(R:List aN)(v:PV)(i:Int):Option PV:=optO (lJ R v) none λl=>iD l i
noncomputable def GE(v:PV)(a b:Option Int):Option PV:=match v with
 | .str s=>some (.str (dH s a b))
 | .list l=>some (.list (dH l a b))
 | .tup l=>some (.tup (dH l a b))
 | _=>none
noncomputable def Jy{α:Type}(normal:List Str):List (Str × α)->List (Str × α)->Option (List (Str × α))
 | [],slots=>some slots
 | (k,v)::r,slots=>if normal.contains k&&(slots.lookup k).isNone then Jy normal r (slots++[(k,v)])else none
noncomputable def Jz{α:Type}:List (Str × α)->List (Str × α)->List (Str × α)
 | [],slots=>slots
 | (k,v)::r,slots=>if(slots.lookup k).isNone then Jz r (slots++[(k,v)])else Jz r slots
theorem zR{α:Type}(normal:List Str)(k:Str)(v:α)(r slots:List (Str × α)):Jy normal ((k,v)::r) slots=if normal.contains k&&(slots.lookup k).isNone then Jy normal r (slots++[(k,v)])else none:=rfl
theorem vn{α:Type}(k:Str)(v:α)(r slots:List (Str × α)):Jz ((k,v)::r) slots=if(slots.lookup k).isNone then Jz r (slots++[(k,v)])else Jz r slots:=rfl
noncomputable def bindG{α:Type}(ps:iC)(dflt pos:List α)(kw:List (Str × α)):Option (List (Str × α)):=
 let normal:=ps.args.map (·.arg)
 let names:=ps.posonlyargs.map (·.arg)++normal
 (Jy normal kw (names.zip pos)).bind λslots=>
  if ps.vararg.isNone&&decide (names.length<pos.length)||decide (names.length<dflt.length) || !((names.take (names.length-dflt.length)).filter λn=>(slots.lookup n).isNone).isEmpty then none
  else some (names.filterMap λn=>((Jz ((names.drop (names.length-dflt.length)).zip dflt) slots).lookup n).map (n,·))
noncomputable def vA(ps:iC)(dflt:List PV)(pos:List PV)(kw:List (Str × PV)):Option br:=
 (bindG ps dflt pos kw).bind λl=>match ps.vararg with
  | some va=>(mkT (pos.drop (ps.posonlyargs.map (·.arg)++ps.args.map (·.arg)).length)).map λv=>l++[(va.arg,v)]
  | none=>some l
noncomputable def z7(d:FD):Bool:=d.scope.kind == .function && !d.scope.isGenerator && !d.scope.isCoroutine&&d.scope.names.lookup ("__debug__":Str)==none&&(d.scope.names.all λx=>x.2 != .free&&d.scope.names.lookup x.1==some x.2)&&d.params.kwonlyargs.isEmpty&&d.params.kwarg.isNone
 && ((d.params.posonlyargs++d.params.args++d.params.vararg.toList).all λa=>d.scope.names.lookup a.arg==some .local||d.scope.names.lookup a.arg==some .cell)&&decide ((d.params.posonlyargs++d.params.args++d.params.vararg.toList).map (·.arg)).Nodup
noncomputable abbrev FS:=Fl × br × List aN
noncomputable def uC(f:Fl)(y:br × List aN)(k:Option FS):Option FS:=match f with
 | .next=>k
 | f=>some (f,y)
noncomputable def lg(f:Fl)(y:br × List aN)(k:Option FS):Option FS:=match f with
 | .next=>k
 | .cont=>k
 | .brk=>some (.next,y)
 | .ret v=>some (.ret v,y)
noncomputable def u9(step:br->List aN->PV->Option FS):List PV->br->List aN->Option FS
 | [],σ,R=>some (.next,σ,R)
 | x::r,σ,R=>bnd (step σ R x) λf y=>lg f y (u9 step r y.1 y.2)
noncomputable def mf(f:List aN->PV->Option (Option PV × List aN)):List PV->List aN->Option (List PV × List aN)
 | [],R=>some ([],R)
 | x::r,R=>bnd (f R x) λo R'=>bnd (mf f r R') λys R''=>some (optO o ys (· :: ys),R'')
noncomputable def Ba(test:br->List aN->Option (Bool × List aN))(body:br->List aN->Option FS):Nat->br->List aN->Option FS
 | 0,_,_=>none
 | n+1,σ,R=>bnd (test σ R) λc R'=>bif c then bnd (body σ R') λf y=>lg f y (Ba test body n y.1 y.2)else some (.next,σ,R')
noncomputable def kz(nx:List aN->Option (Option PV × List aN)):Nat->List aN->Option (List PV × List aN)
 | 0,_=>none
 | n+1,R=>bnd (nx R) λo R'=>optO o (some ([],R')) λv=>bnd (kz nx n R') λys R''=>some (v::ys,R'')
noncomputable def lO(R:List aN):Bool:=match (R[0]? : Option aN)with
 | some aN.tab=>true
 | _=>false
noncomputable def iH(n:Int):List PV:=(cM n.toNat).map λ(i:Nat)=>PV.int (i:Int)
noncomputable def mz(i:Nat):List PV->List PV
 | []=>[]
 | x::r=>.tup [.int (i:Int),x]::mz (i+1) r
structure Cx where
 names:List (Str × dY)
 base:Nat
noncomputable def gl(cx:Cx)(x:Str):Bool:=cx.names.lookup x==some .globalImplicit
noncomputable def QE(cx:Cx)(x:Str):Bool:=cx.names.lookup x==some .local||cx.names.lookup x==some .cell
noncomputable def qL(cx:Cx)(σ:br)(x:Str)(v:PV):Option br:=grd (QE cx x) (some (jR σ x v))
noncomputable def J4(cx:Cx):List Expr->List PV->br->Option br
 | [],vs,σ=>oo vs none (some σ)
 | t::ts,vs,σ=>(match vs with
  | []=>none
  | v::vs=>kE t none λx=>optO (qL cx σ x v) none λσ=>J4 cx ts vs σ)
noncomputable def Mk(cx:Cx)(t:EV)(v:PV)(σ:br):Option br:=match t with
 | .name x=>qL cx σ x v
 | .tup ts=>grd (ts.length==2||ts.length==3) (aV v none λvs=>J4 cx ts vs σ)
 | _=>none
noncomputable def iE(cx:Cx)(t:Expr)(v:PV)(σ:br):Option br:=Mk cx (jE t) v σ
noncomputable def yt:Const->Option PV
 | .none=>some .none
 | .bool b=>some (.bool b)
 | .int i=>some (.int i)
 | .str s=>grd (jb (ls s)) (mkS (ls s))
 | _=>none
noncomputable def eU:List (Str × dY)->br->br
 | [],_=>[]
 | (x,k)::r,σ=>if k == .free then(match σ.lookup x with
  | some v=>(x,v)::eU r σ
  | none=>eU r σ)else eU r σ
theorem z0(x:Str)(k:dY)(r:List (Str × dY))(σ:br):eU ((x,k)::r) σ=if k == .free then(match σ.lookup x with
  | some v=>(x,v)::eU r σ
  | none=>eU r σ)else eU r σ:=rfl
noncomputable def Dl(kws:List cQ):Bool:=j9 kws false λk=>k.arg==some "key"&&PT k.value false λps b sc=>vy b false λf as ks cpos=>IT f false λo m apos=>kE o false λx=>j9 as false λc=>Gz c false λc=>
 ks.isEmpty&&(m=="split"&&(ls c==[47]&&(apos.endLine==cpos.line&&(ps.posonlyargs.isEmpty&&(ps.args.map (·.arg)==[x]&&(ps.vararg.isNone&&(ps.defaults.isEmpty&&(ps.kw_defaults.isEmpty
   && (z7 ⟨x,ps,[],sc⟩&&(sc.names.all (λy=>y.2 == .local)&&sc.names.lookup x==some .local))))))))))
noncomputable def L4(cx:Cx)(kws:List cQ):Bool:=j9 kws false λk=>k.arg==some "key"&&kE k.value false (gl cx)
noncomputable def L2(cx:Cx)(l:List Expr):Bool:=j9 l false λc=>vy c false λf as ζ ζ=>kE f false λg=>xB as false λh ζ=>gl cx g&&kE h false (gl cx)
inductive CK where
 | tupMap (f:aB) (e:Expr)
 | maxLen (e:Expr)
 | sortKey (e:Expr)
 | listOf (e:Expr)
 | deque
 | new (C f:aB)
 | fn (f:aB)
 | bi (f:af)
 | bad
noncomputable def Qp(T:String)(args:List Expr):CK:=
 bif T=="tuple" then j9 args .bad λc=>vy c .bad λf as ks ζ=>kE f .bad λg=>bif ks.isEmpty&&ff g==some (.type "map")then xB as .bad λh e=>kE h .bad λh=>optO (ff h) .bad λv=>OC v .bad λa=>.tupMap a e else .bad
 else bif T=="list" then j9 args .bad .listOf
 else bif T=="collections.deque" then oo args .bad .deque
 else .bi (.type T)
noncomputable def Qq(T:String)(args:List Expr)(kws:List cQ):CK:=match kws with
 | []=>.bi (.builtin T)
 | k::r=>j9 args .bad λe=>oo r .bad (bif T=="max"&&kE k.value false (λk=>ff k==some (.builtin "len"))then .maxLen e else bif T=="sorted"&&Dl [k]then .sortKey e else .bad)
noncomputable def Mh(f:aB)(args:List Expr)(kws:List cQ):CK:=
 bif f==737 then oo kws .bad (j9 args .bad λζ=>.new 737 507)
 else bif f==872 then(match args with
  | []=>.bad
  | _::_=>.new 872 796)
 else .fn f
noncomputable def lT(g:Option af)(args:List Expr)(kws:List cQ):CK:=optO g .bad λv=>match v with
 | .type T=>oo kws .bad (Qp T args)
 | .builtin T=>Qq T args kws
 | .ref f=>Mh f args kws
 | _=>.bad
noncomputable def cL(e:Expr):Bool:=kE e false λζ=>true
noncomputable def mh(v:PV):Bool:=sY v false λζ=>true
noncomputable def qN(cx:Cx)(σ:br)(sc:Scope):Bool:=sc.kind == .function&&sc.names.lookup ("__debug__":Str)==none&&sc.names.all λx=>x.2 != .cell&&sc.names.lookup x.1==some x.2&&(x.2 != .free||(σ.lookup x.1).isSome&&(cx.names.lookup x.1==some .cell||cx.names.lookup x.1==some .free))
noncomputable def C2{γ:Type}(e:Expr)(d:γ)(k:Str->Expr->γ):γ:=vy e d λf as ks ζ=>kE f d λg=>j9 as d λa=>oo ks d (k g a)
noncomputable def uW(cx:Cx)(e:Expr):Bool:=C2 e false λf ζ=>gl cx f&&ff f==some (.ref 885)
inductive IK where
 | range (a:Expr)
 | enum (a:Expr)
 | plain
 | bad
noncomputable def WL(cx:Cx)(f:Str)(as:List Expr)(ks:List cQ):IK:=j9 as .bad λa=>oo ks .bad (bif gl cx f&&ff f==some (.type "range")then .range a else bif gl cx f&&ff f==some (.type "enumerate")then .enum a else .bad)
noncomputable def VC(cx:Cx)(f:EV)(as:List Expr)(ks:List cQ):IK:=match f with
 | .name f=>WL cx f as ks
 | .attr _ _ _=>.plain
 | _=>.bad
noncomputable def VB(cx:Cx)(v:EV):IK:=match v with
 | .call f as ks _=>VC cx (jE f) as ks
 | .name _=>.plain
 | .attr _ _ _=>.plain
 | .sub _ _=>.plain
 | .bin _ _ _=>.plain
 | .ife _ _ _=>.plain
 | _=>.bad
noncomputable def ik(cx:Cx)(e:Expr):IK:=VB cx (jE e)
noncomputable def iI(cx:Cx)(e:Expr):Bool:=match ik cx e with
 | .enum _=>true
 | _=>false
noncomputable def Md(v:EV):Option (List Expr):=match v with
 | .list es=>some es
 | _=>none
noncomputable def rV(e:Expr):Option (List Expr):=Md (jE e)
inductive AK where
 | disp (x:Str)
 | one (x:Str) (elt:Expr) (gs:List fJ) (sc:Scope)
 | attr (o:Expr) (a:Str)
 | plain
noncomputable def VI(x:Str)(e:EV):AK:=match e with
 | .setc elt gs sc=>.one x elt gs sc
 | _=>.plain
noncomputable def VH(t:EV)(e:Expr):AK:=match t with
 | .name x=>optO (rV e) .plain λζ=>.disp x
 | .tup ts=>j9 ts .plain λt=>kE t .plain λx=>VI x (jE e)
 | .attr o a _=>.attr o a
 | _=>.plain
noncomputable def ak(t e:Expr):AK:=VH (jE t) e
noncomputable def VA(b:Bool)(v:PV):Bool:=DK v false (· == b)
noncomputable def qW(R:List aN)(σ:br)(e:Expr):Option (Nat × List PV):=kE e none λx=>optO (σ.lookup x) none λv=>OK v none λk=>C9 R k λl=>some (k,l)
noncomputable def Qv(op:cw)(x y:Int):Option PV:=match op with
 | .Add=>some (.int (x+y))
 | .Sub=>some (.int (x-y))
 | _=>none
noncomputable def rt(op:cw)(a b:PV):Option PV:=match a with
 | .int x=>nC b none (Qv op x)
 | .str x=>grd (w1 op) (sY b none λy=>mkS (x++y))
 | _=>none
noncomputable def eL:Expr->Bool
 | .Starred _ _=>false
 | _=>true
noncomputable def qo(e:Expr):Bool:=vy e true λf as ks ζ =>!(cL f&&(as.isEmpty&&ks.isEmpty))
noncomputable def QO(v:EV):Bool:=match v with
 | .tup _=>true
 | _=>false
noncomputable def fy(e:Expr):Bool:=QO (jE e)
structure RK where
 a:LS
 x:Str
 c:Nat
 b:LS
noncomputable def GT(l:Expr)(op:cw)(r:Expr):Option RK:=Gz l none λa=>vy r none λf as ks pos=>IT f none λo m apos=>kE o none λx=>xB as none λc b=>Gz c none λc=>Gz b none λb=>j9 (ls c) none λk=>
 grd (w1 op&&(ks.isEmpty&&(m=="replace"&&(!(c==b)&&(apos.endLine==pos.line&&(jb (ls a)&&(jb (ls b)&&(decide ((ls b).length<=14)&&decide ((ls a).length<=SZ))))))))) (some ⟨ls a,x,k,ls b⟩)
noncomputable abbrev Spec:=aB->List PV->List (Str × PV)->List aN->Option (PV × List aN)
structure AB where
 ev:Cx->Expr->br->List aN->Option (PV × List aN)
 callv:Cx->CK->List Expr->List cQ->br->List aN->Option (PV × List aN)
 orv:Cx->BoolOp->List Expr->br->List aN->Option (PV × List aN)
 sbv:Cx->PV->Expr->br->List aN->Option (PV × List aN)
 cmpv:Cx->Expr->List fJ->Scope->br->List aN->Option (List PV × List aN)
 cp:Cx->Expr->List mU->List Expr->br->List aN->Option (Bool × List aN)
 tv:Cx->Expr->br->List aN->Option (Bool × List aN)
 tvs:Cx->BoolOp->List Expr->br->List aN->Option (Bool × List aN)
 evs:Cx->List Expr->br->List aN->Option (List PV × List aN)
 evk:Cx->List cQ->br->List aN->Option (List (Str × PV) × List aN)
 evo:Cx->Option Expr->br->List aN->Option (Option Int × List aN)
 itv:Cx->Expr->br->List aN->Option (List PV × List aN)
 evm:Cx->Expr->br->List aN->Option (PV × List aN)
 evms:Cx->List Expr->br->List aN->Option (List PV × List aN)
 ex:Cx->ir->br->List aN->Option FS
 forIt:Cx->Expr->br->List aN->Option (List PV × br × List aN)
 asg:Cx->Expr->Expr->br->List aN->Option FS
 aug:Cx->Expr->cw->Expr->br->List aN->Option FS
 exs:Cx->List ir->br->List aN->Option FS
section
variable (sp:Spec) (F:AB)
noncomputable def lM(k:Nat)(R:List aN):Option (Option PV × List aN):=jv R (.obj k) λζ D gs=>grd (decide (D=872)&&(gs.lookup ("get_token":Str)).isNone) (bnd (sp 833 [.obj k] [] R) λv R1=>
 jv R1 (.obj k) λζ C fs=>grd (decide (C=872)) (optO (fs.lookup ("eof":Str)) none λe=>optO (td R1 .Eq v e) none λb=>some (bif b then none else some v,R1)))
noncomputable def PI(s:LS)(m:Str)(R2:List aN)(v:PV):Option (PV × List aN):=
 bif m=="join" then optO (lJ R2 v) none λl=>optO (fg l) none λl=>grd (decide ((l.map bY).sum+l.length*s.length<=SZ)) (fM (mkS (cj s l)) R2)
 else fM (xG s m [v]) R2
noncomputable def Hk(r:aN)(k:Nat)(m:Str)(as:List PV)(R2:List aN):Option (PV × List aN):=match r with
 | .lst _=>C9 R2 k λl=>bif m=="append" then j9 as none λv=>grd (decide (l.length<SZ)) (some (.none,R2.set k (.lst (l++[v]))))
  else grd (m=="pop") (oo as none (optO l.getLast? none λv=>some (v,R2.set k (.lst l.dropLast))))
 | .inst C fs=>optO (De C m) none λf=>grd (fs.lookup m).isNone (sp f (.obj k::as) [] R2)
 | _=>none
noncomputable def sB(R1:List aN)(ov:PV)(m:Str)(as:List PV)(R2:List aN):Option (PV × List aN):=match ov with
 | .str s=>j9 as none (PI s m R2)
 | .obj k=>optO R1[k]? none λr=>Hk sp r k m as R2
 | _=>none
noncomputable def Im(cx:Cx)(l:Expr)(op:cw)(r:Expr)(σ:br)(R:List aN):Option (PV × List aN):=optO (GT l op r)
 (bnd (F.ev cx l σ R) λa R1=>bnd (F.ev cx r σ R1) λb R2=>fM (Cu op a b) R2)
 λk=>optO (σ.lookup k.x) none λv=>sY v none λs=>fM (mkS (k.a++dN k.c k.b s)) R
noncomputable def U4(cx:Cx)(op:UnaryOp)(x:Expr)(σ:br)(R:List aN):Option (PV × List aN):=match op with
 | .USub=>bnd (F.ev cx x σ R) λv R1=>nC v none λi=>some (.int (-i),R1)
 | _=>none
noncomputable def Io(cx:Cx)(v:Expr)(a:Str)(σ:br)(R:List aN):Option (PV × List aN):=grd (qo v) (bnd (F.ev cx v σ R) λx R1=>jv R1 x λk C fs=>
 bif ta C a then optO (fs.lookup a) none λu=>grd (BB u) (some (u,R1))else optO (OD C a) none λf=>bnd (sp f [.obj k] [] R1) λu R2=>grd (BB u) (some (u,R2)))
noncomputable def Il(cx:Cx)(f:EV)(args:List Expr)(kws:List cQ)(pos:dS)(σ:br)(R:List aN):Option (PV × List aN):=match f with
 | .attr o m apos=>oo kws none (grd (qo o&&((apos.endLine==pos.line)&&decide (args.length<2))) (bnd (F.ev cx o σ R) λov R1=>bnd (F.evs cx args σ R1) λas R2=>sB sp R1 ov m as R2))
 | .name f=>grd (gl cx f) (F.callv cx (lT (ff f) args kws) args kws σ R)
 | _=>none
noncomputable def VE(cx:Cx)(v:EV)(σ:br)(R:List aN):Option (PV × List aN):=match v with
 | .const c=>fM (yt c) R
 | .name x=>bif gl cx x then optO (ff x) none λv=>some (.val v,R)else fM (σ.lookup x) R
 | .bin l op r=>Im F cx l op r σ R
 | .un op x=>U4 F cx op x σ R
 | .ife t a b=>bnd (F.tv cx t σ R) λc R1=>F.ev cx (bif c then a else b) σ R1
 | .boolop op es=>F.orv cx op es σ R
 | .cmp l ops rs=>bnd (F.cp cx l ops rs σ R) λb R1=>some (.bool b,R1)
 | .list es=>bnd (F.evs cx es σ R) λl R1=>fM (mkL l) R1
 | .tup es=>bnd (F.evs cx es σ R) λl R1=>fM (mkT l) R1
 | .sub v i=>bnd (F.ev cx v σ R) λx R1=>grd (cL v||mh x) (F.sbv cx x i σ R1)
 | .attr v a _=>Io sp F cx v a σ R
 | .listc elt gs sc=>bnd (F.cmpv cx elt gs sc σ R) λl R1=>fM (mkL l) R1
 | .call f args kws pos=>Il sp F cx (jE f) args kws pos σ R
 | _=>none
noncomputable def Ho(f:aB)(R:List aN)(x:PV):Option (Option PV × List aN):=bnd (sp f [x] [] R) λy R'=>some (some y,R')
noncomputable def Vx(cx:Cx)(e:Expr)(σ:br)(R:List aN):Option (PV × List aN):=VE sp F cx (jE e) σ R
noncomputable def ll(cx:Cx)(ck:CK)(args:List Expr)(kws:List cQ)(σ:br)(R:List aN):Option (PV × List aN):=match ck with
 | .tupMap f e=>grd (L2 cx args) (bnd (F.ev cx e σ R) λv R1=>jL v none λl=>bnd (mf (Ho sp f) l R1) λys R2=>fM (mkT ys) R2)
 | .maxLen e=>grd (L4 cx kws) (bnd (F.ev cx e σ R) λv R1=>jL v none λl=>fM (maxLen R1 l) R1)
 | .sortKey e=>bnd (F.ev cx e σ R) λv R1=>jL v none λl=>optO (fg l) none λss=>grd (decide (0<ss.length)&&(decide (ss.length<64)&&(ss.all (λs=>decide (s.length<SZ))&&(lO R1&&cx.names.lookup ("met":Str)==some .cell)))) (some (.list ((ss.mergeSort λa b =>!decide (aQ 47 b<aQ 47 a)).map .str),R1))
 | .listOf e=>bnd (F.ev cx e σ R) λv R1=>jv R1 v λk C ζ=>grd (decide (C=872)) (bnd (kz (λR=>lM sp k R) 100000 R1) λys R2=>fM (mkL ys) R2)
 | .deque=>some (.obj R.length,R++[.deq])
 | .new C f=>bnd (F.evs cx args σ R) λas R1=>bnd (F.evk cx kws σ R1) λks R2=>bnd (sp f (.obj R2.length::as) ks (R2++[.inst C []])) λy R3=>match y with
   | .none=>some (.obj R2.length,R3)
   | _=>none
 | .fn f=>oo kws none (grd (Ok f && !args.isEmpty) (bnd (F.evs cx args σ R) λas R1=>sp f as [] R1))
 | .bi f=>bnd (F.evs cx args σ R) λas R1=>fM (Ol R1 f as) R1
 | .bad=>none
noncomputable def UY(op:BoolOp):Bool:=op == .Or
noncomputable def PB(cx:Cx)(op:BoolOp)(es:List Expr)(σ:br)(R:List aN):Option (PV × List aN):=grd (UY op) (xB es none λa b=>bnd (F.ev cx a σ R) λv R1=>optO (qh R1 v) none λc=>bif c then some (v,R1)else F.ev cx b σ R1)
noncomputable def OB(cx:Cx)(x:PV)(i:Expr)(v:EV)(σ:br)(R1:List aN):Option (PV × List aN):=match v with
 | .slice a b c=>optO c (bnd (F.evo cx a σ R1) λi R2=>bnd (F.evo cx b σ R2) λj R3=>fM (GE x i j) R3) λζ=>none
 | _=>bnd (F.ev cx i σ R1) λu R2=>nC u none λk=>fM (wY R2 x k) R2
noncomputable def PA(cx:Cx)(x:PV)(i:Expr)(σ:br)(R1:List aN):Option (PV × List aN):=OB F cx x i (jE i) σ R1
noncomputable def nt(cx:Cx)(t elt:Expr)(ifs:List Expr)(σ:br)(R:List aN)(x:PV):Option (Option PV × List aN):=optO (iE cx t x σ) none λσ'=>
 bnd (F.tvs cx .And ifs σ' R) λc R2=>bif c then bnd (F.ev cx elt σ' R2) λv R3=>some (some v,R3)else some (none,R2)
noncomputable def L1(cx:Cx)(elt:Expr)(gs:List fJ)(sc:Scope)(σ:br)(R:List aN):Option (List PV × List aN):=j9 gs none λg=>
 grd (decide (g.is_async=0)&&(cL g.target&&(!iI cx g.iter&&qN cx σ sc))) (bnd (F.itv cx g.iter σ R) λl R1=>mf (nt F ⟨sc.names,cx.base⟩ g.target elt g.ifs (eU sc.names σ)) l R1)
noncomputable def Qb(op:mU):Bool:=op == .Is
noncomputable def yb(e:Expr):Bool:=yr (jE e) false λc=>match c with
 | .none=>true
 | _=>false
noncomputable def Vy(cx:Cx)(l:Expr)(ops:List mU)(rs:List Expr)(σ:br)(R:List aN):Option (Bool × List aN):=j9 ops none λop=>j9 rs none λr=>
 bif uW cx l then grd (Qb op&&yb r) (C2 l none λζ e=>bnd (F.ev cx e σ R) λv R1=>sY v none λs=>some (!s.any cU,R1))
 else bnd (F.ev cx l σ R) λa R1=>bnd (F.ev cx r σ R1) λb R2=>fM (td R2 op a b) R2
noncomputable def wy(cx:Cx)(e:Expr)(σ:br)(R:List aN):Option (Bool × List aN):=bnd (F.ev cx e σ R) λv R1=>fM (qh R1 v) R1
noncomputable def Vh(cx:Cx)(v:EV)(e:Expr)(σ:br)(R:List aN):Option (Bool × List aN):=match v with
 | .un op x=>(match op with
  | .Not=>bnd (F.tv cx x σ R) λc R1=>some (!c,R1)
  | _=>none)
 | .boolop op es=>F.tvs cx op es σ R
 | .cmp l ops rs=>F.cp cx l ops rs σ R
 | .name _=>wy F cx e σ R
 | .const _=>wy F cx e σ R
 | .call _ _ _ _=>wy F cx e σ R
 | .attr _ _ _=>wy F cx e σ R
 | _=>none
noncomputable def UP(cx:Cx)(e:Expr)(σ:br)(R:List aN):Option (Bool × List aN):=Vh F cx (jE e) e σ R
noncomputable def Nd(cx:Cx)(op:BoolOp)(es:List Expr)(σ:br)(R:List aN):Option (Bool × List aN):=match es with
 | []=>some (op == .And,R)
 | e::r=>bnd (F.tv cx e σ R) λb R1=>bif b==(op == .Or)then some (b,R1)else F.tvs cx op r σ R1
noncomputable def PD(cx:Cx)(es:List Expr)(σ:br)(R:List aN):Option (List PV × List aN):=match es with
 | []=>some ([],R)
 | e::r=>bnd (F.ev cx e σ R) λv R1=>bnd (F.evs cx r σ R1) λvs R2=>some (v::vs,R2)
noncomputable def PG(cx:Cx)(ks:List cQ)(σ:br)(R:List aN):Option (List (Str × PV) × List aN):=match ks with
 | []=>some ([],R)
 | k::r=>optO k.arg none λx=>bnd (F.ev cx k.value σ R) λv R1=>bnd (F.evk cx r σ R1) λvs R2=>some ((x,v)::vs,R2)
noncomputable def PE(cx:Cx)(e:Option Expr)(σ:br)(R:List aN):Option (Option Int × List aN):=optO e (some (none,R)) λe=>bnd (F.ev cx e σ R) λv R1=>nC v none λi=>some (some i,R1)
noncomputable def Ei{γ:Type}(v:PV)(d:γ)(k:List PV->γ):γ:=match v with
 | .list l=>k l
 | .tup l=>k l
 | _=>d
noncomputable def KE(cx:Cx)(k:IK)(e:Expr)(σ:br)(R:List aN):Option (List PV × List aN):=match k with
 | .range a=>bnd (F.ev cx a σ R) λv R1=>nC v none λi=>grd (decide (-1000000<=i)&&decide (i<=1000000)) (some (iH i,R1))
 | .enum a=>bnd (F.ev cx a σ R) λv R1=>jL v none λl=>some (mz 0 l,R1)
 | .plain=>bnd (F.ev cx e σ R) λv R1=>Ei v none λl=>some (l,R1)
 | .bad=>none
noncomputable def Nf(cx:Cx)(e:Expr)(σ:br)(R:List aN):Option (List PV × List aN):=KE F cx (ik cx e) e σ R
noncomputable def PF(cx:Cx)(e:Expr)(σ:br)(R:List aN):Option (PV × List aN):=optO (rV e) (F.ev cx e σ R) λes=>bnd (F.evms cx es σ R) λvs R1=>grd (decide (vs.length<=SZ)) (some (.obj R1.length,R1++[.lst vs]))
noncomputable def LZ(cx:Cx)(es:List Expr)(σ:br)(R:List aN):Option (List PV × List aN):=match es with
 | []=>some ([],R)
 | e::r=>bnd (F.evm cx e σ R) λv R1=>bnd (F.evms cx r σ R1) λvs R2=>some (v::vs,R2)
noncomputable def qU:PV->Bool
 | .none=>true
 | .str _=>true
 | _=>false
noncomputable def w8(cx:Cx)(t:Expr)(b:List ir)(σ:br)(R:List aN)(x:PV):Option FS:=optO (iE cx t x σ) none λσ'=>F.exs cx b σ' R
noncomputable def Vw(cx:Cx)(s:ir)(σ:br)(R:List aN):Option FS:=match s with
 | .Expr e _=>bnd (F.ev cx e σ R) λv R1=>grd (qU v) (some (.next,σ,R1))
 | .Assign ts e _=>j9 ts none λt=>F.asg cx t e σ R
 | .AugAssign t op e _=>F.aug cx t op e σ R
 | .If t a b _=>bnd (F.tv cx t σ R) λc R1=>F.exs cx (bif c then a else b) σ R1
 | .While t b o _=>oo o none (Ba (F.tv cx t) (F.exs cx b) 100000 σ R)
 | .For t it b o _=>oo o none (grd (!(iI cx it && !fy t)) (bnd (F.forIt cx it σ R) λl y=>u9 (w8 F cx t b) l y.1 y.2))
 | .Try b hs o f _=>oo o none (oo f none (match hs with
  | []=>none
  | _::_=>F.exs cx b σ R))
 | .Return e _=>optO e none λe=>bnd (F.ev cx e (u8 (below cx.base R.length) σ R).1 (u8 (below cx.base R.length) σ R).2) λv R1=>some (.ret v,(u8 (below cx.base R.length) σ R).1,R1)
 | .Break _=>some (.brk,σ,R)
 | .Continue _=>some (.cont,σ,R)
 | .Pass _=>some (.next,σ,R)
 | _=>none
noncomputable def Hh(cx:Cx)(it:Expr)(σ:br)(R:List aN):Option (List PV × br × List aN):=optO (qW R σ it) (bnd (F.itv cx it σ R) λl R1=>some (l,σ,R1)) λy=>some (y.2,rf y.1 σ R)
noncomputable def Eg(cx:Cx)(σ:br)(x:Str)(v:PV)(R:List aN):Option FS:=optO (qL cx σ x v) none λσ'=>some (.next,σ',R)
noncomputable def FC(cx:Cx)(k:AK)(t e:Expr)(σ:br)(R:List aN):Option FS:=match k with
 | .disp x=>bnd (F.evm cx e σ R) λv R1=>Eg cx σ x v R1
 | .one x elt gs sc=>bnd (F.cmpv cx elt gs sc σ R) λys R2=>(match ys with
  | []=>none
  | y::r=>DK y none λb=>grd (r.all (VA b)) (Eg cx σ x (.bool b) R2))
 | .attr o a=>bnd (F.ev cx e σ R) λv R1=>bnd (F.ev cx o σ R1) λov R2=>jv R2 ov λk C fs=>grd (ta C a&&decide (fs.length<900)) (some (.next,σ,R2.set k (.inst C (iG fs a v))))
 | .plain=>grd (!(fy t&&fy e)) (bnd (F.ev cx e σ R) λv R1=>optO (iE cx t v σ) none λσ'=>some (.next,σ',R1))
noncomputable def Ng(cx:Cx)(t e:Expr)(σ:br)(R:List aN):Option FS:=FC F cx (ak t e) t e σ R
noncomputable def Qu(cx:Cx)(t:EV)(op:cw)(e:Expr)(σ:br)(R:List aN):Option FS:=match t with
 | .name x=>optO (σ.lookup x) none λa=>bnd (F.ev cx e σ R) λb R1=>optO (rt op a b) none λv=>Eg cx σ x v R1
 | .attr o a _=>bnd (F.ev cx o σ R) λov R1=>jv R1 ov λk C fs=>grd (ta C a) (optO (fs.lookup a) none λx=>bnd (F.ev cx e σ R1) λb R2=>jv R2 (.obj k) λζ D fs'=>
   grd (decide (D=C)&&decide (fs'.length<900)) (optO (rt op x b) none λv=>some (.next,σ,R2.set k (.inst C (iG fs' a v)))))
 | _=>none
noncomputable def PH(cx:Cx)(t:Expr)(op:cw)(e:Expr)(σ:br)(R:List aN):Option FS:=Qu F cx (jE t) op e σ R
noncomputable def PC(cx:Cx)(ss:List ir)(σ:br)(R:List aN):Option FS:=match ss with
 | []=>some (.next,σ,R)
 | s::r=>bnd (F.ex cx s σ R) λf y=>uC f y (F.exs cx r y.1 y.2)
noncomputable def WJ:AB:=⟨Vx sp F,ll sp F,PB F,PA F,L1 F,Vy F,UP F,Nd F,PD F,PG F,PE F,Nf F,PF F,LZ F,Vw F,Hh F,Ng F,PH F,PC F⟩
noncomputable def WN:AB:=⟨λζ ζ ζ ζ=>none,λζ ζ ζ ζ ζ ζ=>none,λζ ζ ζ ζ ζ=>none,λζ ζ ζ ζ ζ=>none,λζ ζ ζ ζ ζ ζ=>none,λζ ζ ζ ζ ζ ζ=>none,λζ ζ ζ ζ=>none,λζ ζ ζ ζ ζ=>none,λζ ζ ζ ζ=>none,λζ ζ ζ ζ=>none,λζ ζ ζ ζ=>none,λζ ζ ζ ζ=>none,λζ ζ ζ ζ=>none,λζ ζ ζ ζ=>none,
 λζ ζ ζ ζ=>none,λζ ζ ζ ζ=>none,λζ ζ ζ ζ ζ=>none,λζ ζ ζ ζ ζ ζ=>none,λζ ζ ζ ζ=>none⟩
noncomputable def mn(n:Nat):AB:=Jl WN (λζ F=>WJ sp F) n
noncomputable def ev(n:Nat):=(mn sp n).ev
noncomputable def sbv(n:Nat):=(mn sp n).sbv
noncomputable def cmpv(n:Nat):=(mn sp n).cmpv
noncomputable def tv(n:Nat):=(mn sp n).tv
noncomputable def tvs(n:Nat):=(mn sp n).tvs
noncomputable def evs(n:Nat):=(mn sp n).evs
noncomputable def itv(n:Nat):=(mn sp n).itv
noncomputable def evm(n:Nat):=(mn sp n).evm
noncomputable def evms(n:Nat):=(mn sp n).evms
noncomputable def ex(n:Nat):=(mn sp n).ex
noncomputable def forIt(n:Nat):=(mn sp n).forIt
noncomputable def exs(n:Nat):=(mn sp n).exs
noncomputable def Mc(f:Fl)(R:List aN):Option (PV × List aN):=match f with
 | .ret v=>some (v,R)
 | .next=>some (.none,R)
 | _=>none
noncomputable def nB(p:eE)(n:Nat):Spec:=λf pos kw R=>optO (Fe p f) none λfi=>optO (vA fi.fd.params fi.dflt pos kw) none λσ=>bnd (exs sp n ⟨fi.fd.scope.names,R.length⟩ fi.fd.body σ R) λf y=>Mc f y.2
end
end Mine
end
section
namespace Mine
noncomputable section
mutual
noncomputable def noObj:PV->Bool
 | .list l=>bF l
 | .tup l=>bF l
 | .obj _=>false
 | _=>true
noncomputable def bF:List PV->Bool
 | []=>true
 | x::r=>noObj x&&bF r
end
noncomputable def xQ:aN->Bool
 | .inst _ _=>false
 | .tab=>false
 | _=>true
noncomputable def xU:List aN->Bool
 | .tab::r=>r.all xQ
 | _=>false
noncomputable def Nv(sp:Spec):Spec:=λf pos kw R=>
 if bF pos&&(kw.isEmpty&&xU R)then(match sp f pos kw [.tab]with
  | some (v,R')=>if noObj v&&lO R' then some (v,R)else none
  | none=>none)else sp f pos kw R
noncomputable def fE:Nat->Spec
 | 0=>λζ ζ ζ ζ=>none
 | k+1=>Nv (nB (fE k) pw 400)
end
end Mine
end
section
namespace Mine
noncomputable def aA{α:Type}(P:α->Prop)(o:Option α):Prop:=∀a,o=some a->P a
theorem uL{α β:Type} [BEq α] [LawfulBEq α]{l:List (α × β)}{a:α}{b:β}(h:l.lookup a=some b):(a,b)∈l:=by
 induction l with
 | nil=>exact(nomatch h)
 | cons x r ih=>
  obtain⟨y,c⟩:=x
  rw [ba]at h
  cases e:a==y with
  | true=>rw [e]at h;exact aJ e▸aW h▸aj
  | false=>rw [e]at h;exact an _ (ih h)
theorem gF{α:Type}{a:α}(h:none=some a):False:=nomatch h
section
variable {α β γ δ:Type} {P P':α->Prop} {Q:β->Prop}
theorem aA.none:aA P none:=λζ h=>nomatch h
theorem aA.some{a:α}(h:P a):aA P (some a):=λζ e=>aW e▸h
theorem aA.mono{o:Option α}(h:aA P o)(k:∀a,P a->P' a):aA P' o:=λa e=>k a (h a e)
theorem aA.bnd{P:α × β->Prop}{Q:γ->Prop}{x:Option (α × β)}{k:α->β->Option γ}(h:aA P x)(hk:∀a b,P (a,b)->aA Q (k a b)):aA Q (bnd x k):=match x,h with
 | Option.none,_=>aA.none
 | Option.some (a,b),h=>hk a b (h _ rfl)
theorem aA.bnd'{Q:γ->Prop}{x:Option (α × β)}{k:α->β->Option γ}(hk:∀a b,x=Option.some (a,b)->aA Q (k a b)):aA Q (Mine.bnd x k):=aA.bnd (P:=λy=>x=Option.some y) (λζ e=>e) hk
theorem aA.grd{c:Bool}{x:Option α}(h:c=true->aA P x):aA P (grd c x):=match c,h with
 | true,h=>h rfl
 | false,_=>aA.none
theorem aA.optO{o:Option β}{d:Option α}{k:β->Option α}(hd:o=Option.none->aA P d)(hk:∀b,o=Option.some b->aA P (k b)):aA P (optO o d k):=match o,hd,hk with
 | Option.none,hd,_=>hd rfl
 | Option.some b,_,hk=>hk b rfl
theorem aA.opt{o:Option β}{k:β->Option α}(hk:∀b,o=Option.some b->aA P (k b)):aA P (Mine.optO o Option.none k):=aA.optO (λζ=>aA.none) hk
theorem aA.ret{P:α × List aN->Prop}{o:Option α}{R:List aN}(hk:∀b,o=Option.some b->P (b,R)):aA P (fM o R):=aA.opt λb e=>aA.some (hk b e)
theorem aA.bif{c:Bool}{x y:Option α}(h1:c=true->aA P x)(h2:c=false->aA P y):aA P (bif c then x else y):=match c,h1,h2 with
 | true,h,_=>h rfl
 | false,_,h=>h rfl
theorem kA{C:γ->Prop}{c:Bool}{x y:γ}(h1:c=true->C x)(h2:c=false->C y):C (bif c then x else y):=match c,h1,h2 with
 | true,h,_=>h rfl
 | false,_,h=>h rfl
theorem tG{C:Option β->γ->Prop}{d:γ}{k:β->γ}(o:Option β)(hd:C none d)(hk:∀b,C (some b) (k b)):C o (optO o d k):=match o with
 | none=>hd
 | some b=>hk b
theorem iv{C:List β->γ->Prop}{d k:γ}(l:List β)(hd:∀l,C l d)(hk:C [] k):C l (oo l d k):=match l with
 | []=>hk
 | _::_=>hd _
theorem fx{C:List β->γ->Prop}{d:γ}{k:β->γ}(l:List β)(hd:∀l,C l d)(hk:∀a,C [a] (k a)):C l (j9 l d k):=match l with
 | []=>hd _
 | [a]=>hk a
 | _::_::_=>hd _
theorem oP{C:List β->γ->Prop}{d:γ}{k:β->β->γ}(l:List β)(hd:∀l,C l d)(hk:∀a b,C [a,b] (k a b)):C l (xB l d k):=match l with
 | []=>hd _
 | [_]=>hd _
 | [a,b]=>hk a b
 | _::_::_::_=>hd _
theorem fD{C:Expr->EV->Prop}(e:Expr)(h0:∀e,C e .oth)(h1:∀x p,C (.Name x p) (.name x))(h2:∀c k p,C (.Constant c k p) (.const c))(h3:∀f as ks p,C (.Call f as ks p) (.call f as ks p))(h4:∀o a p,C (.Attribute o a p) (.attr o a p))(h5:∀ps b sc p,C (.Lambda ps b sc p) (.lam ps b sc))
  (h6:∀es k p,C (.Tuple es k p) (.tup es))(h7:∀es p,C (.List es p) (.list es))(h8:∀elt gs sc p,C (.SetComp elt gs sc p) (.setc elt gs sc))(h9:∀elt gs sc p,C (.ListComp elt gs sc p) (.listc elt gs sc))(h10:∀l op r p,C (.BinOp l op r p) (.bin l op r))(h11:∀op x p,C (.UnaryOp op x p) (.un op x))
  (h12:∀t a b p,C (.IfExp t a b p) (.ife t a b))(h13:∀op es p,C (.BoolOp op es p) (.boolop op es))(h14:∀l ops rs p,C (.Compare l ops rs p) (.cmp l ops rs))(h15:∀v i p,C (.Subscript v i p) (.sub v i))(h16:∀a b c p,C (.Slice a b c p) (.slice a b c)):C e (jE e):=by
 cases e<;>first | apply h1 | apply h2 | apply h3 | apply h4 | apply h5 | apply h6 | apply h7 | apply h8 | apply h9 | apply h10 | apply h11 | apply h12 | apply h13 | apply h14 | apply h15 | apply h16 | apply h0
theorem ii{C:Expr->γ->Prop}{d:γ}{k:Str->γ}(e:Expr)(hd:∀e,C e d)(hk:∀x p,C (.Name x p) (k x)):C e (kE e d k):=
 fD (C:=λe v=>C e (LY v d k)) e hd hk (λζ ζ ζ=>hd _) (λζ ζ ζ ζ=>hd _) (λζ ζ ζ=>hd _) (λζ ζ ζ ζ=>hd _) (λζ ζ ζ=>hd _) (λζ ζ=>hd _) (λζ ζ ζ ζ=>hd _) (λζ ζ ζ ζ=>hd _) (λζ ζ ζ ζ=>hd _) (λζ ζ ζ=>hd _) (λζ ζ ζ ζ=>hd _) (λζ ζ ζ=>hd _) (λζ ζ ζ ζ=>hd _) (λζ ζ ζ=>hd _) (λζ ζ ζ ζ=>hd _)
theorem rp{C:Expr->γ->Prop}{d:γ}{k:Expr->List Expr->List cQ->dS->γ}(e:Expr)(hd:∀e,C e d)(hk:∀f as ks p,C (.Call f as ks p) (k f as ks p)):C e (vy e d k):=
 fD (C:=λe v=>C e (Mi v d k)) e hd (λζ ζ=>hd _) (λζ ζ ζ=>hd _) hk (λζ ζ ζ=>hd _) (λζ ζ ζ ζ=>hd _) (λζ ζ ζ=>hd _) (λζ ζ=>hd _) (λζ ζ ζ ζ=>hd _) (λζ ζ ζ ζ=>hd _) (λζ ζ ζ ζ=>hd _) (λζ ζ ζ=>hd _) (λζ ζ ζ ζ=>hd _) (λζ ζ ζ=>hd _) (λζ ζ ζ ζ=>hd _) (λζ ζ ζ=>hd _) (λζ ζ ζ ζ=>hd _)
theorem Au{C:Expr->γ->Prop}{d:γ}{k:Expr->Str->dS->γ}(e:Expr)(hd:∀e,C e d)(hk:∀o a p,C (.Attribute o a p) (k o a p)):C e (IT e d k):=
 fD (C:=λe v=>C e (Ml v d k)) e hd (λζ ζ=>hd _) (λζ ζ ζ=>hd _) (λζ ζ ζ ζ=>hd _) hk (λζ ζ ζ ζ=>hd _) (λζ ζ ζ=>hd _) (λζ ζ=>hd _) (λζ ζ ζ ζ=>hd _) (λζ ζ ζ ζ=>hd _) (λζ ζ ζ ζ=>hd _) (λζ ζ ζ=>hd _) (λζ ζ ζ ζ=>hd _) (λζ ζ ζ=>hd _) (λζ ζ ζ ζ=>hd _) (λζ ζ ζ=>hd _) (λζ ζ ζ ζ=>hd _)
theorem Kz{C:Expr->γ->Prop}{d:γ}{k:iC->Expr->Scope->γ}(e:Expr)(hd:∀e,C e d)(hk:∀ps b sc p,C (.Lambda ps b sc p) (k ps b sc)):C e (PT e d k):=
 fD (C:=λe v=>C e (PS v d k)) e hd (λζ ζ=>hd _) (λζ ζ ζ=>hd _) (λζ ζ ζ ζ=>hd _) (λζ ζ ζ=>hd _) hk (λζ ζ ζ=>hd _) (λζ ζ=>hd _) (λζ ζ ζ ζ=>hd _) (λζ ζ ζ ζ=>hd _) (λζ ζ ζ ζ=>hd _) (λζ ζ ζ=>hd _) (λζ ζ ζ ζ=>hd _) (λζ ζ ζ=>hd _) (λζ ζ ζ ζ=>hd _) (λζ ζ ζ=>hd _) (λζ ζ ζ ζ=>hd _)
theorem xc{C:Expr->γ->Prop}{d:γ}{k:Const->γ}(e:Expr)(hd:∀e,C e d)(hk:∀c n p,C (.Constant c n p) (k c)):C e (yr (jE e) d k):=
 fD (C:=λe v=>C e (yr v d k)) e hd (λζ ζ=>hd _) hk (λζ ζ ζ ζ=>hd _) (λζ ζ ζ=>hd _) (λζ ζ ζ ζ=>hd _) (λζ ζ ζ=>hd _) (λζ ζ=>hd _) (λζ ζ ζ ζ=>hd _) (λζ ζ ζ ζ=>hd _) (λζ ζ ζ ζ=>hd _) (λζ ζ ζ=>hd _) (λζ ζ ζ ζ=>hd _) (λζ ζ ζ=>hd _) (λζ ζ ζ ζ=>hd _) (λζ ζ ζ=>hd _) (λζ ζ ζ ζ=>hd _)
theorem tD{C:Expr->γ->Prop}{d:γ}{k:Str->γ}(e:Expr)(hd:∀e,C e d)(hk:∀x n p,C (.Constant (.str x) n p) (k x)):C e (Gz e d k):=
 xc e hd λc n p=>by cases c<;>first | exact hk _ _ _ | exact hd _
theorem nf{C:PV->γ->Prop}{d:γ}{k:Int->γ}(v:PV)(hd:∀v,C v d)(hk:∀a,C (.int a) (k a)):C v (nC v d k):=by cases v<;>first | exact hk _ | exact hd _
theorem oS{C:PV->γ->Prop}{d:γ}{k:LS->γ}(v:PV)(hd:∀v,C v d)(hk:∀a,C (.str a) (k a)):C v (sY v d k):=by cases v<;>first | exact hk _ | exact hd _
theorem uP{C:PV->γ->Prop}{d:γ}{k:List PV->γ}(v:PV)(hd:∀v,C v d)(hk:∀a,C (.list a) (k a)):C v (jL v d k):=by cases v<;>first | exact hk _ | exact hd _
theorem xC{C:PV->γ->Prop}{d:γ}{k:List PV->γ}(v:PV)(hd:∀v,C v d)(hk:∀a,C (.tup a) (k a)):C v (aV v d k):=by cases v<;>first | exact hk _ | exact hd _
theorem Ar{C:PV->γ->Prop}{d:γ}{k:Bool->γ}(v:PV)(hd:∀v,C v d)(hk:∀a,C (.bool a) (k a)):C v (DK v d k):=by cases v<;>first | exact hk _ | exact hd _
theorem Km{C:PV->γ->Prop}{d:γ}{k:Nat->γ}(v:PV)(hd:∀v,C v d)(hk:∀a,C (.obj a) (k a)):C v (OK v d k):=by cases v<;>first | exact hk _ | exact hd _
theorem J5{C:PV->γ->Prop}{d:γ}{k:List PV->γ}(v:PV)(hd:∀v,C v d)(hk:∀a,C (.list a) (k a))(hk':∀a,C (.tup a) (k a)):C v (Ei v d k):=by cases v<;>first | exact hk _ | exact hk' _ | exact hd _
theorem oO{C:PV->γ->Prop}{d:γ}{k:String->γ}(v:PV)(hd:∀v,C v d)(hk:∀T,C (.val (.type T)) (k T)):C v (uf v d k):=by
 cases v with
 | val u=>cases u<;>first | exact hk _ | exact hd _
 | _=>exact hd _
theorem Kf{C:af->γ->Prop}{d:γ}{k:aB->γ}(v:af)(hd:∀v,C v d)(hk:∀T,C (.ref T) (k T)):C v (OC v d k):=by cases v<;>first | exact hk _ | exact hd _
section
variable (D:PV->Prop)
theorem KJ{v:PV}{k:Int->Option α}(h:D v)(hk:∀i,D (.int i)->aA P (k i)):aA P (nC v none k):=nf (C:=λv y=>D v->aA P y) v (λζ ζ=>aA.none) hk h
theorem Oy{v:PV}{k:LS->Option α}(h:D v)(hk:∀i,D (.str i)->aA P (k i)):aA P (sY v none k):=oS (C:=λv y=>D v->aA P y) v (λζ ζ=>aA.none) hk h
theorem Di{v:PV}{k:List PV->Option α}(h:D v)(hk:∀i,D (.list i)->aA P (k i)):aA P (jL v none k):=uP (C:=λv y=>D v->aA P y) v (λζ ζ=>aA.none) hk h
theorem Qr{v:PV}{k:Bool->Option α}(h:D v)(hk:∀i,D (.bool i)->aA P (k i)):aA P (DK v none k):=Ar (C:=λv y=>D v->aA P y) v (λζ ζ=>aA.none) hk h
theorem QR{v:PV}{k:List PV->Option α}(h:D v)(hk:∀i,D (.list i)->aA P (k i))(hk':∀i,D (.tup i)->aA P (k i)):aA P (Ei v none k):=J5 (C:=λv y=>D v->aA P y) v (λζ ζ=>aA.none) hk hk' h
set_option tactic.hygienic true in
theorem zW{R:List aN}{v:PV}{k:Nat->aB->List (Str × PV)->Option α}(h:D v)(hk:∀j C fs,D (.obj j)->R[j]? = some (.inst C fs)->aA P (k j C fs)):aA P (jv R v k):=by
 cases v
 case obj j=>exact aA.opt λr hr=>by cases r<;>first | exact hk _ _ _ h hr | exact aA.none
 all_goals exact aA.none
end
section
variable (D:List β->Prop)
theorem OI{l:List β}{k:β->Option α}(h:D l)(hk:∀a,D [a]->aA P (k a)):aA P (j9 l none k):=fx (C:=λl y=>D l->aA P y) l (λζ ζ=>aA.none) hk h
theorem UO{l:List β}{k:Option α}(h:D l)(hk:D []->aA P k):aA P (oo l none k):=iv (C:=λl y=>D l->aA P y) l (λζ ζ=>aA.none) hk h
end
theorem aA.lst{R:List aN}{j:Nat}{k:List PV->Option α}(h:∀l,R[j]? = Option.some (.lst l)->aA P (k l)):aA P (C9 R j k):=aA.opt λr hr=>by cases r<;>first | exact h _ hr | exact aA.none
theorem gH{x:Option (α × β)}{k:α->β->Option γ}{z:γ}(h:bnd x k=Option.some z):∃a b,x=Option.some (a,b)/\k a b=Option.some z:=match x,h with
 | Option.some (a,b),h=>⟨a,b,rfl,h⟩
theorem ig{o:Option α}{k:α->Option γ}{z:γ}(h:Mine.optO o Option.none k=Option.some z):∃a,o=Option.some a/\k a=Option.some z:=match o,h with
 | Option.some a,h=>⟨a,rfl,h⟩
theorem nh{c:Bool}{o:Option γ}{z:γ}(h:Mine.grd c o=Option.some z):c=true/\o=Option.some z:=match c,h with
 | true,h=>⟨rfl,h⟩
theorem zV{R:List aN}{j:Nat}{k:Nat->aB->List (Str × PV)->Option γ}{z:γ}(h:jv R (.obj j) k=Option.some z):∃C fs,R[j]? = Option.some (.inst C fs)/\k j C fs=Option.some z:=by
 obtain⟨r,hr,h⟩:=ig h
 cases r with
 | inst C fs=>exact⟨C,fs,hr,h⟩
 | _=>cases h
theorem eB{a b:Bool}(h:(a&&b)=true):a=true/\b=true:=aO.mp h
end
end Mine
end
section
namespace Mine
noncomputable section
noncomputable abbrev dB:=aB->Option jh
noncomputable abbrev dI:=List (aB × aB)
noncomputable def own(ρ:dI)(a:aB):Prop:=∃p∈ρ,a=p.1\/a=p.2
noncomputable abbrev cD(arr:Array af)(n:Nat):jh:={ cls:=.type "list",dict:=none,data:=.seq arr n,slots := #[] }
noncomputable abbrev mY(arr:Array af)(n:Nat):jh:={ cls:=.type "tuple",dict:=none,data:=.seq arr n,slots := #[] }
mutual
noncomputable def cn(I:dB)(ρ:dI):PV->af->Prop
 | .none,v=>v = .none
 | .bool b,v=>v = .bool b
 | .int i,v=>∃t,v = .int i t
 | .str l,v=>l.length<=SZ/\jb l=true /\ ∃t,v = .str ⟨l.toArray⟩ t
 | .list l,v=>l.length<=SZ /\ ∃a xs n,v = .ref a/\I a=some (cD (bk xs) n)/\a0 I ρ l xs
 | .tup l,v=>l.length<=SZ /\ ∃a xs n,v = .ref a/\I a=some (mY (bk xs) n)/\a0 I ρ l xs
 | .val x,v=>v=x
 | .obj k,v=>∃p,ρ[k]? = some p/\v = .ref p.1
noncomputable def a0(I:dB)(ρ:dI):List PV->List af->Prop
 | [],vs=>vs=[]
 | p::ps,vs=>∃v r,vs=v::r/\cn I ρ p v/\a0 I ρ ps r
end
noncomputable def oH(I:dB)(ρ:dI):List (Str × PV)->List kY->Prop
 | [],es=>es=[]
 | (x,p)::r,es=>∃hsh t v es',es=⟨hsh,.str x t,v⟩::es'/\cn I ρ p v/\oH I ρ r es'
noncomputable def Me(h:fv)(a:aB):Prop:=∃o,h.get? a=some o/\o.cls = .type "collections.deque"/\o.dict=none /\ ∃x y,o.data = .fields #[x,y]
noncomputable def j0:Str:="_law_met.<locals>.<lambda>"
noncomputable def Lz(I:dB)(ps:Array af):Prop:=TriplesOk ps.toList /\ ∀pos c,pz pos ps.toList=some c->∃c' o,c = .ref c'/\I c'=some o/\Fo (some o)=some j0
noncomputable def lu(I:dB)(ρ:dI)(h:fv)(p:aB × aB):aN->Prop
 | .lst l=>l.length<=SZ/\p.2=p.1 /\ ∃xs n,h.get? p.1=some (cD (bk xs) n)/\a0 I ρ l xs
 | .inst C fs=>p.2≠p.1/\h.get? p.1=some (nH C p.2)/\fs.length<=900 /\ ∃es n,h.get? p.2=some (AU es n)/\oH I ρ fs es
 | .deq=>p.2=p.1/\Me h p.1
 | .dead=>p.2=p.1 /\ ∃o,h.get? p.1=some o
 | .tab=>p.1=949/\p.2=p.1 /\ ∃ps,h.get? p.1=some (mN ps)/\Lz I ps
structure Bs where
 heap:fv
 stk:List aB
noncomputable def fK(I:dB)(ρ:dI)(a:aB):Prop:=I a≠none\/own ρ a
noncomputable def sM(h:fv)(a:aB):Prop:=∃o es ep,h.get? a=some o/\o.data = .dict es ep
noncomputable def lG(o o':jh):Prop:=o'=o\/((∃es ep,o.data = .dict es ep) /\ ∃sl,o'={ o with slots:=sl })
theorem lG.refl(o:jh):lG o o:=av rfl
theorem lG.data{o o':jh}(h:lG o o'):o'.data=o.data:=by
 rcases h with rfl | ⟨_,sl,rfl⟩<;>rfl
theorem lG.trans{o o' o'':jh}(h:lG o o')(h':lG o' o''):lG o o'':=by
 rcases h with rfl | ⟨d,sl,rfl⟩
 ·exact h'
 ·rcases h' with rfl | ⟨_,sl',rfl⟩
  ·exact am ⟨d,sl,rfl⟩
  ·exact am ⟨d,sl',rfl⟩
theorem lG.eq{o o':jh}(h:lG o o')(hn:∀es ep,o.data ≠ .dict es ep):o'=o:=by
 rcases h with rfl | ⟨⟨es,ep,d⟩,_⟩
 ·rfl
 ·exact absurd d (hn es ep)
structure Gd(H0:Bs)(I:dB)(ρ:dI)(R:List aN)(h:fv):Prop where
 imm:∀a o,I a=some o->h.get? a=some o
 base:∀a o,H0.heap.get? a=some o->I a=some o
 len:ρ.length=R.length
 recs:∀(k:Nat) (p:aB × aB) (r:aN),ρ[k]? = some p->R[k]? = some r->lu I ρ h p r
 dis:∀(k:Nat) (p:aB × aB) (r:aN),ρ[k]? = some p->R[k]? = some r->r ≠ .dead->I p.1=none/\I p.2=none
 apart:∀(j k:Nat) (p q:aB × aB),ρ[j]? = some p->ρ[k]? = some q->j≠k->p.1≠q.1/\p.1≠q.2/\p.2≠q.1/\p.2≠q.2
 stk:∀a∈H0.stk,¬fK I ρ a/\sM h a
noncomputable def Qx(X:aB->Prop)(h h':fv):Prop:=∀a o,¬X a->h.get? a=some o->∃o',h'.get? a=some o'/\lG o o'
structure a9(H0:Bs)(X:aB->Prop)(I:dB)(ρ:dI)(s:ag)(I':dB)(ρ':dI)(R':List aN)(s':ag):Prop where
 le:∀a o,I a=some o->I' a=some o
 pre:∃δ,ρ'=ρ++δ
 new:∀a,fK I' ρ' a->fK I ρ a\/s.heap.get? a=none
 keep:Qx (λa=>own ρ a\/X a) s.heap s'.heap
 alive:∀a,s.heap.get? a≠none->s'.heap.get? a≠none
 good:Gd H0 I' ρ' R' s'.heap
 os:s'.os=s.os
 gens:s'.gens=s.gens
theorem a9.trans{H0:Bs}{X:aB->Prop}{I I' I'':dB}{ρ ρ' ρ'':dI}{R R' R'':List aN}{s s' s'':ag}(G:Gd H0 I ρ R s.heap)
  (x:a9 H0 X I ρ s I' ρ' R' s')(y:a9 H0 X I' ρ' s' I'' ρ'' R'' s''):a9 H0 X I ρ s I'' ρ'' R'' s'' where
 le:=λa o h=>y.le a o (x.le a o h)
 pre:=by
  obtain⟨d,rfl⟩:=x.pre
  obtain⟨e,rfl⟩:=y.pre
  exact⟨d++e,aP ..⟩
 new:=λa h=>by
  rcases y.new a h with h | h
  ·exact x.new a h
  ·right
   cases e:s.heap.get? a with
   | none=>rfl
   | some o=>exact absurd h (x.alive a (by rw [e];exact λh=>nomatch h))
 keep:=λa o hn h=>by
  by_cases hi:I a=none
  ·obtain⟨o1,h1,l1⟩:=x.keep a o hn h
   refine(λ⟨o2,h2,l2⟩=>⟨o2,h2,l1.trans l2⟩) (y.keep a o1 (λhx=>?_) h1)
   rcases hx with hx | hx
   ·rcases x.new a (am hx)with (h1 | h1) | h1
    ·exact h1 hi
    ·exact hn (av h1)
    ·rw [h]at h1;cases h1
   ·exact hn (am hx)
  ·obtain⟨o1,h1⟩:=bj.mp hi
   have:=G.imm a o1 h1
   rw [h]at this
   cases this
   exact⟨o,y.good.imm a o (y.le a o (x.le a o h1)),lG.refl o⟩
 alive:=λa h=>y.alive a (x.alive a h)
 good:=y.good
 os:=y.os.trans x.os
 gens:=y.gens.trans x.gens
mutual
theorem cn.mono{I I':dB}{ρ δ:dI}(h:∀a o,I a=some o->I' a=some o):∀(p:PV) (v:af),cn I ρ p v->cn I' (ρ++δ) p v
 | .none,v=>id
 | .bool b,v=>id
 | .int i,v=>id
 | .str s,v=>id
 | .list l,v=>by
  rintro ⟨hl,a,xs,n,rfl,ha,hr⟩
  exact⟨hl,a,xs,n,rfl,h _ _ ha,a0.mono h l xs hr⟩
 | .tup l,v=>by
  rintro ⟨hl,a,xs,n,rfl,ha,hr⟩
  exact⟨hl,a,xs,n,rfl,h _ _ ha,a0.mono h l xs hr⟩
 | .val x,v=>id
 | .obj k,v=>by
  rintro ⟨p,hp,rfl⟩
  refine⟨p,?_,rfl⟩
  rw [eG (by obtain⟨h1,_⟩:=eF.mp hp;exact h1)]
  exact hp
theorem a0.mono{I I':dB}{ρ δ:dI}(h:∀a o,I a=some o->I' a=some o):∀(ps:List PV) (vs:List af),a0 I ρ ps vs->a0 I' (ρ++δ) ps vs
 | [],vs=>id
 | p::ps,vs=>by
  rintro ⟨v,r,rfl,h1,h2⟩
  exact⟨v,r,rfl,cn.mono h p v h1,a0.mono h ps r h2⟩
end
theorem oH.mono{I I':dB}{ρ δ:dI}(h:∀a o,I a=some o->I' a=some o):∀(fs:List (Str × PV)) (es:List kY),oH I ρ fs es->oH I' (ρ++δ) fs es:=by
 intro fs
 induction fs with
 | nil=>
  intro es
  exact id
 | cons xq r ih=>
  obtain⟨x,p⟩:=xq
  intro es
  rintro ⟨hsh,t,v,es',rfl,h1,h2⟩
  exact⟨hsh,t,v,es',rfl,cn.mono h p v h1,ih es' h2⟩
theorem lu.mono{I I':dB}{ρ δ:dI}{hp hp':fv}{p:aB × aB}{r:aN}(h:∀a o,I a=some o->I' a=some o)
  (k:∀a o,(a=p.1\/a=p.2)->hp.get? a=some o->hp'.get? a=some o)(x:lu I ρ hp p r):lu I' (ρ++δ) hp' p r:=by
 cases r with
 | lst l=>
  obtain⟨h1,h2,xs,n,h3,h4⟩:=x
  exact⟨h1,h2,xs,n,k _ _ (av rfl) h3,a0.mono h l xs h4⟩
 | inst C fs=>
  obtain⟨h1,h2,h3,es,n,h4,h5⟩:=x
  exact⟨h1,k _ _ (av rfl) h2,h3,es,n,k _ _ (am rfl) h4,oH.mono h fs es h5⟩
 | deq=>
  obtain⟨h1,o,h2,h3⟩:=x
  exact⟨h1,o,k _ _ (av rfl) h2,h3⟩
 | dead=>
  obtain⟨h1,o,h2⟩:=x
  exact⟨h1,o,k _ _ (av rfl) h2⟩
 | tab=>
  obtain⟨h1,h2,ps,h3,h4,h5⟩:=x
  exact⟨h1,h2,ps,k _ _ (av rfl) h3,h4,λpos c e=>let ⟨c',o,a,b,d⟩:=h5 pos c e;⟨c',o,a,h _ _ b,d⟩⟩
theorem Gd.keeps{H0:Bs}{I:dB}{ρ:dI}{R:List aN}{h h':fv}(G:Gd H0 I ρ R h)(k:∀a o,fK I ρ a->h.get? a=some o->h'.get? a=some o)(ks:∀a∈H0.stk,sM h a->sM h' a):Gd H0 I ρ R h' where
 imm:=λa o e=>k a o (av (by rw [e];exact λh=>nomatch h)) (G.imm a o e)
 base:=G.base
 len:=G.len
 recs:=λi p r h1 h2=>by
  have:=lu.mono (I:=I) (I':=I) (ρ:=ρ) (δ:=[]) (hp:=h) (hp':=h') (p:=p) (r:=r) (λζ ζ e=>e)
   (λa o ha e=>k a o (am ⟨p,be h1,ha⟩) e) (G.recs i p r h1 h2)
  rwa [aM]at this
 dis:=G.dis
 apart:=G.apart
 stk:=λa ha=>⟨(G.stk a ha).1,ks a ha (G.stk a ha).2⟩
theorem a9.quietX{H0:Bs}{X:aB->Prop}{I:dB}{ρ:dI}{R:List aN}{s s':ag}(G:Gd H0 I ρ R s.heap)(hX:∀a,X a->¬fK I ρ a)
  (k:∀a o,¬X a->s.heap.get? a=some o->s'.heap.get? a=some o)(al:∀a,X a->s.heap.get? a≠none->s'.heap.get? a≠none)(os:s'.os=s.os)(gens:s'.gens=s.gens)
  (hs:∀a,X a->a∈H0.stk->sM s'.heap a):a9 H0 X I ρ s I ρ R s' where
 le:=λζ ζ e=>e
 pre:=⟨[],(aM _).symm⟩
 new:=λζ h=>av h
 keep:=λa o hn h=>⟨o,k a o (λhx=>hn (am hx)) h,lG.refl o⟩
 alive:=λa h=>by
  by_cases hx:X a
  ·exact al a hx h
  ·obtain⟨o,e⟩:=bj.mp h
   rw [k a o hx e]
   exact λh=>nomatch h
 good:=G.keeps (λa o ho e=>k a o (λhx=>hX a hx ho) e) λa ha ⟨o,es,ep,e,d⟩=>by
  by_cases hx:X a
  ·exact hs a hx ha
  ·exact⟨o,es,ep,k a o hx e,d⟩
 os:=os
 gens:=gens
theorem a9.quiet{H0:Bs}{I:dB}{ρ:dI}{R:List aN}{s s':ag}(G:Gd H0 I ρ R s.heap)(hX:∀a,False->¬fK I ρ a)
  (k:∀a o,¬False->s.heap.get? a=some o->s'.heap.get? a=some o)(al:∀a,False->s.heap.get? a≠none->s'.heap.get? a≠none)(os:s'.os=s.os)(gens:s'.gens=s.gens):a9 H0 (λζ=>False) I ρ s I ρ R s':=a9.quietX G hX k al os gens λζ h ζ=>h.elim
theorem Gd.lt{H0:Bs}{I:dB}{ρ:dI}{R:List aN}{h:fv}(G:Gd H0 I ρ R h){a:aB}(x:fK I ρ a):h.get? a≠none:=by
 rcases x with x | ⟨p,hp,x⟩
 ·obtain⟨o,e⟩:=bj.mp x
  rw [G.imm a o e]
  exact λh=>nomatch h
 ·obtain⟨k,hk⟩:=List.mem_iff_getElem?.mp hp
  have hlt:k<R.length:=by
   rw [<-G.len]
   exact(eF.mp hk).1
  have:=G.recs k p R[k] hk (bQ hlt)
  generalize R[k]=r at this
  have e:∀o,h.get? p.1=some o->h.get? p.1≠none:=λo e=>by rw [e];exact λh=>nomatch h
  cases r with
  | lst l=>
   obtain⟨h1,h2,xs,n,h3,h4⟩:=this
   rcases x with rfl | rfl
   ·exact e _ h3
   ·rw [h2];exact e _ h3
  | inst C fs=>
   obtain⟨h1,h2,h3,es,n,h4,h5⟩:=this
   rcases x with rfl | rfl
   ·exact e _ h2
   ·rw [h4];exact λh=>nomatch h
  | deq=>
   obtain⟨h1,o,h2,h3⟩:=this
   rcases x with rfl | rfl
   ·exact e _ h2
   ·rw [h1];exact e _ h2
  | dead=>
   obtain⟨h1,o,h2⟩:=this
   rcases x with rfl | rfl
   ·exact e _ h2
   ·rw [h1];exact e _ h2
  | tab=>
   obtain⟨_,h1,o,h2,_⟩:=this
   rcases x with rfl | rfl
   ·exact e _ h2
   ·rw [h1];exact e _ h2
theorem zC{ρ:dI}{q:aB × aB}{a:aB}(h:own (ρ++[q]) a):own ρ a\/a=q.1\/a=q.2:=by
 obtain⟨p,hp,e⟩:=h
 rcases dk.mp hp with hp | hp
 ·exact av ⟨p,hp,e⟩
 ·rw [aC]at hp
  subst hp
  exact am e
theorem a9.fact{H0:Bs}{X:aB->Prop}{I:dB}{ρ:dI}{R:List aN}{s s':ag}(G:Gd H0 I ρ R s.heap){a:aB}{o:jh}(hn:s.heap.get? a=none)(ha:s'.heap.get? a=some o)
  (k:∀b o,s.heap.get? b=some o->s'.heap.get? b=some o)(os:s'.os=s.os)(gens:s'.gens=s.gens) :
  a9 H0 X I ρ s (λb=>if b=a then some o else I b) ρ R s':=by
 have hI:I a=none:=by
  cases e:I a with
  | none=>rfl
  | some o'=>rw [G.imm a o' e]at hn;cases hn
 have ho:¬own ρ a:=λh=>G.lt (am h) hn
 have le:∀b o',I b=some o'->(if b=a then some o else I b)=some o':=λb o' e=>by
  by_cases hb:b=a
  ·subst hb;rw [hI]at e;cases e
  ·rw [if_neg hb];exact e
 refine⟨le,⟨[],(aM _).symm⟩,λb h=>?_,λb o' ζ e=>⟨o',k b o' e,lG.refl o'⟩,λb h=>?_,⟨λb o' e=>?_,λb o' e=>le b o' (G.base b o' e),G.len,λi p r h1 h2=>?_,λi p r h1 h2 h3=>?_,G.apart,λb hb=>?_⟩,os,gens⟩
 ·by_cases hb:b=a
  ·subst hb;exact am hn
  ·rcases h with h | h
   ·replace h:(if b=a then some o else I b)≠none:=h
    rw [if_neg hb]at h;exact av (av h)
   ·exact av (am h)
 ·obtain⟨o',e⟩:=bj.mp h
  rw [k b o' e]
  exact λh=>nomatch h
 ·replace e:(if b=a then some o else I b)=some o':=e
  by_cases hb:b=a
  ·subst hb;rw [if_pos rfl]at e;cases e;exact ha
  ·rw [if_neg hb]at e;exact k b o' (G.imm b o' e)
 ·have:=lu.mono (I':=λb=>if b=a then some o else I b) (δ:=[]) (hp':=s'.heap) le (λb o' ζ e=>k b o' e) (G.recs i p r h1 h2)
  rwa [aM]at this
 ·have h4:=G.dis i p r h1 h2 h3
  have hm:=be h1
  have e1:p.1≠a:=λe=>ho ⟨p,hm,av e.symm⟩
  have e2:p.2≠a:=λe=>ho ⟨p,hm,am e.symm⟩
  show(if p.1=a then some o else I p.1)=none/\(if p.2=a then some o else I p.2)=none
  rw [if_neg e1,if_neg e2]
  exact h4
 ·obtain⟨g1,ob,es,ep,g2,g3⟩:=G.stk b hb
  have hba:b≠a:=λq=>by rw [q,hn]at g2;cases g2
  refine⟨λq=>g1 ?_,ob,es,ep,k b ob g2,g3⟩
  rcases q with q | q
  ·replace q:(if b=a then some o else I b)≠none:=q
   rw [if_neg hba]at q
   exact av q
  ·exact am q
theorem a9.recd{H0:Bs}{X:aB->Prop}{I:dB}{ρ:dI}{R:List aN}{s s':ag}(G:Gd H0 I ρ R s.heap){p:aB × aB}{r:aN}(hn1:s.heap.get? p.1=none)(hn2:s.heap.get? p.2=none)
  (k:∀b o,s.heap.get? b=some o->s'.heap.get? b=some o)(hr:lu I (ρ++[p]) s'.heap p r)(os:s'.os=s.os)(gens:s'.gens=s.gens) :
  a9 H0 X I ρ s I (ρ++[p]) (R++[r]) s':=by
 have hI:∀a,s.heap.get? a=none->I a=none:=λa hn=>by
  cases e:I a with
  | none=>rfl
  | some o'=>rw [G.imm a o' e]at hn;cases hn
 have ho:∀a,s.heap.get? a=none->¬own ρ a:=λa hn h=>G.lt (am h) hn
 have old:∀(i:Nat) (q:aB × aB),ρ[i]? = some q->i<ρ.length:=λi q h=>(eF.mp h).1
 have cases_:∀(i:Nat) (q:aB × aB),(ρ++[p])[i]? = some q->(ρ[i]? = some q/\i<ρ.length)\/(i=ρ.length/\q=p):=λi q h=>by
  rcases mI i ρ.length with h1 | h1 | h1
  ·rw [eG h1]at h;exact av ⟨h,h1⟩
  ·subst h1
   rw [bI (aF _),eX]at h
   exact am ⟨rfl,by simpa using h.symm⟩
  ·rw [hG (by rw [ai,oL];exact o2 h1)]at h;cases h
 refine⟨λζ ζ e=>e,⟨[p],rfl⟩,λb h=>?_,λb o' ζ e=>⟨o',k b o' e,lG.refl o'⟩,λb h=>?_,⟨λb o' e=>k b o' (G.imm b o' e),G.base,by rw [ai,ai,G.len];rfl,λi q r' h1 h2=>?_,λi q r' h1 h2 h3=>?_,λi j q q' h1 h2 hij=>?_,λb hb=>?_⟩,os,gens⟩
 ·rcases h with h | h
  ·exact av (av h)
  ·rcases zC h with h | h | h
   ·exact av (am h)
   ·subst h;exact am hn1
   ·subst h;exact am hn2
 ·obtain⟨o',e⟩:=bj.mp h
  rw [k b o' e]
  exact λh=>nomatch h
 ·rcases cases_ i q h1 with ⟨h3,h4⟩ | ⟨rfl,rfl⟩
  ·rw [eG (by rw [<-G.len];exact h4)]at h2
   exact lu.mono (λζ ζ e=>e) (λb o' ζ e=>k b o' e) (G.recs i q r' h3 h2)
  ·rw [G.len,bI (aF _),eX]at h2
   have:r=r':=by simpa using h2
   subst this
   exact hr
 ·rcases cases_ i q h1 with ⟨h5,h4⟩ | ⟨rfl,rfl⟩
  ·rw [eG (by rw [<-G.len];exact h4)]at h2
   exact G.dis i q r' h5 h2 h3
  ·exact⟨hI _ hn1,hI _ hn2⟩
 ·rcases cases_ i q h1 with ⟨h5,h4⟩ | ⟨rfl,rfl⟩<;>rcases cases_ j q' h2 with ⟨h6,h7⟩ | ⟨rfl,rfl⟩
  ·exact G.apart i j q q' h5 h6 hij
  ·have hm:=be h5
   exact⟨λe=>ho _ hn1 ⟨q,hm,av e.symm⟩,λe=>ho _ hn2 ⟨q,hm,av e.symm⟩,λe=>ho _ hn1 ⟨q,hm,am e.symm⟩,λe=>ho _ hn2 ⟨q,hm,am e.symm⟩⟩
  ·have hm:=be h6
   exact⟨λe=>ho _ hn1 ⟨q',hm,av e⟩,λe=>ho _ hn1 ⟨q',hm,am e⟩,λe=>ho _ hn2 ⟨q',hm,av e⟩,λe=>ho _ hn2 ⟨q',hm,am e⟩⟩
  ·exact absurd rfl hij
 ·obtain⟨g1,ob,es,ep,g2,g3⟩:=G.stk b hb
  refine⟨λq=>?_,ob,es,ep,k b ob g2,g3⟩
  rcases q with q | q
  ·exact g1 (av q)
  ·rcases zC q with q | q | q
   ·exact g1 (am q)
   ·rw [q,hn1]at g2;cases g2
   ·rw [q,hn2]at g2;cases g2
theorem oX{α:Type}{l:List α}{k i:Nat}{x y:α}(h:(l.set k x)[i]? = some y):(i=k/\y=x)\/(i≠k/\l[i]? = some y):=by
 rw [F9]at h
 by_cases e:k=i
 ·subst e
  rw [if_pos rfl]at h
  by_cases hl:k<l.length
  ·rw [if_pos hl]at h;cases h;exact av ⟨rfl,rfl⟩
  ·rw [if_neg hl]at h;cases h
 ·rw [if_neg e]at h;exact am ⟨λe'=>e e'.symm,h⟩
theorem a9.write{H0:Bs}{X:aB->Prop}{I:dB}{ρ:dI}{R:List aN}{s s':ag}(G:Gd H0 I ρ R s.heap){k:Nat}{p:aB × aB}{r r':aN}(hp:ρ[k]? = some p)(hr:R[k]? = some r)(hd:r ≠ .dead)
  (kp:∀b o,b≠p.1->b≠p.2->s.heap.get? b=some o->s'.heap.get? b=some o)(hr':lu I ρ s'.heap p r')(al:s'.heap.get? p.1≠none/\s'.heap.get? p.2≠none)(os:s'.os=s.os)(gens:s'.gens=s.gens) :
  a9 H0 X I ρ s I ρ (R.set k r') s':=by
 obtain⟨d1,d2⟩:=G.dis k p r hp hr hd
 refine⟨λζ ζ e=>e,⟨[],(aM _).symm⟩,λb h=>av h,λb o' hn e=>⟨o',kp b o' (λh=>hn (av ⟨p,be hp,av h⟩)) (λh=>hn (av ⟨p,be hp,am h⟩)) e,lG.refl o'⟩,λb h=>?_,
  ⟨λb o' e=>kp b o' (λh=>by subst h;rw [d1]at e;cases e) (λh=>by subst h;rw [d2]at e;cases e) (G.imm b o' e),G.base,by rw [vJ];exact G.len,λi q r1 h1 h2=>?_,λi q r1 h1 h2 h3=>?_,G.apart,λb hb=>?_⟩,os,gens⟩
 ·by_cases h1:b=p.1
  ·rw [h1];exact al.1
  ·by_cases h2:b=p.2
   ·rw [h2];exact al.2
   ·obtain⟨o',e⟩:=bj.mp h
    rw [kp b o' h1 h2 e]
    exact λh=>nomatch h
 ·rcases oX h2 with ⟨rfl,rfl⟩ | ⟨hne,h2⟩
  ·rw [hp]at h1;cases h1;exact hr'
  ·have hap:=G.apart i k q p h1 hp hne
   have:=lu.mono (I':=I) (δ:=[]) (hp':=s'.heap) (λζ ζ e=>e) (λb o' hb e=>kp b o' (λh=>by subst h;rcases hb with hb | hb;exact hap.1 hb.symm;exact hap.2.2.1 hb.symm)
    (λh=>by subst h;rcases hb with hb | hb;exact hap.2.1 hb.symm;exact hap.2.2.2 hb.symm) e) (G.recs i q r1 h1 h2)
   rwa [aM]at this
 ·rcases oX h2 with ⟨rfl,rfl⟩ | ⟨hne,h2⟩
  ·rw [hp]at h1;cases h1;exact⟨d1,d2⟩
  ·exact G.dis i q r1 h1 h2 h3
 ·obtain⟨g1,ob,es,ep,g2,g3⟩:=G.stk b hb
  exact⟨g1,ob,es,ep,kp b ob (λq=>g1 (am ⟨p,be hp,av q⟩)) (λq=>g1 (am ⟨p,be hp,am q⟩)) g2,g3⟩
end
end Mine
end
section
namespace Mine
noncomputable section
noncomputable def kL(env:d7)(a:aB):Prop:=a=env.locals \/ ∃x,env.cells.lookup x=some a
noncomputable def mF(env:d7)(a:aB):Prop:=a=env.locals\/(env.func.isSome=true /\ ∃x,env.cells.lookup x=some a)
noncomputable def yc(env:d7)(x:Str):Prop:=env.kindOf x=some .cell\/(env.kindOf x=some .free/\(x==("__classdict__":Str))=false)
structure b5(I:dB)(ρ:dI)(cx:Cx)(σ:br)(env:d7)(h:fv):Prop where
 kf:env.scope.kind = .function
 gle:env.globals=c8
 ble:env.builtins=jN
 glo:∀x,gl cx x=true->env.kindOf x=some .globalImplicit
 loc:∀x,cx.names.lookup x=some .local->env.kindOf x=some .local
 fn:∀x,cx.names.lookup x=some .cell->env.func.isSome=true
 cek:∀x,cx.names.lookup x=some .cell->env.kindOf x=some .cell
 cel:∀x k,cx.names.lookup x=some k->k = .cell\/k = .free->yc env x /\ ∃c v,env.cells.lookup x=some c/\h.IsCell c v
 ns:∃m,h.Ns env.locals m /\ ∀x v,σ.lookup x=some v->gl cx x=false/\((env.kindOf x=some .local /\ ∃u,m x=some u/\cn I ρ v u)\/(yc env x /\ ∃c u,env.cells.lookup x=some c/\h.IsCell c (some u)/\cn I ρ v u))
 sep:∀a,kL env a->¬fK I ρ a
 apart:∀x y a,env.cells.lookup x=some a->env.cells.lookup y=some a->x=y
 alive:∀a,kL env a->h.get? a≠none
 dbg:env.kindOf ("__debug__":Str)=none
 law:cx.names.lookup ("met":Str)=some .cell->env.code = .ref 951/\env.qual=("_law_met.<locals>.":Str)
noncomputable def cE(H0:Bs)(A:bD)(n:Nat):Prop:=A.handled=none/\A.depth+10*n<=900/\A.units+50*n<=9000 /\ ∃l,A.frames=some l/\l.map (·.frame)=H0.stk.map some /\ ∀e∈l,e.scope.kind ≠ .module
theorem cE.in1{H0:Bs}{A:bD}{n:Nat}(h:cE H0 A (n+1)):cE H0 A.in1 n:=⟨h.1,by have:=h.2.1;show A.depth+_<=_;exact o3 this,by have:=h.2.2.1;show A.units+1+_<=_;exact o4 this,h.2.2.2⟩
theorem cE.le{H0:Bs}{A:bD}{n m:Nat}(h:cE H0 A n)(hm:m<=n):cE H0 A m:=⟨h.1,by have:=h.2.1;exact o5 hm this,by have:=h.2.2.1;exact o6 hm this,h.2.2.2⟩
noncomputable abbrev eg:aB->Prop:=λζ=>False
inductive fP(H0:Bs)(I:dB)(ρ:dI)(s:ag)(v:PV)(R':List aN)(u:af)(s':ag):Prop
 | mk (I':dB) (ρ':dI) (x:a9 H0 eg I ρ s I' ρ' R' s') (h:cn I' ρ' v u):fP H0 I ρ s v R' u s'
inductive I8(H0:Bs)(I:dB)(ρ:dI)(s:ag)(v:List PV)(R':List aN)(u:List af)(s':ag):Prop
 | mk (I':dB) (ρ':dI) (x:a9 H0 eg I ρ s I' ρ' R' s') (h:a0 I' ρ' v u):I8 H0 I ρ s v R' u s'
inductive ry(H0:Bs)(I:dB)(ρ:dI)(s:ag)(v:Bool)(R':List aN)(u:Bool)(s':ag):Prop
 | mk (I':dB) (ρ':dI) (x:a9 H0 eg I ρ s I' ρ' R' s') (h:u=v):ry H0 I ρ s v R' u s'
noncomputable def LA(I:dB)(ρ:dI)(kw:List (Str × PV))(kvs:List (Str × af)):Prop:=kvs.map (·.1)=kw.map (·.1)/\a0 I ρ (kw.map (·.2)) (kvs.map (·.2))
section
variable (H0:Bs) (w:bG) (n:Nat)
noncomputable def Oe(f:aB)(pos:List PV)(kw:List (Str × PV))(R:List aN)(v:PV)(R':List aN):Prop:=
 ∀(A:bD) (E:af->ag->Prop) (I:dB) (ρ:dI) (s:ag) (pvs:List af) (kvs:List (Str × af)),cE H0 A n->Gd H0 I ρ R s.heap->a0 I ρ pos pvs->LA I ρ kw kvs ->
  cA (aw pw w) A (.call (.ref f) ⟨pvs,kvs⟩) (λr s'=>match r with | .ok (.ret u)=>fP H0 I ρ s v R' u s' | .ok _=>False | .error e=>E e s') s
noncomputable def dA(sp:Spec):Prop:=∀f pos kw R v R',sp f pos kw R=some (v,R')->Oe H0 w n f pos kw R v R'
noncomputable def dP(cx:Cx)(e:Expr)(σ:br)(R:List aN)(v:PV)(R':List aN):Prop:=
 ∀(A:bD) (E:af->ag->Prop) (I:dB) (ρ:dI) (env:d7) (s:ag),cE H0 A (n+1)->Gd H0 I ρ R s.heap->b5 I ρ cx σ env s.heap ->
  aq (aw pw w) A (ej e env) (fP H0 I ρ s v R') E s
noncomputable def CA(cx:Cx)(e:Expr)(σ:br)(R:List aN)(v:Bool)(R':List aN):Prop:=
 ∀(A:bD) (E:af->ag->Prop) (I:dB) (ρ:dI) (env:d7) (s:ag),cE H0 A (n+1)->Gd H0 I ρ R s.heap->b5 I ρ cx σ env s.heap ->
  aq (aw pw w) A (isTrue e env (ej e env)) (ry H0 I ρ s v R') E s
noncomputable def FF(cx:Cx)(op:BoolOp)(es:List Expr)(σ:br)(R:List aN)(v:Bool)(R':List aN):Prop:=
 ∀(A:bD) (E:af->ag->Prop) (I:dB) (ρ:dI) (env:d7) (s:ag),cE H0 A (n+1)->Gd H0 I ρ R s.heap->b5 I ρ cx σ env s.heap ->
  aq (aw pw w) A (allTrue op es env) (ry H0 I ρ s v R') E s
noncomputable def qr(cx:Cx)(es:List Expr)(σ:br)(R:List aN)(v:List PV)(R':List aN):Prop:=
 ∀(A:bD) (E:af->ag->Prop) (I:dB) (ρ:dI) (env:d7) (pos:dS) (s:ag),cE H0 A (n+1)->Gd H0 I ρ R s.heap->b5 I ρ cx σ env s.heap ->
  aq (aw pw w) A (spliced (hU pos (bU es env))) (I8 H0 I ρ s v R') E s
noncomputable def Oo(cx:Cx)(l:Expr)(op:mU)(r:Expr)(σ:br)(R:List aN)(v:Bool)(R':List aN):Prop:=
 nU op r=false /\ ∀(A:bD) (E:af->ag->Prop) (I:dB) (ρ:dI) (env:d7) (s:ag),cE H0 A (n+1)->Gd H0 I ρ R s.heap->b5 I ρ cx σ env s.heap ->
  aq (aw pw w) A (ej l env) (λa s₁=>aq (aw pw w) A (ej r env) (λb s₂=>aq (aw pw w) A (py op a b) (fP H0 I ρ s (.bool v) R') E s₂) E s₁) E s
end
section
variable {H0:Bs} {w:bG} {n:Nat} {I I':dB} {ρ ρ':dI} {R R':List aN} {cx:Cx} {σ:br} {env:d7} {A:bD} {E:af->ag->Prop} {s s':ag}
theorem cn.le{v:PV}{u:af}{X:aB->Prop}(x:a9 H0 X I ρ s I' ρ' R' s')(h:cn I ρ v u):cn I' ρ' v u:=by
 obtain⟨d,rfl⟩:=x.pre
 exact cn.mono x.le v u h
theorem a0.le{v:List PV}{u:List af}{X:aB->Prop}(x:a9 H0 X I ρ s I' ρ' R' s')(h:a0 I ρ v u):a0 I' ρ' v u:=by
 obtain⟨d,rfl⟩:=x.pre
 exact a0.mono x.le v u h
theorem a9.fset{X:aB->Prop}(x:a9 H0 X I ρ s I' ρ' R' s')(O:b5 I ρ cx σ env s.heap):∀a,kL env a->¬fK I' ρ' a:=λa ha h=>by
 rcases x.new a h with h | h
 ·exact O.sep a ha h
 ·exact O.alive a ha h
theorem b5.sepW{h:fv}(O:b5 I ρ cx σ env h)(a:aB)(x:mF env a):¬fK I ρ a:=O.sep a (x.imp id λq=>q.2)
theorem mF.f{a:aB}(x:mF env a):kL env a:=x.imp id λq=>q.2
theorem b5.step(O:b5 I ρ cx σ env s.heap)(x:a9 H0 eg I ρ s I' ρ' R' s'):b5 I' ρ' cx σ env s'.heap:=by
 have kp:∀a o,kL env a->s.heap.get? a=some o->∃o',s'.heap.get? a=some o'/\o'.data=o.data:=λa o ha e=>
  let ⟨o',h1,h2⟩:=x.keep a o (λh=>h.elim (λh=>O.sep a ha (am h)) id) e
  ⟨o',h1,h2.data⟩
 refine⟨O.kf,O.gle,O.ble,O.glo,O.loc,O.fn,O.cek,λy k hy hk=>?_,?_,x.fset O,O.apart,λa ha=>x.alive a (O.alive a ha),O.dbg,O.law⟩
 ·obtain⟨h1,c,v,h2,o,h3,h4⟩:=O.cel y k hy hk
  obtain⟨o',k1,k2⟩:=kp c o (am ⟨y,h2⟩) h3
  exact⟨h1,c,v,h2,o',k1,k2.trans h4⟩
 ·obtain⟨m,⟨o,es,ep,h1,h2,h2'⟩,h3⟩:=O.ns
  obtain⟨o',k1,k2⟩:=kp _ o (av rfl) h1
  refine⟨m,⟨o',es,ep,k1,k2.trans h2,h2'⟩,λy v hy=>?_⟩
  obtain⟨h4,h5⟩:=h3 y v hy
  refine⟨h4,?_⟩
  rcases h5 with ⟨h5,u,h6,h7⟩ | ⟨h5,c,u,h6,⟨o,h7,h8⟩,h9⟩
  ·exact av ⟨h5,u,h6,h7.le x⟩
  ·obtain⟨o',k1,k2⟩:=kp c o (am ⟨y,h6⟩) h7
   exact am ⟨h5,c,u,h6,⟨o',k1,k2.trans h8⟩,h9.le x⟩
theorem a9.toks{X:aB->Prop}(G:Gd H0 I ρ R s.heap)(hX:∀a,X a->¬fK I ρ a)(t:Nat):a9 H0 X I ρ s I ρ R { s with toks:=t }:=a9.quietX G hX (λζ ζ ζ e=>e) (λζ ζ e=>e) rfl rfl (λa ζ ha=>(G.stk a ha).2)
theorem a9.self{X:aB->Prop}(G:Gd H0 I ρ R s.heap)(hX:∀a,X a->¬fK I ρ a):a9 H0 X I ρ s I ρ R s:=a9.quietX G hX (λζ ζ ζ e=>e) (λζ ζ e=>e) rfl rfl (λa ζ ha=>(G.stk a ha).2)
theorem m6:∀a,eg a->¬fK I ρ a:=λζ h=>h.elim
theorem fP.mono_{v:PV}{R'':List aN}(G:Gd H0 I ρ R s.heap)(x:a9 H0 eg I ρ s I' ρ' R' s'){u:af}{s'':ag}(h:fP H0 I' ρ' s' v R'' u s''):fP H0 I ρ s v R'' u s'':=by
 obtain⟨I2,ρ2,y,r⟩:=h
 exact⟨I2,ρ2,x.trans G y,r⟩
theorem ry.mono_{v:Bool}{R'':List aN}(G:Gd H0 I ρ R s.heap)(x:a9 H0 eg I ρ s I' ρ' R' s'){u:Bool}{s'':ag}(h:ry H0 I' ρ' s' v R'' u s''):ry H0 I ρ s v R'' u s'':=by
 obtain⟨I2,ρ2,y,r⟩:=h
 exact⟨I2,ρ2,x.trans G y,r⟩
theorem oj{v:PV}{u:af}(G:Gd H0 I ρ R s.heap)(h:cn I ρ v u)(t:Nat):fP H0 I ρ s v R u { s with toks:=t }:=⟨I,ρ,a9.toks G m6 t,h⟩
theorem d8{v:PV}{u:af}(G:Gd H0 I ρ R s.heap)(h:cn I ρ v u):fP H0 I ρ s v R u s:=⟨I,ρ,a9.self G m6,h⟩
theorem kQ{b:Bool}(G:Gd H0 I ρ R s.heap):ry H0 I ρ s b R b s:=⟨I,ρ,a9.self G m6,rfl⟩
theorem Gd.baseAt(B:dC w H0.heap)(G:Gd H0 I ρ R s.heap):dC w s.heap:=B.keeps λa o e=>G.imm a o (G.base a o e)
theorem Fa(B:dC w H0.heap)(G:Gd H0 I ρ R s.heap){x:Str}{v:af}(h:ff x=some v):∃mg mb,s.heap.Ns c8 mg/\s.heap.Ns jN mb/\(mg x=some v\/(mg x=none/\mb x=some v)):=by
 have B':=G.baseAt B
 obtain⟨mg,h1,h2,h3⟩:=B'.g
 obtain⟨mb,h4,h5⟩:=B'.b
 refine⟨mg,mb,h1,h4,?_⟩
 unfold ff at h
 cases e:GN.lookup x with
 | some u=>
  rw [e]at h
  cases h
  exact av (h2 _ (mem_of_lookup e))
 | none=>
  rw [e]at h
  have hm:(x,v)∈BN:=mem_of_lookup h
  exact am ⟨h3 _ hm,h5 _ hm⟩
theorem cH(B:dC w H0.heap)(G:Gd H0 I ρ R s.heap)(O:b5 I ρ cx σ env s.heap){x:Str}{v:af}(hx:gl cx x=true)(h:ff x=some v){Q:af->ag->Prop}(hQ:Q v s) :
  aq (aw pw w) A (loadName env x) Q E s:=by
 obtain⟨mg,mb,h1,h2,h3⟩:=Fa B G h
 have hk:=O.glo x hx
 unfold loadName
 simp only [Env.blockKind,hk,O.kf,ScopeKind.isAnnotationScope,Bool.false_and,a8,if_false]
 rcases h3 with h3 | ⟨h3,h4⟩
 ·exact Calls.loadGlobal_global (by rw [O.gle];exact h1) h3 hQ
 ·exact Calls.loadGlobal_builtin (by rw [O.gle];exact h1) h3 (by rw [O.ble];exact h2) h4 hQ
theorem dm(O:b5 I ρ cx σ env s.heap){x:Str}{k:dY}(h:env.kindOf x=some k):(x==("__debug__":Str))=false:=by
 cases e:x==("__debug__":Str)with
 | false=>rfl
 | true=>rw [aJ e,O.dbg]at h;cases h
theorem uO(O:b5 I ρ cx σ env s.heap){x:Str}{v:PV}(h:σ.lookup x=some v){Q:af->ag->Prop}(hQ:∀u,cn I ρ v u->Q u s):aq (aw pw w) A (loadName env x) Q E s:=by
 obtain⟨m,h1,h2⟩:=O.ns
 obtain⟨_,h3⟩:=h2 x v h
 rcases h3 with ⟨h3,u,h4,h5⟩ | ⟨h3,c,u,h4,h5,h6⟩
 ·exact wpAny_loadName_local O.kf h3 h1 h4 (hQ u h5)
 ·rcases h3 with h3 | ⟨h3,h7⟩
  ·exact wpAny_loadName_cell O.kf h3 h4 h5 (hQ u h6)
  ·exact wpAny_loadName_free O.kf h3 h4 h5 (hQ u h6) h7
theorem zD(O:b5 I ρ cx σ env s.heap){x:Str}{v:PV}(h:σ.lookup x=some v):∃k,env.kindOf x=some k:=by
 obtain⟨m,h1,h2⟩:=O.ns
 obtain⟨_,h3⟩:=h2 x v h
 rcases h3 with ⟨h3,_⟩ | ⟨h3 | ⟨h3,_⟩,_⟩<;>exact⟨_,h3⟩
end
end
end Mine
end
section
open PySem PySem.W PyProof.Rows PySem.Spec
namespace Mine
noncomputable section
mutual
theorem wF{I:dB}{ρ ρ':dI}:∀{p:PV} {v:af},noObj p=true->cn I ρ p v->cn I ρ' p v
 | .none,v,_,h=>h
 | .bool b,v,_,h=>h
 | .int i,v,_,h=>h
 | .str s,v,_,h=>h
 | .val x,v,_,h=>h
 | .obj k,v,e,h=>nomatch e
 | .list l,v,e,h=>by
  obtain⟨hl,a,xs,n,rfl,ha,hr⟩:=h
  exact⟨hl,a,xs,n,rfl,ha,lf e hr⟩
 | .tup l,v,e,h=>by
  obtain⟨hl,a,xs,n,rfl,ha,hr⟩:=h
  exact⟨hl,a,xs,n,rfl,ha,lf e hr⟩
theorem lf{I:dB}{ρ ρ':dI}:∀{l:List PV} {vs:List af},bF l=true->a0 I ρ l vs->a0 I ρ' l vs
 | [],vs,_,h=>h
 | p::r,vs,e,h=>by
  obtain⟨v,q,rfl,h1,h2⟩:=h
  have e':=aO.mp e
  exact⟨v,q,rfl,wF e'.1 h1,lf e'.2 h2⟩
end
theorem uV{R:List aN}(h:lO R=true):R[0]? = some .tab:=by
 unfold lO at h
 cases e:R[0]? with
 | none=>rw [e]at h;cases h
 | some r=>rw [e]at h;cases r<;>first | rfl | cases h
section
variable {H0:Bs} {w:bG} {n:Nat}
theorem uz{p0:aB × aB}{ρs:dI}{a:aB}(h:own [p0] a):own (p0::ρs) a:=by
 obtain⟨p,hp,e⟩:=h
 rw [aC]at hp
 exact⟨p,hp▸aj,e⟩
theorem Nu{I:dB}{p0:aB × aB}{ρs:dI}{Rs:List aN}{hp:fv}(G:Gd H0 I (p0::ρs) (.tab::Rs) hp):Gd H0 I [p0] [.tab] hp where
 imm:=G.imm
 base:=G.base
 len:=rfl
 recs:=λk p r h1 h2=>by
  cases k with
  | zero=>cases h1;cases h2;exact G.recs 0 _ _ rfl rfl
  | succ k=>cases h1
 dis:=λk p r h1 h2=>by
  cases k with
  | zero=>cases h1;cases h2;exact G.dis 0 _ _ rfl rfl
  | succ k=>cases h1
 apart:=λj k p q h1 h2 hjk=>by
  cases j with
  | zero=>cases k with
   | zero=>exact absurd rfl hjk
   | succ k=>cases h2
  | succ j=>cases h1
 stk:=λa ha=>⟨λq=>(G.stk a ha).1 (q.imp id uz),(G.stk a ha).2⟩
theorem HM{I I':dB}{p0:aB × aB}{ρs ρ':dI}{Rs R1:List aN}{s s':ag}(G:Gd H0 I (p0::ρs) (.tab::Rs) s.heap)(hp:Rs.all xQ=true)(ht:R1[0]? = some .tab)
  (x:a9 H0 eg I [p0] s I' ρ' R1 s'):a9 H0 eg I (p0::ρs) s I' (p0::ρs) (.tab::Rs) s':=by
 have hd:ρ'[0]? = some p0:=by
  obtain⟨d,rfl⟩:=x.pre
  rfl
 have far:∀k p,(p0::ρs)[k+1]? = some p->¬own [p0] p.1:=λk p hk ⟨q,hq,e⟩=>by
  rw [aC]at hq
  subst hq
  have:=G.apart (k+1) 0 p _ hk rfl (tX k)
  rcases e with e | e
  ·exact this.1 e
  ·exact this.2.1 e
 have self:∀k p r,(p0::ρs)[k+1]? = some p->(.tab::Rs:List aN)[k+1]? = some r->p.2=p.1:=λk p r hk hr=>by
  have h1:=G.recs (k+1) p r hk hr
  have h2:=bu.mp hp r (be (i:=k) hr)
  cases r with
  | inst C fs=>cases h2
  | tab=>cases h2
  | lst l=>exact h1.2.1
  | deq=>exact h1.1
  | dead=>exact h1.1
 refine⟨x.le,⟨[],(aM _).symm⟩,λa h=>?_,λa o hn e=>x.keep a o (λq=>hn (q.imp uz id)) e,x.alive,⟨x.good.imm,x.good.base,G.len,λk p r h1 h2=>?_,λk p r h1 h2 h3=>?_,G.apart,λa ha=>⟨λq=>?_,(x.good.stk a ha).2⟩⟩,x.os,x.gens⟩
 ·rcases h with h | h
  ·rcases x.new a (av h)with h | h
   ·exact av (h.imp id uz)
   ·exact am h
  ·exact av (am h)
 ·cases k with
  | zero=>
   cases h1;cases h2
   exact x.good.recs 0 _ _ hd ht
  | succ k=>
   have h3:=G.recs (k+1) p r h1 h2
   have h4:=bu.mp hp r (be (i:=k) h2)
   have kp:=λo (e:s.heap.get? p.1=some o)=>x.keep p.1 o (λq=>q.elim (far k p h1) id) e
   cases r with
   | inst C fs=>cases h4
   | tab=>cases h4
   | lst l=>
    obtain⟨h5,h6,xs,n,h7,h8⟩:=h3
    obtain⟨o',k1,k2⟩:=kp _ h7
    have:=k2.eq (λζ ζ q=>nomatch q)
    subst this
    refine⟨h5,h6,xs,n,k1,?_⟩
    have:=a0.mono (δ:=[]) x.le l xs h8
    rwa [aM]at this
   | deq=>
    obtain⟨h5,o,h6,h7,h8,y,z,h9⟩:=h3
    obtain⟨o',k1,k2⟩:=kp _ h6
    have:=k2.eq (λζ ζ q=>by rw [h9]at q;cases q)
    subst this
    exact⟨h5,_,k1,h7,h8,y,z,h9⟩
   | dead=>
    obtain⟨h5,o,h6⟩:=h3
    obtain⟨o',k1,k2⟩:=kp _ h6
    exact⟨h5,_,k1⟩
 ·cases k with
  | zero=>
   cases h1;cases h2
   exact x.good.dis 0 _ _ hd ht h3
  | succ k=>
   have h4:=G.dis (k+1) p r h1 h2 h3
   have h5:=G.lt (a:=p.1) (am ⟨p,be h1,av rfl⟩)
   have h6:I' p.1=none:=by
    cases e:I' p.1 with
    | none=>rfl
    | some o=>
     rcases x.new p.1 (av (by rw [e];exact λq=>nomatch q))with (q | q) | q
     ·exact absurd h4.1 q
     ·exact absurd q (far k p h1)
     ·exact absurd q h5
   exact⟨h6,by rw [self k p r h1 h2];exact h6⟩
 ·rcases q with q | q
  ·exact(x.good.stk a ha).1 (av q)
  ·exact(G.stk a ha).1 (am q)
set_option tactic.hygienic true in
theorem Nt{sp:Spec}(h:dA H0 w n sp):dA H0 w n (Nv sp):=by
 intro f pos kw R v R' e
 unfold Nv at e
 by_cases hg:(bF pos&&(kw.isEmpty&&xU R))=true
 case neg=>rw [if_neg hg]at e;exact h _ _ _ _ _ _ e
 rw [if_pos hg]at e
 obtain⟨h1,hg2⟩:=aO.mp hg
 obtain⟨h2,h3⟩:=aO.mp hg2
 cases hs:sp f pos kw [.tab]with
 | none=>rw [hs]at e;cases e
 | some y=>
  obtain⟨u,R1⟩:=y
  rw [hs]at e
  dsimp only at e
  by_cases hv:(noObj u&&lO R1)=true
  case neg=>rw [if_neg hv]at e;cases e
  rw [if_pos hv]at e
  obtain⟨hv,ht⟩:=aO.mp hv
  simp only [gJ,Prod.mk.injEq]at e
  obtain⟨rfl,rfl⟩:=e
  have hk:kw=[]:=eP.mp h2
  subst hk
  obtain⟨Rs,rfl,hp⟩:∃Rs,R = .tab::Rs/\Rs.all xQ=true:=by
   cases R with
   | nil=>cases h3
   | cons r Rs=>cases r with
    | tab=>exact⟨_,rfl,h3⟩
    | _=>cases h3
  have ht:=uV ht
  intro A E I ρ s pvs kvs hr G ha hkw
  obtain⟨p0,ρs,rfl⟩:∃p0 ρs,ρ=p0::ρs:=by
   cases ρ with
   | nil=>exact absurd G.len (by simp)
   | cons a b=>exact⟨a,b,rfl⟩
  have G0:Gd H0 I [p0] [.tab] s.heap:=Nu G
  refine gv (h _ _ _ _ _ _ hs A E I [p0] s pvs kvs hr G0 (lf h1 ha) ⟨hkw.1,lf (l:=[]) rfl hkw.2⟩) λr s' q=>?_
  rcases r with er | fl
  ·exact q
  ·cases fl with
   | ret x=>
    obtain⟨I',ρ',st,hx⟩:=q
    exact⟨I',p0::ρs,HM G hp ht st,wF hv hx⟩
   | _=>exact q
end
end
end Mine
end
section
namespace Mine
noncomputable section
section
variable {H0:Bs} {w:bG} {n:Nat} {I I':dB} {ρ ρ':dI} {R R':List aN} {cx:Cx} {σ:br} {env:d7} {A:bD} {E:af->ag->Prop} {s s':ag}
noncomputable abbrev S(l:LS):Str:=⟨l.toArray⟩
theorem Az(a b:LS):S a++S b=S (a++b):=by
 show F6 (a.toArray++b.toArray)=F6 (a++b).toArray
 simp
theorem dW(a:LS):(S a).length=a.length:=by show a.toArray.size=_;simp
theorem wk(x:Str):S (ls x)=x:=by cases x;simp [S,ls]
theorem PK(x:LS):ls (S x)=x:=by simp [S,ls]
theorem a0.length{l:List PV}:∀{xs:List af},a0 I ρ l xs->xs.length=l.length:=by
 induction l with
 | nil=>exact λh=>congrArg bY (h:_=[])
 | cons a l ih=>
  intro xs h
  obtain⟨v,r,rfl,_,q⟩:=h
  exact congrArg Nat.succ (ih q)
theorem a0.append_{l l':List PV}{xs':List af}(h':a0 I ρ l' xs'):∀{xs:List af},a0 I ρ l xs->a0 I ρ (l++l') (xs++xs'):=by
 induction l with
 | nil=>exact λh=>(h:_=[])▸h'
 | cons a l ih=>
  intro xs h
  obtain⟨v,r,rfl,h1,q⟩:=h
  exact⟨v,_,rfl,h1,ih q⟩
theorem a0.append{l l':List PV}{xs xs':List af}(h:a0 I ρ l xs)(h':a0 I ρ l' xs'):a0 I ρ (l++l') (xs++xs'):=a0.append_ h' h
theorem zm:SZ+SZ<=mO:=by rw [PySem.sizeLine_eq];decide
theorem gd{k:Nat}(h:k<=SZ):k<=mO:=ah h (ah (dz _ _) zm)
theorem BA{α:Type}{p:Prop} [Decidable p]{x v:α}(h:(if p then some x else none)=some v):p/\v=x:=by
 by_cases hp:p
 ·rw [if_pos hp]at h;exact⟨hp,(aW h).symm⟩
 ·rw [if_neg hp]at h;cases h
theorem ou{l:LS}{v:PV}(h:mkS l=some v):l.length<=SZ/\v = .str l:=BA h
theorem ow{l:List PV}{v:PV}(h:mkL l=some v):l.length<=SZ/\v = .list l:=BA h
theorem oq{l:List PV}{v:PV}(h:mkT l=some v):l.length<=SZ/\v = .tup l:=BA h
theorem aA.mkS{P:PV->Prop}{l:LS}(h:l.length<=SZ->P (.str l)):aA P (Mine.mkS l):=λζ e=>(ou e).2▸h (ou e).1
theorem aA.mkL{P:PV->Prop}{l:List PV}(h:l.length<=SZ->P (.list l)):aA P (Mine.mkL l):=λζ e=>(ow e).2▸h (ow e).1
theorem aA.mkT{P:PV->Prop}{l:List PV}(h:l.length<=SZ->P (.tup l)):aA P (Mine.mkT l):=λζ e=>(oq e).2▸h (oq e).1
theorem ct(h:fv):h.get? h.objs.size=none:=by
 cases e:h.get? h.objs.size with
 | none=>rfl
 | some o=>exact absurd (c7 e) (eZ _)
theorem oV(G:Gd H0 I ρ R s.heap){o:jh}(ho:o.isFreed=false)(t:Nat):a9 H0 eg I ρ s (λb=>if b=s.heap.objs.size then some o else I b) ρ R { s with heap:=s.heap.push o,toks:=t }:=
 a9.fact G (ct _) (aU s.heap ho) (λζ ζ e=>au _ e) rfl rfl
theorem iP(G:Gd H0 I ρ R s.heap){l:List PV}{xs:List af}(hr:a0 I ρ l xs)(hl:l.length<=SZ)(t:Nat) :
  fP H0 I ρ s (.list l) R (.ref s.heap.objs.size) { s with heap:=s.heap.push { cls:=.type "list",data:=.seq xs.toArray },toks:=t }:=
 ⟨_,_,oV G rfl t,hl,_,xs,0,rfl,if_pos rfl,hr.le (oV G rfl t)⟩
theorem ju(G:Gd H0 I ρ R s.heap){l:List PV}{xs:List af}(hr:a0 I ρ l xs)(hl:l.length<=SZ)(t:Nat) :
  fP H0 I ρ s (.tup l) R (.ref s.heap.objs.size) { s with heap:=s.heap.push { cls:=.type "tuple",data:=.seq xs.toArray },toks:=t }:=
 ⟨_,_,oV G rfl t,hl,_,xs,0,rfl,if_pos rfl,hr.le (oV G rfl t)⟩
theorem tF{i:Int}{t:vR}:cn I ρ (.int i) (.int i t):=⟨t,rfl⟩
theorem oU{l:LS}{t:vR}(h:l.length<=SZ)(hs:jb l=true):cn I ρ (.str l) (.str (S l) t):=⟨h,hs,t,rfl⟩
theorem lb{a b:LS}(ha:jb a=true)(hb:jb b=true):jb (a++b)=true:=by unfold jb at *; rw [List.all_append,ha,hb];rfl
theorem xL{a b:LS}(h:∀c∈a,c∈b)(hb:jb b=true):jb a=true:=by
 unfold jb at *
 rw [bu]at *
 exact λc hc=>hb c (h c hc)
theorem jr{b:Bool}:cn I ρ (.bool b) (.bool b):=rfl
theorem oi:cn I ρ .none .none:=rfl
theorem iW(G:Gd H0 I ρ R s.heap){i:Int}{t:vR}(k:Nat):fP H0 I ρ s (.int i) R (.int i t) { s with toks:=k }:=oj G tF _
theorem qT(G:Gd H0 I ρ R s.heap){l:LS}{t:vR}(h:l.length<=SZ)(hs:jb l=true)(k:Nat):fP H0 I ρ s (.str l) R (.str (S l) t) { s with toks:=k }:=oj G (oU h hs) _
theorem EB{a b:Int}(h0:0<b)(h:b<=1000):¬(sW a b)=true:=by
 have h2:b.natAbs.log2<=10:=bg ((Nat.log2_lt (Int.natAbs_ne_zero.mpr (A6 h0))).mpr (bq (iM.mp (DY (sV h0)▸h)) (by decide)))
 unfold sW
 simp only [bd,decide_eq_true_eq,not_and,gt_iff_lt,dF]
 intro h3
 exfalso
 split at h3<;>omega
@[elab_as_elim] theorem cn.int_el {C:af->Prop} {i:Int} {x:af} (h:cn I ρ (.int i) x) (k:∀t,C (.int i t)):C x:=by
 obtain⟨t,rfl⟩:=h
 exact k t
@[elab_as_elim] theorem cn.str_el {C:af->Prop} {l:LS} {x:af} (h:cn I ρ (.str l) x) (k:∀t,l.length<=SZ->jb l=true->C (.str (S l) t)):C x:=by
 obtain⟨a,b,t,rfl⟩:=h
 exact k t a b
@[elab_as_elim] theorem cn.list_el {C:af->Prop} {l:List PV} {x:af} (h:cn I ρ (.list l) x) (k:∀a xs n,l.length<=SZ->I a=some (cD (bk xs) n)->a0 I ρ l xs->C (.ref a)):C x:=by
 obtain⟨h1,a,xs,n,rfl,h2,h3⟩:=h
 exact k a xs n h1 h2 h3
@[elab_as_elim] theorem cn.tup_el {C:af->Prop} {l:List PV} {x:af} (h:cn I ρ (.tup l) x) (k:∀a xs n,l.length<=SZ->I a=some (mY (bk xs) n)->a0 I ρ l xs->C (.ref a)):C x:=by
 obtain⟨h1,a,xs,n,rfl,h2,h3⟩:=h
 exact k a xs n h1 h2 h3
@[elab_as_elim] theorem cn.val_el {C:af->Prop} {a x:af} (h:cn I ρ (.val a) x) (k:C a):C x:=by
 replace h:x=_:=h
 subst h
 exact k
@[elab_as_elim] theorem cn.none_el {C:af->Prop} {x:af} (h:cn I ρ .none x) (k:C .none):C x:=by
 replace h:x=_:=h
 subst h
 exact k
@[elab_as_elim] theorem cn.bool_el {C:af->Prop} {b:Bool} {x:af} (h:cn I ρ (.bool b) x) (k:C (.bool b)):C x:=by
 replace h:x=_:=h
 subst h
 exact k
@[elab_as_elim] theorem cn.obj_el {C:af->Prop} {j:Nat} {x:af} (h:cn I ρ (.obj j) x) (k:∀p,ρ[j]? = some p->C (.ref p.1)):C x:=by
 obtain⟨p,h1,rfl⟩:=h
 exact k p h1
@[elab_as_elim] theorem a0.cons_el {C:List af->Prop} {a:PV} {l:List PV} {xs:List af} (h:a0 I ρ (a::l) xs) (k:∀u us,cn I ρ a u->a0 I ρ l us->C (u::us)):C xs:=by
 obtain⟨v,r,rfl,h1,h2⟩:=h
 exact k v r h1 h2
@[elab_as_elim] theorem a0.nil_el {C:List af->Prop} {xs:List af} (h:a0 I ρ [] xs) (k:C []):C xs:=by
 replace h:xs=_:=h
 subst h
 exact k
@[elab_as_elim] theorem a0.one_el {C:List af->Prop} {a:PV} {xs:List af} (h:a0 I ρ [a] xs) (k:∀u,cn I ρ a u->C [u]):C xs:=h.cons_el λu us h1 h2=>h2.nil_el (C:=λus=>C (u::us)) (k u h1)
@[elab_as_elim] theorem a0.two_el {C:List af->Prop} {a b:PV} {xs:List af} (h:a0 I ρ [a,b] xs) (k:∀u v,cn I ρ a u->cn I ρ b v->C [u,v]):C xs:=h.cons_el λu us h1 h2=>h2.one_el (C:=λus=>C (u::us)) λv h3=>k u v h1 h3
theorem a0.nil:a0 I ρ [] []:=rfl
theorem a0.cons{a:PV}{l:List PV}{u:af}{us:List af}(h:cn I ρ a u)(h':a0 I ρ l us):a0 I ρ (a::l) (u::us):=⟨u,us,rfl,h,h'⟩
theorem qP{a:aB}{l:List PV}{xs:List af}{n:Nat}(h:l.length<=SZ)(h1:I a=some (cD (bk xs) n))(h2:a0 I ρ l xs):cn I ρ (.list l) (.ref a):=⟨h,a,xs,n,rfl,h1,h2⟩
theorem C7{a:aB}{l:List PV}{xs:List af}{n:Nat}(h:l.length<=SZ)(h1:I a=some (mY (bk xs) n))(h2:a0 I ρ l xs):cn I ρ (.tup l) (.ref a):=⟨h,a,xs,n,rfl,h1,h2⟩
theorem a0.isNil{l:List PV}(h:a0 I ρ l []):l=[]:=List.length_eq_zero_iff.mp h.length.symm
theorem yp{p q:Prop} [Decidable p] [Decidable q](h:(decide p&&decide q)=true):p/\q:=⟨of_decide_eq_true (eB h).1,of_decide_eq_true (eB h).2⟩
@[elab_as_elim] theorem ra {C:cw->Prop} {op:cw} (h:w1 op=true) (k:C .Add):C op:=(aJ h).symm▸k
section
variable (H0 w A E I ρ R s)
noncomputable def yH(op:cw)(x y:af)(v:PV):Prop:=aq (aw pw w) A (binaryOp op x y) (fP H0 I ρ s v R) E s
end
set_option tactic.hygienic true in
theorem Ls(G:Gd H0 I ρ R s.heap){op:cw}{i j:Int}{t u:vR}:aA (yH H0 w I ρ R A E s op (.int i t) (.int j u)) (Pz op i j):=by
 cases op
 case Add=>exact aA.some (AutoIntOps.add_0 (iW G _))
 case Sub=>exact aA.some (AutoIntOps.sub_0 (iW G _))
 case FloorDiv=>exact aA.grd λh=>aA.some (AutoIntOps.floordiv_1 (λe=>A6 (yp h).1 (aJ e)) (EB (yp h).1 (yp h).2) (iW G _))
 case Mod=>exact aA.grd λh=>aA.some (AutoIntOps.mod_1 (λe=>A6 (yp h).1 (aJ e)) (iW G _))
 all_goals exact aA.none
theorem Lx(G:Gd H0 I ρ R s.heap){p q:aB}{xs ys:List af}{k1 k2:Nat}{lx ly:List PV}(l1:lx.length<=SZ)(l2:ly.length<=SZ)(hp:I p=some (mY (bk xs) k1))(hq:I q=some (mY (bk ys) k2))(hr1:a0 I ρ lx xs)(hr2:a0 I ρ ly ys)(h1:(lx++ly).length<=SZ) :
  yH H0 w I ρ R A E s .Add (.ref p) (.ref q) (.tup (lx++ly)):=by
 have gp:=G.imm _ _ hp
 have gq:=G.imm _ _ hq
 cases xs with
 | nil=>
  have e:=hr1.isNil
  subst e
  exact F5 ⟨_,gp,rfl⟩ ⟨_,gq,rfl⟩ xm DO mS mq (l6 _ _) (tuple_addW0 p q _ _ k1 k2 none none #[] #[] rfl) ⟨gp,gq,d8 G (C7 l2 hq hr2)⟩
 | cons x xs=>
  cases ys with
  | nil=>
   have e:=hr2.isNil
   subst e
   exact F5 ⟨_,gp,rfl⟩ ⟨_,gq,rfl⟩ xm DO mS mq (l6 _ _) (tuple_addW1 p q _ _ k1 k2 none none #[] #[] (by simp) rfl) ⟨gp,gq,d8 G ((aM lx).symm▸C7 l1 hp hr1)⟩
  | cons y ys=>
   exact F5 ⟨_,gp,rfl⟩ ⟨_,gq,rfl⟩ xm DO mS mq (l6 _ _) (tuple_addW2 p q _ _ k1 k2 none none #[] #[] (by simp) (by simp)
    (by rw [aT,aT,hr1.length,hr2.length];exact ah (cq l1 l2) zm)) ⟨gp,gq,DX _ _▸ju G (hr1.append hr2) h1 _⟩
theorem add_list(G:Gd H0 I ρ R s.heap){p q:aB}{xs ys:List af}{k1 k2:Nat}{lx ly:List PV}(l1:lx.length<=SZ)(l2:ly.length<=SZ)(hp:I p=some (cD (bk xs) k1))(hq:I q=some (cD (bk ys) k2))(hr1:a0 I ρ lx xs)(hr2:a0 I ρ ly ys)(h1:(lx++ly).length<=SZ) :
  yH H0 w I ρ R A E s .Add (.ref p) (.ref q) (.list (lx++ly)):=
 P.add_list (G.imm _ _ hp) (G.imm _ _ hq) (DX _ _▸iP G (hr1.append hr2) h1 _) (by rw [aT,aT,hr1.length,hr2.length];exact ah (cq l1 l2) zm)
theorem Lr(G:Gd H0 I ρ R s.heap){a b:LS}{t u:vR}(l1:a.length<=SZ)(l2:b.length<=SZ)(q1:jb a=true)(q2:jb b=true)(h:(a++b).length<=SZ):yH H0 w I ρ R A E s .Add (.str (S a) t) (.str (S b) u) (.str (a++b)):=
 SB.add (λt' k=>Az a b▸qT G h (lb q1 q2) _) (by rw [dW,dW];exact ah (cq l1 l2) zm)
set_option tactic.hygienic true in
theorem Va(G:Gd H0 I ρ R s.heap){op:cw}{a b:PV}{x y:af}(ha:cn I ρ a x):cn I ρ b y->aA (yH H0 w I ρ R A E s op x y) (Cu op a b):=by
 cases a
 case int i=>exact nf (C:=λb o=>cn I ρ b y->aA (yH H0 w I ρ R A E s op x y) o) b (λζ ζ=>aA.none) λj hb=>ha.int_el λt=>hb.int_el λu=>Ls G
 case str i=>exact λhb=>aA.grd λh=>ra h (oS (C:=λb o=>cn I ρ b y->aA (yH H0 w I ρ R A E s .Add x y) o) b (λζ ζ=>aA.none) (λj hb=>aA.mkS λhl=>ha.str_el λt l1 q1=>hb.str_el λu l2 q2=>Lr G l1 l2 q1 q2 hl) hb)
 case tup i=>exact λhb=>aA.grd λh=>ra h (xC (C:=λb o=>cn I ρ b y->aA (yH H0 w I ρ R A E s .Add x y) o) b (λζ ζ=>aA.none) (λj hb=>aA.mkT λhl=>ha.tup_el λp xs n l1 h1 r1=>hb.tup_el λq ys m l2 h2 r2=>Lx G l1 l2 h1 h2 r1 r2 hl) hb)
 case list i=>exact λhb=>aA.grd λh=>ra h (uP (C:=λb o=>cn I ρ b y->aA (yH H0 w I ρ R A E s .Add x y) o) b (λζ ζ=>aA.none) (λj hb=>aA.mkL λhl=>ha.list_el λp xs n l1 h1 r1=>hb.list_el λq ys m l2 h2 r2=>add_list G l1 l2 h1 h2 r1 r2 hl) hb)
 all_goals exact λζ=>aA.none
theorem As(G:Gd H0 I ρ R s.heap){op:cw}{a b v:PV}{x y:af}(h:Cu op a b=some v)(ha:cn I ρ a x)(hb:cn I ρ b y):aq (aw pw w) A (binaryOp op x y) (fP H0 I ρ s v R) E s:=Va G ha hb v h
end
end
end Mine
end
section
namespace Mine
noncomputable section
section
variable {H0:Bs} {w:bG} {n m:Nat} {sp:Spec} {I I':dB} {ρ ρ':dI} {R R' R1 R2:List aN} {cx:Cx} {σ:br} {env:d7} {A:bD} {E:af->ag->Prop} {s s':ag} {e l r t a b:Expr} {v:PV}
set_option tactic.hygienic true in
theorem Ah{c:Const}{k:Nat}{pos:dS}(h:yt c=some v):dP H0 w n cx (.Constant c k pos) σ R v R:=λA E I ρ env s hR G O=>
 have key:aA (λv=>aq (aw pw w) A (ej (.Constant c k pos) env) (fP H0 I ρ s v R) E s) (yt c):=by
  cases c
  case none=>exact aA.some (sO (d8 G oi))
  case bool=>exact aA.some (wpAny_Constant_bool (d8 G jr))
  case int=>exact aA.some (wpAny_Constant_int (iW G _))
  case str x=>exact aA.grd λhs=>aA.mkS λh1=>mL (wk x▸qT G h1 hs (s.toks+1))
  all_goals exact aA.none
 key v h
theorem tQ(B:dC w H0.heap){x:Str}{pos:dS}(hg:gl cx x=true){u:af}(hx:ff x=some u):dP H0 w n cx (.Name x pos) σ R (.val u) R:=λA E I ρ env s hR G O=>
 dw (cH B G O hg hx (d8 G rfl)) (dm O (O.glo x hg))
theorem ni{x:Str}{pos:dS}(hx:σ.lookup x=some v):dP H0 w n cx (.Name x pos) σ R v R:=λA E I ρ env s hR G O=>
 let ⟨k,hk⟩:=zD O hx
 dw (uO O hx λu hu=>d8 G hu) (dm O hk)
theorem dP.then(h:dP H0 w n cx e σ R v R1)(hR:cE H0 A (n+1))(G:Gd H0 I ρ R s.heap)(O:b5 I ρ cx σ env s.heap){Q:af->ag->Prop}
  (k:∀I' ρ' u s',a9 H0 eg I ρ s I' ρ' R1 s'->cn I' ρ' v u->b5 I' ρ' cx σ env s'.heap->Gd H0 I' ρ' R1 s'.heap->Q u s'):aq (aw pw w) A (ej e env) Q E s:=
 ar (h A E I ρ env s hR G O) (λu s' ⟨I',ρ',x,hu⟩=>k I' ρ' u s' x hu (O.step x) x.good) λζ ζ e=>e
theorem CA.then{b:Bool}(h:CA H0 w n cx e σ R b R1)(hR:cE H0 A (n+1))(G:Gd H0 I ρ R s.heap)(O:b5 I ρ cx σ env s.heap){Q:Bool->ag->Prop}
  (k:∀I' ρ' s',a9 H0 eg I ρ s I' ρ' R1 s'->b5 I' ρ' cx σ env s'.heap->Gd H0 I' ρ' R1 s'.heap->Q b s'):aq (aw pw w) A (isTrue e env (ej e env)) Q E s:=
 ar (h A E I ρ env s hR G O) (λu s' ⟨I',ρ',x,hu⟩=>hu▸k I' ρ' s' x (O.step x) x.good) λζ ζ e=>e
theorem qr.then{es:List Expr}{vs:List PV}{pos:dS}(h:qr H0 w n cx es σ R vs R1)(hR:cE H0 A (n+1))(G:Gd H0 I ρ R s.heap)(O:b5 I ρ cx σ env s.heap){Q:List af->ag->Prop}
  (k:∀I' ρ' us s',a9 H0 eg I ρ s I' ρ' R1 s'->a0 I' ρ' vs us->b5 I' ρ' cx σ env s'.heap->Gd H0 I' ρ' R1 s'.heap->Q us s'):aq (aw pw w) A (spliced (hU pos (bU es env))) Q E s:=
 ar (h A E I ρ env pos s hR G O) (λu s' ⟨I',ρ',x,hu⟩=>k I' ρ' u s' x hu (O.step x) x.good) λζ ζ e=>e
theorem Ik{op:cw}{pos:dS}{x y:PV}(h1:dP H0 w n cx l σ R x R1)(h2:dP H0 w n cx r σ R1 y R2)(h3:Cu op x y=some v):dP H0 w n cx (.BinOp l op r pos) σ R v R2:=by
 intro A E I ρ env s hR G O
 refine wpAny_BinOp (h1.then hR G O λI1 ρ1 u1 s1 x1 hu1 O1 G1=>h2.then hR G1 O1 λI2 ρ2 u2 s2 x2 hu2 O2 G2=>?_)
 exact ar (As G2 h3 (hu1.le x2) hu2) (λu s' q=>fP.mono_ G (x1.trans G x2) q) λζ ζ e=>e
theorem Ii{pos:dS}{c:Bool}(h1:CA H0 w n cx t σ R c R1)(h2:dP H0 w n cx (bif c then a else b) σ R1 v R2):dP H0 w n cx (.IfExp t a b pos) σ R v R2:=by
 intro A E I ρ env s hR G O
 refine wpAny_IfExp (h1.then hR G O λI1 ρ1 s1 x1 O1 G1=>?_)
 cases c with
 | true=>exact h2.then hR G1 O1 λI2 ρ2 u2 s2 x2 hu2 O2 G2=>⟨I2,ρ2,x1.trans G x2,hu2⟩
 | false=>exact h2.then hR G1 O1 λI2 ρ2 u2 s2 x2 hu2 O2 G2=>⟨I2,ρ2,x1.trans G x2,hu2⟩
theorem yj{es:List Expr}{vs:List PV}{pos:dS}(h:qr H0 w n cx es σ R vs R1)(hv:mkL vs=some v):dP H0 w n cx (.List es pos) σ R v R1:=by
 intro A E I ρ env s hR G O
 obtain⟨hl,rfl⟩:=ow hv
 refine wpAny_List (h.then hR G O λI1 ρ1 us s1 x1 hu O1 G1=>⟨?_,?_⟩)
 ·rw [hu.length];exact gd hl
 ·exact fP.mono_ G x1 (iP G1 hu hl _)
theorem Ic{es:List Expr}{vs:List PV}{k:Nat}{pos:dS}(h:qr H0 w n cx es σ R vs R1)(hv:mkT vs=some v):dP H0 w n cx (.Tuple es k pos) σ R v R1:=by
 intro A E I ρ env s hR G O
 obtain⟨hl,rfl⟩:=oq hv
 refine wpAny_Tuple (h.then hR G O λI1 ρ1 us s1 x1 hu O1 G1=>⟨?_,?_⟩)
 ·rw [hu.length];exact gd hl
 ·exact fP.mono_ G x1 (ju G1 hu hl _)
theorem tO:qr H0 w n cx [] σ R [] R:=by
 intro A E I ρ env pos s hR G O
 exact wpAny_items_nil ⟨I,ρ,a9.self G m6,a0.nil⟩
theorem ri{es:List Expr}{vs:List PV}(h1:dP H0 w n cx e σ R v R1)(h2:qr H0 w n cx es σ R1 vs R2)(he:∀env:d7,bU (e::es) env=(false,ej e env)::bU es env):qr H0 w n cx (e::es) σ R (v::vs) R2:=by
 intro A E I ρ env pos s hR G O
 refine wpAny_items_cons (h1.then hR G O λI1 ρ1 u1 s1 x1 hu1 O1 G1=>h2.then hR G1 O1 λI2 ρ2 us s2 x2 hu2 O2 G2=>?_) (he env)
 refine⟨I2,ρ2,x1.trans G x2,?_⟩
 exact⟨u1,us,rfl,hu1.le x2,hu2⟩
theorem JQ{op:BoolOp}(hop:op = .And\/op = .Or):FF H0 w n cx op [] σ R (op == .And) R:=by
 intro A E I ρ env s hR G O
 rcases hop with rfl | rfl
 ·exact wpAny_allTrue_And_nil (kQ G)
 ·exact wpAny_allTrue_Or_nil (kQ G)
theorem kZ{op:BoolOp}{es:List Expr}{c:Bool}(h1:CA H0 w n cx e σ R c R1)(hc:(c==(op == .Or))=true):FF H0 w n cx op (e::es) σ R c R1:=by
 intro A E I ρ env s hR G O
 cases op with
 | And=>
  refine F0 (h1.then hR G O λI1 ρ1 s1 x1 O1 G1=>?_)
  cases c with
  | true=>exact absurd hc (by decide)
  | false=>exact⟨I1,ρ1,x1,rfl⟩
 | Or=>
  refine Jj (h1.then hR G O λI1 ρ1 s1 x1 O1 G1=>?_)
  cases c with
  | false=>exact absurd hc (by decide)
  | true=>exact⟨I1,ρ1,x1,rfl⟩
theorem nY{op:BoolOp}{es:List Expr}{c d:Bool}(h1:CA H0 w n cx e σ R c R1)(hc:(c==(op == .Or))=false)(h2:FF H0 w n cx op es σ R1 d R2):FF H0 w n cx op (e::es) σ R d R2:=by
 intro A E I ρ env s hR G O
 have fin:∀{I1 ρ1 s1},a9 H0 eg I ρ s I1 ρ1 R1 s1->b5 I1 ρ1 cx σ env s1.heap->Gd H0 I1 ρ1 R1 s1.heap->aq (aw pw w) A (allTrue op es env) (ry H0 I ρ s d R2) E s1:=λx1 O1 G1=>
  ar (h2 A E _ _ env _ hR G1 O1) (λu s' q=>ry.mono_ G x1 q) λζ ζ e=>e
 cases op with
 | And=>
  refine F0 (h1.then hR G O λI1 ρ1 s1 x1 O1 G1=>?_)
  cases c with
  | true=>exact fin x1 O1 G1
  | false=>exact absurd hc (by decide)
 | Or=>
  refine Jj (h1.then hR G O λI1 ρ1 s1 x1 O1 G1=>?_)
  cases c with
  | false=>exact fin x1 O1 G1
  | true=>exact absurd hc (by decide)
theorem Be{pos:dS}{c:Bool}(h:CA H0 w n cx e σ R c R1):CA H0 w n cx (.UnaryOp .Not e pos) σ R (!c) R1:=by
 intro A E I ρ env s hR G O
 exact wpAny_isTrue_Not (h.then hR G O λI1 ρ1 s1 x1 O1 G1=>⟨I1,ρ1,x1,rfl⟩)
theorem Gm{op:BoolOp}{es:List Expr}{pos:dS}{c:Bool}(h:FF H0 w n cx op es σ R c R1):CA H0 w n cx (.BoolOp op es pos) σ R c R1:=by
 intro A E I ρ env s hR G O
 exact wpAny_isTrue_BoolOp (h A E I ρ env s hR G O)
theorem ja{op:mU}{pos:dS}{c:Bool}(h:Oo H0 w n cx l op r σ R c R1):CA H0 w n cx (.Compare l [op] [r] pos) σ R c R1:=by
 intro A E I ρ env s hR G O
 refine wpAny_isTrue_Compare1 (ar (h.2 A E I ρ env s hR G O) (λa s1 h1=>ar h1 (λb s2 h2=>ar h2 (λu s3 h3=>?_) λζ ζ e=>e) λζ ζ e=>e) λζ ζ e=>e) h.1
 obtain⟨I',ρ',x,hu⟩:=h3
 cases hu
 exact gu ⟨I',ρ',x,rfl⟩
theorem N2{op:mU}{pos:dS}{c:Bool}(h:Oo H0 w n cx l op r σ R c R1):dP H0 w n cx (.Compare l [op] [r] pos) σ R (.bool c) R1:=by
 intro A E I ρ env s hR G O
 exact wpAny_Compare1 (h.2 A E I ρ env s hR G O) h.1
end
end
end Mine
end
section
namespace Mine
noncomputable section
noncomputable def Ms(I:dB)(ρ:dI):Fl->Flow->Prop
 | .next,f=>f = .next
 | .brk,f=>f = .brk
 | .cont,f=>f = .cont
 | .ret v,f=>∃u,f = .ret u/\cn I ρ v u
inductive th(H0:Bs)(I:dB)(ρ:dI)(s:ag)(env:d7)(cx:Cx)(f:Fl)(σ':br)(R':List aN)(fl:Flow)(s':ag):Prop
 | mk (I':dB) (ρ':dI) (x:a9 H0 (mF env) I ρ s I' ρ' R' s') (O:b5 I' ρ' cx σ' env s'.heap) (h:Ms I' ρ' f fl):th H0 I ρ s env cx f σ' R' fl s'
inductive vF(H0:Bs)(I:dB)(ρ:dI)(s:ag)(env:d7)(cx:Cx)(σ':br)(R':List aN)(u:Unit)(s':ag):Prop
 | mk (I':dB) (ρ':dI) (x:a9 H0 (mF env) I ρ s I' ρ' R' s') (O:b5 I' ρ' cx σ' env s'.heap):vF H0 I ρ s env cx σ' R' u s'
section
variable (H0:Bs) (w:bG) (n:Nat)
noncomputable def yT(cx:Cx)(st:ir)(σ:br)(R:List aN)(f:Fl)(σ':br)(R':List aN):Prop:=
 ∀(A:bD) (E:af->ag->Prop) (I:dB) (ρ:dI) (env:d7) (s:ag),cE H0 A (n+1)->Gd H0 I ρ R s.heap->b5 I ρ cx σ env s.heap ->
  aq (aw pw w) A (exec st env) (th H0 I ρ s env cx f σ' R') E s
noncomputable def CG(cx:Cx)(ss:List ir)(σ:br)(R:List aN)(f:Fl)(σ':br)(R':List aN):Prop:=
 ∀(A:bD) (E:af->ag->Prop) (I:dB) (ρ:dI) (env:d7) (s:ag),cE H0 A (n+1)->Gd H0 I ρ R s.heap->b5 I ρ cx σ env s.heap ->
  aq (aw pw w) A (execs ss env) (th H0 I ρ s env cx f σ' R') E s
noncomputable def AC(cx:Cx)(st:ir)(σ:br)(R:List aN)(y:FS):Prop:=yT H0 w n cx st σ R y.1 y.2.1 y.2.2
noncomputable def CH(cx:Cx)(ss:List ir)(σ:br)(R:List aN)(y:FS):Prop:=CG H0 w n cx ss σ R y.1 y.2.1 y.2.2
noncomputable def Om(cx:Cx)(e:Expr)(σ:br)(R:List aN)(y:Bool × List aN):Prop:=CA H0 w n cx e σ R y.1 y.2
noncomputable def tU(cx:Cx)(e:Expr)(σ:br)(R:List aN)(y:PV × List aN):Prop:=dP H0 w n cx e σ R y.1 y.2
end
section
variable {H0:Bs} {w:bG} {n m:Nat} {sp:Spec} {I I':dB} {ρ ρ':dI} {R R' R1 R2:List aN} {cx:Cx} {σ σ' σ1 σ2:br} {env:d7} {A:bD} {E:af->ag->Prop} {s s':ag} {e l r t a b:Expr} {v:PV} {f:Fl}
theorem a9.weaken{X:aB->Prop}(x:a9 H0 eg I ρ s I' ρ' R' s'):a9 H0 X I ρ s I' ρ' R' s':=
 ⟨x.le,x.pre,x.new,λa o hn e=>x.keep a o (λh=>h.elim (λh=>hn (av h)) ny) e,x.alive,x.good,x.os,x.gens⟩
theorem iQ(σ:br)(x y:Str)(v:PV):(iG σ x v).lookup y=if y=x then some v else σ.lookup y:=by
 induction σ with
 | nil=>
  show f8 y [(x,v)]=_
  rw [ba]
  by_cases h:y=x
  ·subst h;simp
  ·have:(y==x)=false:=beq_eq_false_iff_ne.mpr h
   rw [this,if_neg h]
 | cons p r ih=>
  obtain⟨k,u⟩:=p
  rw [oa]
  by_cases hk:k=x
  ·subst hk
   rw [if_pos (by simp),ba,ba]
   by_cases h:y=k
   ·subst h;simp
   ·have:(y==k)=false:=beq_eq_false_iff_ne.mpr h
    rw [this,if_neg h]
  ·rw [if_neg (by simpa using hk),ba,ba,ih]
   cases hy:y==k with
   | true=>
    have e:=aJ hy
    subst e
    simp only [if_neg hk]
   | false=>rfl
theorem uj(G:Gd H0 I ρ R s.heap)(O:b5 I ρ cx σ env s.heap){x:Str}{u:af}(hs:qL cx σ x v=some σ')(hu:cn I ρ v u):aq (aw pw w) A (storeName env x u) (vF H0 I ρ s env cx σ' R) E s:=by
 obtain⟨hk,hs⟩:=nh hs
 cases hs
 obtain⟨m,h1,h2⟩:=O.ns
 simp only [QE,fT,beq_iff_eq]at hk
 have hgl:gl cx x=false:=by
  unfold gl
  rcases hk with hk | hk<;>rw [hk]<;>rfl
 have cellLoc:∀y c,env.cells.lookup y=some c->s.heap.IsCell c none\/(∃u,s.heap.IsCell c u)->c≠env.locals:=λy c ζ h hc=>by
  obtain⟨o1,e1,n1,g1,d1,_⟩:=h1
  subst hc
  have:∃u,s.heap.IsCell env.locals u:=h.elim (λh=>⟨_,h⟩) id
  obtain⟨u,o2,g2,d2⟩:=this
  rw [g1]at g2
  cases g2
  rw [d1]at d2
  cases d2
 rcases hk with hk | hk
 ·refine wpAny_storeName_local (O.loc x hk) h1 (λh' hn hs=>?_) (by rw [O.kf];rfl)
  have kp:∀a o,a≠env.locals->s.heap.get? a=some o->h'.get? a=some o:=λa o ha e=>(hs.2 a ha).trans e
  have al:h'.get? env.locals≠none:=by
   obtain⟨o,_,_,g,_⟩:=hn
   rw [g];exact λh=>nomatch h
  have st:a9 H0 (mF env) I ρ s I ρ R { s with heap:=h',toks:=s.toks+1 }:=a9.quietX G (λa ha h=>O.sepW a ha h) (λa o ha e=>kp a o (λh=>ha (av h)) e)
   (λa ha h=>by
    by_cases ha':a=env.locals
    ·rw [ha'];exact al
    ·obtain⟨o,e⟩:=bj.mp h
     show h'.get? a≠none
     rw [kp a o ha' e];exact λh=>nomatch h) rfl rfl (λa ζ ha=>by
    by_cases ha':a=env.locals
    ·obtain⟨o,es,ep,g,d,_⟩:=hn
     exact⟨o,es,ep,by rw [ha'];exact g,d⟩
    ·obtain⟨_,o,es,ep,g,d⟩:=G.stk a ha
     exact⟨o,es,ep,kp a o ha' g,d⟩)
  refine⟨I,ρ,st,O.kf,O.gle,O.ble,O.glo,O.loc,O.fn,O.cek,λy kk hy hkk=>?_,⟨_,hn,λy pv hy=>?_⟩,O.sep,O.apart,λa ha=>st.alive a (O.alive a ha),O.dbg,O.law⟩
  ·obtain⟨g1,c,v0,g2,g3⟩:=O.cel y kk hy hkk
   refine⟨g1,c,v0,g2,g3.sameBut hs (cellLoc y c g2 (am ⟨_,g3⟩))⟩
  ·rw [jR,iQ]at hy
   by_cases hyx:y=x
   ·subst hyx
    rw [if_pos rfl]at hy
    cases hy
    exact⟨hgl,av ⟨O.loc y hk,u,if_pos rfl,hu⟩⟩
   ·rw [if_neg hyx]at hy
    obtain⟨g1,g2⟩:=h2 y pv hy
    refine⟨g1,?_⟩
    rcases g2 with ⟨g2,u',g3,g4⟩ | ⟨g2,c,u',g3,g4,g5⟩
    ·exact av ⟨g2,u',(if_neg hyx).trans g3,g4⟩
    ·exact am ⟨g2,c,u',g3,g4.sameBut hs (cellLoc y c g3 (am ⟨_,g4⟩)),g5⟩
 ·have k1:=O.cek x hk
  obtain⟨_,c,v0,k2,k3⟩:=O.cel x _ hk (av rfl)
  refine wpAny_storeName_cell O.kf k1 k2 k3 λh' hn hs=>?_
  have kp:∀a o,a≠c->s.heap.get? a=some o->h'.get? a=some o:=λa o ha e=>(hs.2 a ha).trans e
  have al:h'.get? c≠none:=by
   obtain⟨o,g,_⟩:=hn
   rw [g];exact λh=>nomatch h
  have hcl:=cellLoc x c k2 (am ⟨_,k3⟩)
  have st:a9 H0 (mF env) I ρ s I ρ R { s with heap:=h' }:=a9.quietX G (λa ha h=>O.sepW a ha h) (λa o ha e=>kp a o (λh=>ha (am ⟨O.fn x hk,x,h▸k2⟩)) e)
   (λa ha h=>by
    by_cases ha':a=c
    ·rw [ha'];exact al
    ·obtain⟨o,e⟩:=bj.mp h
     show h'.get? a≠none
     rw [kp a o ha' e];exact λh=>nomatch h) rfl rfl (λa ζ ha=>by
    obtain⟨_,o,es,ep,g,d⟩:=G.stk a ha
    by_cases ha':a=c
    ·obtain⟨o2,g2,d2⟩:=k3
     rw [ha']at g
     rw [g]at g2
     cases g2
     rw [d]at d2
     cases d2
    ·exact⟨o,es,ep,kp a o ha' g,d⟩)
  have other:∀y c',env.cells.lookup y=some c'->y≠x->c'≠c:=λy c' hy hne hc=>by
   subst hc
   exact hne (O.apart y x c' hy k2)
  refine⟨I,ρ,st,O.kf,O.gle,O.ble,O.glo,O.loc,O.fn,O.cek,λy kk hy hkk=>?_,⟨m,h1.sameBut hs (dg hcl),λy pv hy=>?_⟩,O.sep,O.apart,λa ha=>st.alive a (O.alive a ha),O.dbg,O.law⟩
  ·obtain⟨g1,c',v0',g2,g3⟩:=O.cel y kk hy hkk
   by_cases hyx:y=x
   ·subst hyx
    rw [k2]at g2
    cases g2
    exact⟨g1,c,_,k2,hn⟩
   ·exact⟨g1,c',v0',g2,g3.sameBut hs (other y c' g2 hyx)⟩
  ·rw [jR,iQ]at hy
   by_cases hyx:y=x
   ·subst hyx
    rw [if_pos rfl]at hy
    cases hy
    exact⟨hgl,am ⟨av k1,c,u,k2,hn,hu⟩⟩
   ·rw [if_neg hyx]at hy
    obtain⟨g1,g2⟩:=h2 y pv hy
    refine⟨g1,?_⟩
    rcases g2 with ⟨g2,u',g3,g4⟩ | ⟨g2,c',u',g3,g4,g5⟩
    ·exact av ⟨g2,u',g3,g4⟩
    ·exact am ⟨g2,c',u',g3,g4.sameBut hs (other y c' g3 hyx),g5⟩
theorem th.mono_{R'':List aN}(G:Gd H0 I ρ R s.heap)(x:a9 H0 (mF env) I ρ s I' ρ' R' s'){fl:Flow}{s'':ag}(h:th H0 I' ρ' s' env cx f σ' R'' fl s''):th H0 I ρ s env cx f σ' R'' fl s'':=by
 obtain⟨I2,ρ2,y,O,r⟩:=h
 exact⟨I2,ρ2,x.trans G y,O,r⟩
theorem vF.mono_{R'':List aN}(G:Gd H0 I ρ R s.heap)(x:a9 H0 (mF env) I ρ s I' ρ' R' s'){s'':ag}(h:vF H0 I' ρ' s' env cx σ' R'' () s''):vF H0 I ρ s env cx σ' R'' () s'':=by
 obtain⟨I2,ρ2,y,r⟩:=h
 exact⟨I2,ρ2,x.trans G y,r⟩
theorem DF:CG H0 w n cx [] σ R .next σ R:=by
 intro A E I ρ env s hR G O
 exact lV ⟨I,ρ,a9.self G O.sepW,O,rfl⟩
theorem H3{st:ir}{ss:List ir}(h1:yT H0 w n cx st σ R .next σ1 R1)(h2:CG H0 w n cx ss σ1 R1 f σ2 R2):CG H0 w n cx (st::ss) σ R f σ2 R2:=by
 intro A E I ρ env s hR G O
 refine kT (ar (h1 A E I ρ env s hR G O) (λfl s1 q=>?_) λζ ζ e=>e)
 obtain⟨I1,ρ1,x1,O1,hf⟩:=q
 have hf:fl = .next:=hf
 subst hf
 exact ar (h2 A E I1 ρ1 env s1 hR x1.good O1) (λfl2 s2 q=>th.mono_ G x1 q) λζ ζ e=>e
theorem rh{st:ir}{ss:List ir}(h1:yT H0 w n cx st σ R f σ1 R1)(hf:f ≠ .next):CG H0 w n cx (st::ss) σ R f σ1 R1:=by
 intro A E I ρ env s hR G O
 refine kT (ar (h1 A E I ρ env s hR G O) (λfl s1 q=>?_) λζ ζ e=>e)
 have q':=q
 obtain⟨I1,ρ1,x1,O1,hf'⟩:=q'
 cases f with
 | next=>exact absurd rfl hf
 | brk=>have hf':fl = .brk:=hf';subst hf';exact q
 | cont=>have hf':fl = .cont:=hf';subst hf';exact q
 | ret v=>obtain⟨u,rfl,_⟩:=hf';exact q
theorem Ma{pos:dS}{ss ts:List ir}{c:Bool}(h1:CA H0 w n cx t σ R c R1)(h2:CG H0 w n cx (bif c then ss else ts) σ R1 f σ2 R2):yT H0 w n cx (.If t ss ts pos) σ R f σ2 R2:=by
 intro A E I ρ env s hR G O
 refine wpAny_If (h1.then hR G O λI1 ρ1 s1 x1 O1 G1=>?_)
 cases c with
 | true=>exact ar (h2 A E I1 ρ1 env s1 hR G1 O1) (λfl2 s2 q=>th.mono_ G x1.weaken q) λζ ζ e=>e
 | false=>exact ar (h2 A E I1 ρ1 env s1 hR G1 O1) (λfl2 s2 q=>th.mono_ G x1.weaken q) λζ ζ e=>e
theorem H6{pos:dS}:yT H0 w n cx (.Break pos) σ R .brk σ R:=λA E I ρ env s hR G O=>wpAny_Break ⟨I,ρ,a9.self G O.sepW,O,rfl⟩
theorem Aa{pos:dS}:yT H0 w n cx (.Continue pos) σ R .cont σ R:=λA E I ρ env s hR G O=>wpAny_Continue ⟨I,ρ,a9.self G O.sepW,O,rfl⟩
theorem K1{pos:dS}:yT H0 w n cx (.Pass pos) σ R .next σ R:=λA E I ρ env s hR G O=>wpAny_Pass ⟨I,ρ,a9.self G O.sepW,O,rfl⟩
set_option tactic.hygienic true in
theorem iw{pos:dS}(h:dP H0 w n cx e σ R v R1)(hv:qU v=true)(hs:∀env:d7,xl e none pos.line env=b8 false):yT H0 w n cx (.Expr e pos) σ R .next σ R1:=by
 intro A E I ρ env s hR G O
 refine wpAny_Expr (h.then hR G O λI1 ρ1 u s1 x1 hu O1 G1=>?_) (by unfold interactive;rw [O.kf];rfl) (hs env)
 have q:th H0 I ρ s env cx .next σ R1 .next s1:=⟨I1,ρ1,x1.weaken,O1,rfl⟩
 cases v
 case none=>exact hu.none_el q
 case str=>exact hu.str_el λζ ζ ζ=>q
 all_goals exact(aX hv).elim
theorem NX{pos:dS}{ss:List ir}{hd:tw}{hs:List tw}(h:CG H0 w n cx ss σ R f σ1 R1):yT H0 w n cx (.Try ss (hd::hs) [] [] pos) σ R f σ1 R1:=by
 intro A E I ρ env s hR G O
 refine wpAny_Try_except (ar (h A _ I ρ env s hR G O) (λfl s1 q=>?_) λζ ζ e=>e)
 have q':=q
 obtain⟨I1,ρ1,x1,O1,hf'⟩:=q'
 cases f with
 | next=>have hf':fl = .next:=hf';subst hf';exact lV q
 | brk=>have hf':fl = .brk:=hf';subst hf';exact q
 | cont=>have hf':fl = .cont:=hf';subst hf';exact q
 | ret v=>obtain⟨u,rfl,_⟩:=hf';exact q
set_option tactic.hygienic true in
theorem ub{RR:fS->ag->Prop}{t:Expr}{body:List ir}(Inv:Nat->ag->Prop)(turn:∀(E':af->ag->Prop) (D:Bool->ag->Prop) (Q:Flow->ag->Prop) (k:Nat) (s:ag),Inv k s->(∀s',RR (.ok .next) s'->D false s')->(∀s',aq (aw pw w) A (execs body env) Q E' s'->D true s') ->
   (∀m s',m<k->Inv m s'->Q .next s'/\Q .cont s')->(∀s',RR (.ok .next) s'->Q .brk s')->(∀v s',RR (.ok (.ret v)) s'->Q (.ret v) s')->aq (aw pw w) A (isTrue t env (ej t env)) D E' s)
  (n:Nat)(h:Inv n s):cA (aw pw w) A (.whileLoop t body [] env) RR s:=
 codeAny_whileLoop Inv (λk s h=>turn _ _ _ k s h (λs' h=>lV h) (λs' h=>h) (λm s' a b=>⟨⟨m,a,b⟩,⟨m,a,b⟩⟩) (λs' h=>h) (λv s' h=>h)) n h
inductive VJ(H0:Bs)(cx:Cx)(env:d7)(tt:br->List aN->Option (Bool × List aN))(bb:br->List aN->Option FS)(z:FS)(I:dB)(ρ:dI)(s:ag)(k:Nat)(s':ag):Prop
 | mk (I':dB) (ρ':dI) (σ:br) (R:List aN) (h:Ba tt bb k σ R=some z) (x:a9 H0 (mF env) I ρ s I' ρ' R s') (O:b5 I' ρ' cx σ env s'.heap):VJ H0 cx env tt bb z I ρ s k s'
set_option tactic.hygienic true in
theorem A8{ss:List ir}{tt:br->List aN->Option (Bool × List aN)}{bb:br->List aN->Option FS}{RR:fS->ag->Prop}{z:FS}(hR:cE H0 A (n+1))(ht:∀σ R,aA (Om H0 w n cx t σ R) (tt σ R))(hb:∀σ R,aA (CH H0 w n cx ss σ R) (bb σ R))(G:Gd H0 I ρ R s.heap)(O:b5 I ρ cx σ env s.heap)
  (hRR:∀fl s',th H0 I ρ s env cx z.1 z.2.1 z.2.2 fl s'->RR (.ok fl) s')(k:Nat)(h:Ba tt bb k σ R=some z):cA (aw pw w) A (.whileLoop t ss [] env) RR s:=by
 refine ub (VJ H0 cx env tt bb z I ρ s) (λE' D Q k s1 q1 hD hDs hn hb' hr=>?_) k ⟨I,ρ,σ,R,h,a9.self G O.sepW,O⟩
 obtain⟨I1,ρ1,σ1,R1,h,x1,O1⟩:=q1
 cases k with
 | zero=>cases h
 | succ k=>
  obtain⟨c,R2,e1,h⟩:=gH h
  refine CA.then (ht σ1 R1 _ e1) hR x1.good O1 λI2 ρ2 s2 x2 O2 G2=>?_
  have x12:=x1.trans G x2.weaken
  cases c with
  | false=>
   cases h
   exact hD s2 (hRR .next s2 ⟨I2,ρ2,x12,O2,rfl⟩)
  | true=>
   obtain⟨f3,y3,e2,h⟩:=gH (x:=bb σ1 R2) (k:=λf y=>lg f y (Ba tt bb k y.1 y.2)) h
   refine hDs s2 (ar (hb σ1 R2 _ e2 A _ I2 ρ2 env s2 hR G2 O2) (λfl s3 q3=>?_) λζ ζ e=>e)
   obtain⟨I3,ρ3,x3,O3,hf3⟩:=q3
   have x13:=x12.trans G x3
   cases f3 with
   | next=>exact fw hf3▸(hn k s3 (dy k) ⟨I3,ρ3,_,_,h,x13,O3⟩).1
   | cont=>exact fw hf3▸(hn k s3 (dy k) ⟨I3,ρ3,_,_,h,x13,O3⟩).2
   | brk=>
    cases h
    exact fw hf3▸hb' s3 (hRR .next s3 ⟨I3,ρ3,x13,O3,rfl⟩)
   | ret v=>
    cases h
    obtain⟨u,rfl,hu⟩:=hf3
    exact hr u s3 (hRR _ s3 ⟨I3,ρ3,x13,O3,u,rfl,hu⟩)
theorem H4{pos:dS}{ss:List ir}{tt:br->List aN->Option (Bool × List aN)}{bb:br->List aN->Option FS}(ht:∀σ R,aA (Om H0 w n cx t σ R) (tt σ R))(hb:∀σ R,aA (CH H0 w n cx ss σ R) (bb σ R))(k:Nat) :
  aA (AC H0 w n cx (.While t ss [] pos) σ R) (Ba tt bb k σ R):=λz h A E I ρ env s hR G O=>
 wpAny_While (A8 hR ht hb G O (λζ ζ h=>h) k h)
end
end
end Mine
end
section
namespace Mine
noncomputable section
structure aR(H0:Bs)(X Z:aB->Prop)(I:dB)(ρ:dI)(s:ag)(I':dB)(ρ':dI)(R':List aN)(s':ag):Prop where
 le:∀a o,I a=some o->I' a=some o
 pre:∃δ,ρ'=ρ++δ
 new:∀a,fK I' ρ' a->fK I ρ a\/s.heap.get? a=none\/Z a
 keep:Qx (λa=>own ρ a\/X a\/Z a) s.heap s'.heap
 alive:∀a,¬Z a->s.heap.get? a≠none->s'.heap.get? a≠none
 good:Gd H0 I' ρ' R' s'.heap
 os:s'.os=s.os
 gens:s'.gens=s.gens
section
variable {H0:Bs} {w:bG} {n m:Nat} {sp:Spec} {I I' I'':dB} {ρ ρ' ρ'':dI} {R R' R'' R1 R2:List aN} {cx:Cx} {σ σ' σ1 σ2:br} {env:d7} {A:bD} {E:af->ag->Prop} {s s' s'':ag} {e l r t a b:Expr} {v:PV} {f:Fl} {X Y Z:aB->Prop}
theorem a9.z(x:a9 H0 X I ρ s I' ρ' R' s'):aR H0 X Z I ρ s I' ρ' R' s':=
 ⟨x.le,x.pre,λa h=>(x.new a h).imp id av,λa o hn e=>x.keep a o (λh=>hn (h.imp id av)) e,λa ζ=>x.alive a,x.good,x.os,x.gens⟩
theorem aR.weaken(x:aR H0 X Z I ρ s I' ρ' R' s')(h:∀a,X a->Y a):aR H0 Y Z I ρ s I' ρ' R' s':=
 ⟨x.le,x.pre,x.new,λa o hn e=>x.keep a o (λq=>hn (q.imp id λq=>q.imp (h a) id)) e,x.alive,x.good,x.os,x.gens⟩
theorem aR.moreZ{Z':aB->Prop}(x:aR H0 X Z I ρ s I' ρ' R' s')(h:∀a,Z a->Z' a):aR H0 X Z' I ρ s I' ρ' R' s':=
 ⟨x.le,x.pre,λa q=>(x.new a q).imp id λq=>q.imp id (h a),λa o hn e=>x.keep a o (λq=>hn (q.imp id λq=>q.imp id (h a))) e,λa hz=>x.alive a λq=>hz (h a q),x.good,x.os,x.gens⟩
theorem aR.trans(G:Gd H0 I ρ R s.heap)(x:aR H0 X Z I ρ s I' ρ' R' s')(y:aR H0 X Z I' ρ' s' I'' ρ'' R'' s''):aR H0 X Z I ρ s I'' ρ'' R'' s'' where
 le:=λa o h=>y.le a o (x.le a o h)
 pre:=by
  obtain⟨d,rfl⟩:=x.pre
  obtain⟨e,rfl⟩:=y.pre
  exact⟨d++e,aP ..⟩
 new:=λa h=>by
  rcases y.new a h with h | h | h
  ·exact x.new a h
  ·by_cases hz:Z a
   ·exact am (am hz)
   ·right;left
    cases e:s.heap.get? a with
    | none=>rfl
    | some o=>exact absurd h (x.alive a hz (by rw [e];exact λh=>nomatch h))
  ·exact am (am h)
 keep:=λa o hn h=>by
  by_cases hi:I a=none
  ·obtain⟨o1,h1,l1⟩:=x.keep a o hn h
   refine(λ⟨o2,h2,l2⟩=>⟨o2,h2,l1.trans l2⟩) (y.keep a o1 (λhx=>?_) h1)
   rcases hx with hx | hx
   ·rcases x.new a (am hx)with (h1 | h1) | h1 | h1
    ·exact h1 hi
    ·exact hn (av h1)
    ·rw [h]at h1;cases h1
    ·exact hn (am (am h1))
   ·exact hn (am hx)
  ·obtain⟨o1,h1⟩:=bj.mp hi
   have:=G.imm a o1 h1
   rw [h]at this
   cases this
   exact⟨o,y.good.imm a o (y.le a o (x.le a o h1)),lG.refl o⟩
 alive:=λa hz h=>y.alive a hz (x.alive a hz h)
 good:=y.good
 os:=y.os.trans x.os
 gens:=y.gens.trans x.gens
theorem aR.close(G:Gd H0 I ρ R s.heap)(x:a9 H0 X I ρ s I' ρ' R' s')(y:aR H0 X Z I' ρ' s' I'' ρ'' R'' s'')(hz:∀a,Z a->s.heap.get? a=none):a9 H0 X I ρ s I'' ρ'' R'' s'':=by
 have q:=aR.trans G (x.z (Z:=Z)) y
 refine⟨q.le,q.pre,λa h=>?_,λa o hn h=>q.keep a o (λk=>?_) h,λa h=>q.alive a (λk=>h (hz a k)) h,q.good,q.os,q.gens⟩
 ·rcases q.new a h with h | h | h
  ·exact av h
  ·exact am h
  ·exact am (hz a h)
 ·rcases k with k | k | k
  ·exact hn (av k)
  ·exact hn (am k)
  ·rw [hz a k]at h;cases h
theorem cn.leZ{v:PV}{u:af}(x:aR H0 X Z I ρ s I' ρ' R' s')(h:cn I ρ v u):cn I' ρ' v u:=by
 obtain⟨d,rfl⟩:=x.pre
 exact cn.mono x.le v u h
theorem a0.leZ{v:List PV}{u:List af}(x:aR H0 X Z I ρ s I' ρ' R' s')(h:a0 I ρ v u):a0 I' ρ' v u:=by
 obtain⟨d,rfl⟩:=x.pre
 exact a0.mono x.le v u h
theorem b5.stepZ(O:b5 I ρ cx σ env s.heap)(x:aR H0 X Z I ρ s I' ρ' R' s')(hx:∀a,X a->¬kL env a)(hz:∀a,Z a->¬kL env a):b5 I' ρ' cx σ env s'.heap:=by
 have kp:∀a o,kL env a->s.heap.get? a=some o->∃o',s'.heap.get? a=some o'/\o'.data=o.data:=λa o ha e=>(λ⟨o',h1,h2⟩=>⟨o',h1,h2.data⟩) (x.keep a o (λh=>by
  rcases h with h | h | h
  ·exact O.sep a ha (am h)
  ·exact hx a h ha
  ·exact hz a h ha) e)
 refine⟨O.kf,O.gle,O.ble,O.glo,O.loc,O.fn,O.cek,λy k hy hk=>?_,?_,λa ha h=>?_,O.apart,λa ha=>x.alive a (λh=>hz a h ha) (O.alive a ha),O.dbg,O.law⟩
 ·obtain⟨h1,c,v,h2,o,h3,h4⟩:=O.cel y k hy hk
  obtain⟨o',k1,k2⟩:=kp c o (am ⟨y,h2⟩) h3
  exact⟨h1,c,v,h2,o',k1,k2.trans h4⟩
 ·obtain⟨m,⟨o,es,ep,h1,h2,h2'⟩,h3⟩:=O.ns
  obtain⟨o',k1,k2⟩:=kp _ o (av rfl) h1
  refine⟨m,⟨o',es,ep,k1,k2.trans h2,h2'⟩,λy v hy=>?_⟩
  obtain⟨h4,h5⟩:=h3 y v hy
  refine⟨h4,?_⟩
  rcases h5 with ⟨h5,u,h6,h7⟩ | ⟨h5,c,u,h6,⟨o,h7,h8⟩,h9⟩
  ·exact av ⟨h5,u,h6,h7.leZ x⟩
  ·obtain⟨o',k1,k2⟩:=kp c o (am ⟨y,h6⟩) h7
   exact am ⟨h5,c,u,h6,⟨o',k1,k2.trans h8⟩,h9.leZ x⟩
 ·rcases x.new a h with h | h | h
  ·exact O.sep a ha h
  ·exact O.alive a ha h
  ·exact hz a h ha
theorem aR.kept(x:aR H0 X Z I ρ s I' ρ' R' s'){a:aB}{o:jh}(e:s.heap.get? a=some o)(hd:∀es ep,o.data ≠ .dict es ep)(h1:¬own ρ a)(h2:¬X a)(h3:¬Z a):s'.heap.get? a=some o:=by
 obtain⟨o',k1,k2⟩:=x.keep a o (λq=>by rcases q with q | q | q;exact h1 q;exact h2 q;exact h3 q) e
 rw [k2.eq hd]at k1
 exact k1
theorem a9.kept(x:a9 H0 X I ρ s I' ρ' R' s'){a:aB}{o:jh}(e:s.heap.get? a=some o)(hd:∀es ep,o.data ≠ .dict es ep)(h1:¬own ρ a)(h2:¬X a):s'.heap.get? a=some o:=by
 obtain⟨o',k1,k2⟩:=x.keep a o (λq=>by rcases q with q | q;exact h1 q;exact h2 q) e
 rw [k2.eq hd]at k1
 exact k1
theorem Gd.notStk{h:fv}(G:Gd H0 I ρ R h){a:aB}{o:jh}(e:h.get? a=some o)(hd:∀es ep,o.data ≠ .dict es ep):a ∉ H0.stk:=λha=>by
 obtain⟨_,o',es,ep,g,d⟩:=G.stk a ha
 rw [e]at g
 cases g
 exact hd _ _ d
theorem Gd.freshStk{h:fv}(G:Gd H0 I ρ R h){a:aB}(e:h.get? a=none):a ∉ H0.stk:=λha=>by
 obtain⟨_,o',es,ep,g,d⟩:=G.stk a ha
 rw [e]at g
 cases g
theorem bK{o:jh}{vs:Array af}(h:o.data = .fields vs):∀es ep,o.data ≠ .dict es ep:=λes ep=>by rw [h];exact λq=>nomatch q
theorem bM{o:jh}{vs:Array af}{k:Nat}(h:o.data = .seq vs k):∀es ep,o.data ≠ .dict es ep:=λes ep=>by rw [h];exact λq=>nomatch q
theorem aR.quiet(G:Gd H0 I ρ R s.heap)(hX:∀a,Z a->¬fK I ρ a)(k:∀a o,¬Z a->s.heap.get? a=some o->s'.heap.get? a=some o)(os:s'.os=s.os)(gens:s'.gens=s.gens)(hZs:∀a,Z a->a ∉ H0.stk):aR H0 eg Z I ρ s I ρ R s' where
 le:=λζ ζ e=>e
 pre:=⟨[],(aM _).symm⟩
 new:=λζ h=>av h
 keep:=λa o hn h=>⟨o,k a o (λhx=>hn (am (am hx))) h,lG.refl o⟩
 alive:=λa hz h=>by
  obtain⟨o,e⟩:=bj.mp h
  rw [k a o hz e]
  exact λh=>nomatch h
 good:=G.keeps (λa o ho e=>k a o (λhx=>hX a hx ho) e) λa ha ⟨o,es,ep,e,d⟩=>⟨o,es,ep,k a o (λhz=>hZs a hz ha) e,d⟩
 os:=os
 gens:=gens
inductive Qy(H0:Bs)(Z:aB->Prop)(St:List PV->dB->dI->ag->Prop)(x:PV)(r:List PV)(I:dB)(ρ:dI)(R:List aN)(s:ag)(v:af)(s2:ag):Prop
 | mk (I':dB) (ρ':dI) (st:aR H0 eg Z I ρ s I' ρ' R s2) (h:cn I' ρ' x v) (t:St r I' ρ' s2):Qy H0 Z St x r I ρ R s v s2
inductive Jc(H0:Bs)(w:bG)(A:bD)(tgt:Expr)(it:af)(Z:aB->Prop)(St:List PV->dB->dI->ag->Prop)(x:PV)(r:List PV)(I:dB)(ρ:dI)(R:List aN)(s:ag)(E:af->ag->Prop)(o:Option af)(s1:ag):Prop
 | mk (v:af) (h:o=some v) (g:aq (aw pw w) A (c0 tgt it v) (λζ s2=>Qy H0 Z St x r I ρ R s v s2) E s1):Jc H0 w A tgt it Z St x r I ρ R s E o s1
inductive Mr(H0:Bs)(Z:aB->Prop)(I:dB)(ρ:dI)(R:List aN)(s:ag)(o:Option af)(s1:ag):Prop
 | mk (h:o=none) (I':dB) (ρ':dI) (x:aR H0 eg Z I ρ s I' ρ' R s1):Mr H0 Z I ρ R s o s1
structure Jb(H0:Bs)(w:bG)(A:bD)(tgt:Expr)(it:af)(Z:aB->Prop)(St:List PV->dB->dI->ag->Prop):Prop where
 own:∀l I ρ s,St l I ρ s->∀a,Z a->¬fK I ρ a/\s.heap.get? a≠none
 keep:∀l I ρ R s I' ρ' R' s' X0 Z0,Gd H0 I ρ R s.heap->St l I ρ s->aR H0 X0 Z0 I ρ s I' ρ' R' s'->(∀a,Z a->¬X0 a /\ ¬Z0 a)->St l I' ρ' s'
 item:∀x r I ρ R s E,Gd H0 I ρ R s.heap->St (x::r) I ρ s->aq (aw pw w) A (fQ it) (Jc H0 w A tgt it Z St x r I ρ R s E) E s
 self:∀l I ρ s (Q:af->ag->Prop) E,St l I ρ s->Q it s->aq (aw pw w) A (mP it) Q E s
 done:∀I ρ R s E,Gd H0 I ρ R s.heap->St [] I ρ s->aq (aw pw w) A (fQ it) (Mr H0 Z I ρ R s) E s
inductive DN(H0:Bs)(w:bG)(A:bD)(tgt:Expr)(l:List PV)(I:dB)(ρ:dI)(R:List aN)(s:ag)(it:af)(s':ag):Prop
 | mk (Z:aB->Prop) (St:List PV->dB->dI->ag->Prop) (i:Jb H0 w A tgt it Z St) (t:St l I ρ s') (x:a9 H0 eg I ρ s I ρ R s') (f:∀a,Z a->s.heap.get? a=none):DN H0 w A tgt l I ρ R s it s'
theorem a0.get:∀{l:List PV} {xs:List af} {i:Nat} {x:PV} {r:List PV},a0 I ρ l (xs.drop i)->l=x::r->∃v,xs[i]? = some v/\cn I ρ x v/\a0 I ρ r (xs.drop (i+1)):=by
 intro l xs i x r h e
 subst e
 obtain⟨v,q,h1,h2,h3⟩:=h
 have hi:i<xs.length:=by
  rcases eY i xs.length with h | h
  ·exact h
  ·rw [fC h]at h1;cases h1
 rw [bZ hi]at h1
 injection h1 with h1 h4
 subst h1
 subst h4
 exact⟨_,bQ hi,h2,h3⟩
theorem a0.none_{xs:List af}{i:Nat}(h:a0 I ρ [] (xs.drop i)):xs.toArray[i]? = none:=by
 rw [bV]
 exact hG (CV.mp h)
noncomputable def qm:Expr->Bool
 | .Name _ _=>true
 | _=>false
theorem B1(tgt:Expr):(∀it v,c0 tgt it v=b8 ())\/qm tgt=false /\ ∀it v,c0 tgt it v=c0 (.List [] bN) it v:=by
 cases tgt<;>first | exact av λζ ζ=>rfl | exact am ⟨rfl,λζ ζ=>rfl⟩
theorem yd{tgt:Expr}(h:qm tgt=true)(it v:af):c0 tgt it v=b8 ():=(B1 tgt).elim (λe=>e it v) λe=>(aX (e.1.symm.trans h)).elim
theorem Qc{tgt:Expr}{J:aB}{o:jh}{v:af}{T:String}{vs:Array af}{Q:Unit->ag->Prop}(ho:s.heap.get? J=some o)(hc:o.cls = .type T)(hd:o.data = .fields vs)(hT:["enumerate","zip","dict_itemiterator","dict_reverseitemiterator","odict_iterator","itertools.zip_longest","itertools.pairwise"].contains T=false)(h:Q () s):aq (aw pw w) A (c0 tgt (.ref J) v) Q E s:=by
 obtain⟨c,d,dt,sl⟩:=o
 cases hc
 cases hd
 have k:∀a,aq (aw pw w) A (c0 (.List [] bN) (.ref J) (.ref a)) Q E s:=λa=>aa (pV ho (show aq _ _ (if(_&&_)=true then _ else _) _ _ _ by rw [hT];exact ab h))
 rcases B1 tgt with e | ⟨_,e⟩
 ·rw [e];exact ab h
 ·rw [e]
  cases v<;>first | exact ab h | exact k _
theorem bA{h:fv}{a:aB}(G:Gd H0 I ρ R h)(e:h.get? a=none):¬fK I ρ a:=λq=>G.lt q e
structure Pv(I:dB)(ρ:dI)(s:ag)(a:aB)(o:jh):Prop where
 at_:s.heap.get? a=some o
 nd:∀es ep,o.data ≠ .dict es ep
 no:¬fK I ρ a
theorem Pv.keep{a:aB}{o:jh}(h:Pv I ρ s a o)(x:aR H0 X Z I ρ s I' ρ' R' s')(hx:¬X a /\ ¬Z a):Pv I' ρ' s' a o:=
 ⟨x.kept h.at_ h.nd (λq=>h.no (am q)) hx.1 hx.2,h.nd,λq=>(x.new a q).elim h.no λq=>q.elim (λe=>gF (e.symm.trans h.at_)) hx.2⟩
theorem Pv.step{a:aB}{o:jh}(h:Pv I ρ s a o)(x:a9 H0 eg I ρ s I' ρ' R' s'):Pv I' ρ' s' a o:=h.keep (x.z (Z:=eg)) ⟨id,id⟩
theorem Pv.stk{a:aB}{o:jh}(h:Pv I ρ s a o)(G:Gd H0 I ρ R s.heap):a ∉ H0.stk:=G.notStk h.at_ h.nd
theorem Pv.own{a:aB}{o:jh}(h:Pv I ρ s a o):¬fK I ρ a/\s.heap.get? a≠none:=⟨h.no,λe=>gF (e.symm.trans h.at_)⟩
theorem Og{P:aB->Prop}{J K:aB}(h:P J)(h':P K):∀a,(a=J\/a=K)->P a:=λa ha=>ha.elim (λe=>e▸h) λe=>e▸h'
theorem OH{P:aB->Prop}{J K L:aB}(h:P J)(h':P K)(h'':P L):∀a,(a=J\/a=K\/a=L)->P a:=λa ha=>ha.elim (λe=>e▸h) (Og h' h'' a)
inductive GM(T:String)(mk:Array af->Nat->jh)(J ax:aB)(xs:List af)(k:Nat)(l:List PV)(I:dB)(ρ:dI)(s:ag):Prop
 | mk (i:Nat) (o:jh) (p:Pv I ρ s J o) (c:o.cls = .type T) (d:o.data = .fields #[.ref ax,.int i 0]) (h:I ax=some (mk xs.toArray k)) (r:a0 I ρ l (xs.drop i)):GM T mk J ax xs k l I ρ s
noncomputable def Jd(T:String)(h:fv)(J ax:aB)(i:Nat):Prop:=∃o,h.get? J=some o/\o.cls = .type T/\o.data = .fields #[.ref ax,.int i 0]
theorem Dp{tgt:Expr}{T:String}{mk:Array af->Nat->jh}{J ax:aB}{xs:List af}{k:Nat}(hT:["enumerate","zip","dict_itemiterator","dict_reverseitemiterator","odict_iterator","itertools.zip_longest","itertools.pairwise"].contains T=false)
  (self:∀{s:ag} {Q:af->ag->Prop} {E:af->ag->Prop} {i:Nat},Jd T s.heap J ax i->Q (.ref J) s->aq (aw pw w) A (mP (.ref J)) Q E s)
  (item:∀{s:ag} {Q:Option af->ag->Prop} {E:af->ag->Prop} {i:Nat} {x:af},Jd T s.heap J ax i->s.heap.get? ax=some (mk xs.toArray k)->xs.toArray[i]? = some x->(∀h',Jd T h' J ax (i+1)->sm J s.heap h'->Q (some x) { s with heap:=h' })->aq (aw pw w) A (fQ (.ref J)) Q E s)
  (done:∀{s:ag} {Q:Option af->ag->Prop} {E:af->ag->Prop} {i:Nat},Jd T s.heap J ax i->s.heap.get? ax=some (mk xs.toArray k)->xs.toArray[i]? = none->(∀h',CW J s.heap h'->Q none { s with heap:=h' })->aq (aw pw w) A (fQ (.ref J)) Q E s) :
  Jb H0 w A tgt (.ref J) (λa=>a=J) (GM T mk J ax xs k) where
 own:=λl I ρ s h a ha=>by
  obtain⟨i,o,p,c,d,h,r⟩:=h
  exact ha▸p.own
 keep:=λl I ρ R s I' ρ' R' s' X0 Z0 G h x hz=>by
  obtain⟨i,o,p,c,d,h,r⟩:=h
  exact⟨i,o,p.keep x (hz J rfl),c,d,x.le _ _ h,r.leZ x⟩
 item:=λx l I ρ R s E G h=>by
  obtain⟨i,o,p,c,d,h,r⟩:=h
  obtain⟨v,h6,h7,h8⟩:=r.get rfl
  refine item ⟨o,p.at_,c,d⟩ (G.imm _ _ h) ((bV ..).trans h6) λh' hit hs'=>?_
  obtain⟨o',e,c',d'⟩:=hit
  exact⟨v,rfl,Qc (s:={ s with heap:=h' }) e c' d' hT ⟨I,ρ,aR.quiet G (λa ha=>ha▸p.no) (λa o ha e=>(hs'.2 a ha).trans e) rfl rfl (λa ha=>ha▸p.stk G),h7,i+1,o',⟨e,bK d',p.no⟩,c',d',h,h8⟩⟩
 self:=λl I ρ s Q E h hq=>by
  obtain⟨i,o,p,c,d,h,r⟩:=h
  exact self ⟨o,p.at_,c,d⟩ hq
 done:=λI ρ R s E G h=>by
  obtain⟨i,o,p,c,d,h,r⟩:=h
  exact done ⟨o,p.at_,c,d⟩ (G.imm _ _ h) r.none_ λh' he=>⟨rfl,I,ρ,aR.quiet G (λa ha=>ha▸p.no) (λa o ha e=>he a o ha e) rfl rfl λa ha=>ha▸p.stk G⟩
theorem wZ{tgt:Expr}{T:String}{mk:Array af->Nat->jh}{l:List PV}{ax:aB}{xs:List af}{k:Nat}{o:jh}(G:Gd H0 I ρ R s.heap)(hax:I ax=some (mk xs.toArray k))(hr:a0 I ρ l xs)(hc:o.cls = .type T)(hd:o.data = .fields #[.ref ax,.int 0 0])(hf:o.isFreed=false)
  (its:Jb H0 w A tgt (.ref s.heap.objs.size) (λa=>a=s.heap.objs.size) (GM T mk s.heap.objs.size ax xs k)):DN H0 w A tgt l I ρ R s (.ref s.heap.objs.size) { s with heap:=s.heap.push o }:=
 ⟨_,_,its,⟨0,o,⟨aU _ hf,bK hd,bA G (ct _)⟩,hc,hd,hax,hr⟩,a9.quiet G m6 (λa o ζ e=>au _ e) (λa ha=>ha.elim) rfl rfl,λa ha=>ha▸ct _⟩
theorem wX(hh:A.handled=none){tgt:Expr}{l:List PV}{u:af}(G:Gd H0 I ρ R s.heap)(hu:cn I ρ (.list l) u) :
  aq (aw pw w) A (mP u) (DN H0 w A tgt l I ρ R s) E s:=by
 obtain⟨hl,ax,xs,k,rfl,hax,hr⟩:=hu
 have hne:∀{h:fv} {i:Nat},Jd "list_iterator" h s.heap.objs.size ax i->h.IsListIter s.heap.objs.size ax i:=id
 exact kj ⟨_,G.imm _ _ hax,rfl,k,rfl⟩ (wZ G hax hr rfl rfl rfl (Dp (by decide) (λh q=>wpAny_pyIter_listiter h q) (λh g e q=>eC h ⟨_,g,rfl,k,rfl⟩ e q) λh g e q=>kM hh h ⟨_,g,rfl,k,rfl⟩ e q))
end
end
end Mine
end
section
namespace Mine
noncomputable section
section
variable {H0:Bs} {w:bG} {n m:Nat} {sp:Spec} {I I' I'':dB} {ρ ρ' ρ'':dI} {R R' R'' R1 R2:List aN} {cx:Cx} {σ σ' σ1 σ2:br} {env:d7} {A:bD} {E:af->ag->Prop} {s s' s'':ag} {e l r t a b:Expr} {v:PV} {f:Fl} {X Y Z:aB->Prop}
theorem HJ(hh:A.handled=none){tgt:Expr}{l:List PV}{u:af}(G:Gd H0 I ρ R s.heap)(hu:cn I ρ (.tup l) u) :
  aq (aw pw w) A (mP u) (DN H0 w A tgt l I ρ R s) E s:=by
 obtain⟨hl,ax,xs,k,rfl,hax,hr⟩:=hu
 exact wpAny_pyIter_tuple ⟨_,G.imm _ _ hax,rfl,k,rfl⟩ (wZ G hax hr rfl rfl rfl (Dp (by decide) (λh q=>wpAny_pyIter_tupleiter h q) (λh g e q=>wpAny_pyNext_tuple_item h ⟨_,g,rfl,k,rfl⟩ e q) λh g e q=>wpAny_pyNext_tuple_end hh h ⟨_,g,rfl,k,rfl⟩ e q))
theorem pj(G:Gd H0 I ρ R s.heap)(O:b5 I ρ cx σ env s.heap){x:Str}{p:dS}{u:af}(h:qL cx σ x v=some σ')(hu:cn I ρ v u) :
  aq (aw pw w) A (iZ (.Name x p) env u) (vF H0 I ρ s env cx σ' R) E s:=wpAny_assign_Name (uj G O h hu)
noncomputable def Mp(ts:List Expr)(k:Nat):Prop:=∀env:d7,(tV ts env).length=k/\(tV ts env).findIdx? (·.1)=none
theorem Bt{ts:List Expr}:∀{vs:List PV} {σ:br},aA (λζ=>Mp ts vs.length) (J4 cx ts vs σ):=by
 induction ts with
 | nil=>exact λ{vs _}=>match vs with
  | []=>aA.some λζ=>⟨rfl,rfl⟩
  | _::_=>aA.none
 | cons t ts ih=>exact λ{vs _}=>match vs with
  | []=>aA.none
  | v::vs=>ii (C:=λt y=>aA (λζ=>Mp (t::ts) (v::vs).length) y) t (λζ=>aA.none) λx p=>aA.opt λσ1 ζ=>ih.mono λζ h env=>⟨congrArg Nat.succ (h env).1,(List.findIdx?_cons ..).trans (congrArg (Option.map (· + 1)) (h env).2)⟩
section
variable (H0 w A E I ρ R s env cx)
noncomputable def QD(t:Expr)(u:af)(σ':br):Prop:=aq (aw pw w) A (iZ t env u) (vF H0 I ρ s env cx σ' R) E s
noncomputable def Ji(ts:List Expr)(us:List af)(σ':br):Prop:=aq (aw pw w) A (assignInOrder ((tV ts env).map (·.2)) us) (vF H0 I ρ s env cx σ' R) E s
end
theorem J3{ts:List Expr}:∀{vs:List PV} {us:List af} {I:dB} {ρ:dI} {s:ag} {σ:br},Gd H0 I ρ R s.heap->b5 I ρ cx σ env s.heap->a0 I ρ vs us->aA (Ji H0 w I ρ R cx env A E s ts us) (J4 cx ts vs σ):=by
 induction ts with
 | nil=>exact λ{vs us I ρ s σ} G O hu=>match vs,hu with
  | [],hu=>hu.nil_el (aA.some (assignInOrder_nil ⟨I,ρ,a9.self G O.sepW,O⟩))
  | _::_,_=>aA.none
 | cons t ts ih=>exact λ{vs us I ρ s σ} G O hu=>match vs,hu with
  | [],_=>aA.none
  | v::vs,hu=>hu.cons_el λu us h1 h2=>ii (C:=λt y=>aA (Ji H0 w I ρ R cx env A E s (t::ts) (u::us)) y) t (λζ=>aA.none) λx p=>aA.opt λσ1 e1 σ2 e2=>
   ME (ar (pj (p:=p) G O e1 h1) (λ_ s1 ⟨I1,ρ1,x1,O1⟩=>ar (ih x1.good O1 (h2.le x1) σ2 e2) (λ_ s2 ⟨I2,ρ2,x2,O2⟩=>⟨I2,ρ2,x1.trans G x2,O2⟩) λζ ζ e=>e) λζ ζ e=>e)
theorem yA(hh:A.handled=none)(G:Gd H0 I ρ R s.heap)(O:b5 I ρ cx σ env s.heap){tgt:Expr}{u:af}(h:iE cx tgt v σ=some σ')(hu:cn I ρ v u) :
  aq (aw pw w) A (iZ tgt env u) (vF H0 I ρ s env cx σ' R) E s:=by
 revert h
 unfold iE
 refine fD (C:=λt y=>Mk cx y v σ=some σ'->QD H0 w I ρ R cx env A E s t u σ') tgt (λζ h=>nomatch h) (λx p h=>pj G O h hu) (λζ ζ ζ h=>nomatch h) (λζ ζ ζ ζ h=>nomatch h) (λζ ζ ζ h=>nomatch h) (λζ ζ ζ ζ h=>nomatch h) (λts k p h=>?_) (λζ ζ h=>nomatch h)
  (λζ ζ ζ ζ h=>nomatch h) (λζ ζ ζ ζ h=>nomatch h) (λζ ζ ζ ζ h=>nomatch h) (λζ ζ ζ h=>nomatch h) (λζ ζ ζ ζ h=>nomatch h) (λζ ζ ζ h=>nomatch h) (λζ ζ ζ ζ h=>nomatch h) (λζ ζ ζ h=>nomatch h) (λζ ζ ζ ζ h=>nomatch h)
 have h:=(nh h).2
 revert h
 refine xC (C:=λv y=>cn I ρ v u->y=some σ'->_) v (λζ ζ h=>nomatch h) (λvs hu h=>hu.tup_el λax xs k ζ hax hr=>?_) hu
 obtain⟨n1,n2⟩:=Bt σ' h env
 refine wpAny_assign_Tuple (items:=xs.toArray) hh ⟨_,G.imm _ _ hax,rfl,_,rfl⟩ (n1.trans (hr.length.symm.trans aT.symm)) n2 λh' he=>?_
 have x0:a9 H0 eg I ρ s I ρ R { s with heap:=h' }:=a9.quiet G m6 (λa o ζ e=>he a o (λq=>gF ((ct s.heap).symm.trans (q▸e))) e) (λa ha=>ha.elim) rfl rfl
 exact ar (J3 x0.good (O.step x0) hr σ' h) (λ_ s2 ⟨I2,ρ2,x2,O2⟩=>⟨I2,ρ2,x0.weaken.trans G x2,O2⟩) λζ ζ e=>e
end
inductive Mq(H0:Bs)(w:bG)(A:bD)(tgt:Expr)(l:List PV)(I:dB)(ρ:dI)(s:ag)(cx:Cx)(env:d7)(σ':br)(R':List aN)(jt:af)(s2:ag):Prop
 | mk (I':dB) (ρ':dI) (Z:aB->Prop) (St:List PV->dB->dI->ag->Prop) (i:Jb H0 w A tgt jt Z St) (t:St l I' ρ' s2) (x:a9 H0 eg I ρ s I' ρ' R' s2) (O:b5 I' ρ' cx σ' env s2.heap) (f:∀a,Z a->s.heap.get? a=none):Mq H0 w A tgt l I ρ s cx env σ' R' jt s2
noncomputable def FZ(H0:Bs)(w:bG)(n:Nat)(cx:Cx)(tgt it:Expr)(σ:br)(R:List aN)(l:List PV)(σ':br)(R':List aN):Prop:=
 (∀(env:d7) x,ko it env x=b8 x) /\
 ∀(A:bD) (E:af->ag->Prop) (I:dB) (ρ:dI) (env:d7) (s:ag),cE H0 A (n+1)->Gd H0 I ρ R s.heap->b5 I ρ cx σ env s.heap ->
  aq (aw pw w) A (ej it env) (λu s1=>aq (aw pw w) A (mP u) (Mq H0 w A tgt l I ρ s cx env σ' R') E s1) E s
section
variable {H0:Bs} {w:bG} {n m:Nat} {sp:Spec} {I I' I'':dB} {ρ ρ' ρ'':dI} {R R' R'' R1 R2:List aN} {cx:Cx} {σ σ' σ1 σ2:br} {env:d7} {A:bD} {E:af->ag->Prop} {s s' s'':ag} {e t a b:Expr} {v:PV} {f:Fl} {X Y Z:aB->Prop}
set_option tactic.hygienic true in
theorem yg{RR:fS->ag->Prop}{tgt:Expr}{it:af}{body:List ir}(Inv:Nat->ag->Prop)(turn:∀(E':af->ag->Prop) (D:Option af->ag->Prop) (Q:Flow->ag->Prop) (k:Nat) (s:ag),Inv k s->(∀s',RR (.ok .next) s'->D none s') ->
   (∀v s',aq (aw pw w) A (c0 tgt it v) (λζ s2=>aq (aw pw w) A (iZ tgt env v) (λζ s3=>aq (aw pw w) A (execs body env) Q E' s3) E' s2) E' s'->D (some v) s') ->
   (∀m s',m<k->Inv m s'->Q .next s'/\Q .cont s')->(∀s',RR (.ok .next) s'->Q .brk s')->(∀v s',RR (.ok (.ret v)) s'->Q (.ret v) s')->aq (aw pw w) A (fQ it) D E' s)
  (n:Nat)(h:Inv n s):cA (aw pw w) A (.forLoop tgt it body [] env) RR s:=
 codeAny_forLoop_any Inv (λk s h=>turn _ _ _ k s h (λs' h=>lV h) (λv s' h=>h) (λm s' a b=>⟨⟨m,a,b⟩,⟨m,a,b⟩⟩) (λs' h=>h) (λv s' h=>h)) n h
inductive Qz(H0:Bs)(Z:aB->Prop)(St:List PV->dB->dI->ag->Prop)(cx:Cx)(env:d7)(step:br->List aN->PV->Option FS)(z:FS)(I:dB)(ρ:dI)(s:ag)(k:Nat)(s':ag):Prop
 | mk (I':dB) (ρ':dI) (σ:br) (R:List aN) (l:List PV) (h:u9 step l σ R=some z) (x:aR H0 (mF env) Z I ρ s I' ρ' R s') (O:b5 I' ρ' cx σ env s'.heap) (t:St l I' ρ' s') (e:k=l.length+1):Qz H0 Z St cx env step z I ρ s k s'
set_option tactic.hygienic true in
theorem HV{tgt:Expr}{jt:af}{ss:List ir}{l:List PV}{St:List PV->dB->dI->ag->Prop}{RR:fS->ag->Prop}{F:AB}{z:FS}(hR:cE H0 A (n+1))(hb:∀σ R,aA (CH H0 w n cx ss σ R) (F.exs cx ss σ R))(its:Jb H0 w A tgt jt Z St)(G:Gd H0 I ρ R s.heap)(O:b5 I ρ cx σ env s.heap)(t:St l I ρ s)(zf:∀a,Z a->¬kL env a)
  (hRR:∀I' ρ' fl s',aR H0 (mF env) Z I ρ s I' ρ' z.2.2 s'->b5 I' ρ' cx z.2.1 env s'.heap->Ms I' ρ' z.1 fl->RR (.ok fl) s')(h:u9 (w8 F cx tgt ss) l σ R=some z):cA (aw pw w) A (.forLoop tgt jt ss [] env) RR s:=by
 refine yg (Qz H0 Z St cx env (w8 F cx tgt ss) z I ρ s) (λE' D Q k s3 q3 hD hDs hn hb' hr=>?_) (l.length+1) ⟨I,ρ,σ,R,l,h,(a9.self G O.sepW).z,O,t,rfl⟩
 obtain⟨I3,ρ3,σ3,R3,l3,h3,x3,O3,st3,e3⟩:=q3
 cases l3 with
 | nil=>
  refine ar (its.done I3 ρ3 R3 s3 _ x3.good st3) (λo s4 q4=>?_) λζ ζ e=>e
  obtain⟨e4,I4,ρ4,x4⟩:=q4
  exact e4▸hD s4 (hRR I4 ρ4 .next s4 (aW h3▸x3.trans G (x4.weaken λζ h=>h.elim)) (aW h3▸O3.stepZ x4 (λζ h=>h.elim) zf) (aW h3▸rfl))
 | cons x l4=>
  obtain⟨f7,y7,h4,h3⟩:=gH h3
  obtain⟨σ6,hb1,h4⟩:=ig h4
  refine ar (its.item x l4 I3 ρ3 R3 s3 _ x3.good st3) (λo s4 q4=>?_) λζ ζ e=>e
  obtain⟨u,e4,q4⟩:=q4
  refine e4▸hDs u s4 (ar q4 (λζ s5 q5=>?_) λζ ζ e=>e)
  obtain⟨I5,ρ5,x5,hu,st5⟩:=q5
  refine ar (yA hR.1 x5.good (O3.stepZ x5 (λζ h=>h.elim) zf) hb1 hu) (λζ s6 q6=>?_) λζ ζ e=>e
  obtain⟨I6,ρ6,x6,O6⟩:=q6
  refine ar (hb σ6 R3 _ h4 A _ I6 ρ6 env s6 hR x6.good O6) (λfl s7 q7=>?_) λζ ζ e=>e
  obtain⟨I7,ρ7,x7,O7,hf7⟩:=q7
  have x57:=x6.trans x5.good x7
  have st7:=its.keep l4 I5 ρ5 R3 s5 I7 ρ7 y7.2 s7 (mF env) (λζ=>False) x5.good st5 x57.z (λa ha=>⟨λq=>zf a ha q.f,id⟩)
  have x37:=(x3.trans G (x5.weaken (Y:=mF env) λζ h=>h.elim)).trans G x57.z
  cases f7 with
  | next=>exact fw hf7▸(hn _ s7 (e3▸dy _) ⟨I7,ρ7,_,_,l4,h3,x37,O7,st7,rfl⟩).1
  | cont=>exact fw hf7▸(hn _ s7 (e3▸dy _) ⟨I7,ρ7,_,_,l4,h3,x37,O7,st7,rfl⟩).2
  | brk=>
   cases h3
   exact fw hf7▸hb' s7 (hRR I7 ρ7 .next s7 x37 O7 rfl)
  | ret v=>
   cases h3
   obtain⟨u,rfl,hu⟩:=hf7
   exact hr u s7 (hRR I7 ρ7 _ s7 x37 O7 ⟨u,rfl,hu⟩)
theorem NY{pos:dS}{tgt it:Expr}{ss:List ir}{l:List PV}(hi:FZ H0 w n cx tgt it σ R l σ1 R1){F:AB}(hb:∀σ R,aA (CH H0 w n cx ss σ R) (F.exs cx ss σ R)):aA (AC H0 w n cx (.For tgt it ss [] pos) σ R) (u9 (w8 F cx tgt ss) l σ1 R1):=by
 intro z h A E I ρ env s hR G O
 refine wpAny_For (ar (hi.2 A _ I ρ env s hR G O) (λu s1 q1=>ar q1 (λjt s2 q2=>?_) λζ ζ e=>e) λζ ζ e=>e) (λx=>hi.1 env x)
 obtain⟨I2,ρ2,Z,St,its,st,x2,O2,hz⟩:=q2
 exact HV hR hb its x2.good O2 st (λa ha hf=>O.alive a hf (hz a ha)) (λI' ρ' fl s' x O h=>⟨I',ρ',aR.close G x2.weaken x hz,O,h⟩) h
theorem r4{pos:dS}(h:dP H0 w n cx e σ R v R1)(hb:iE cx t v σ=some σ1)(h1:∀env:d7,ti [t] e pos.line env=b8 false)(h2:∀env:d7,tj [t] e env=b8 none)
  (h3:∀env:d7,(tV [t] env).map (·.2)=[iZ t env]):yT H0 w n cx (.Assign [t] e pos) σ R .next σ1 R1:=by
 intro A E I ρ env s hR G O
 refine sP (h.then hR G O λI1 ρ1 u s1 x1 hu O1 G1=>?_) (h1 env) (h2 env)
 rw [h3 env]
 refine ar (yA hR.1 G1 O1 hb hu) (λζ s2 q=>?_) λζ ζ e=>e
 obtain⟨I2,ρ2,x2,O2⟩:=vF.mono_ G x1.weaken q
 exact⟨I2,ρ2,x2,O2,rfl⟩
theorem xS(G:Gd H0 I ρ R s.heap){l:List PV}{xs:List af}(hr:a0 I ρ l xs)(hl:l.length<=SZ)(t:Nat) :
  fP H0 I ρ s (.obj R.length) (R++[.lst l]) (.ref s.heap.objs.size) { s with heap:=s.heap.push { cls:=.type "list",data:=.seq xs.toArray },toks:=t }:=by
 have hn:=ct s.heap
 have e:=aU s.heap (o:={ cls:=.type "list",data:=.seq xs.toArray }) rfl
 have st:=a9.recd (X:=eg) (s':={ s with heap:=s.heap.push { cls:=.type "list",data:=.seq xs.toArray },toks:=t }) (p:=(s.heap.objs.size,s.heap.objs.size)) (r:=.lst l) G hn hn (λb o e=>au _ e)
  ⟨hl,rfl,xs,0,e,a0.mono (λζ ζ e=>e) l xs hr⟩ rfl rfl
 refine⟨_,_,st,?_⟩
 refine⟨(s.heap.objs.size,s.heap.objs.size),?_,rfl⟩
 rw [<-G.len,bI (aF _),eX]
 rfl
theorem La{es:List Expr}{vs:List PV}{pos:dS}(h:qr H0 w n cx es σ R vs R1)(hl:vs.length<=SZ):dP H0 w n cx (.List es pos) σ R (.obj R1.length) (R1++[.lst vs]):=by
 intro A E I ρ env s hR G O
 refine wpAny_List (h.then hR G O λI1 ρ1 us s1 x1 hu O1 G1=>⟨?_,?_⟩)
 ·rw [hu.length];exact gd hl
 ·exact fP.mono_ G x1 (xS G1 hu hl _)
theorem nZ(k:Nat)(l:List PV):∀xs:List PV,(la k l xs).length=xs.length:=by
 intro xs
 induction xs with
 | nil=>
  exact rfl
 | cons x xs ih=>
  rw [la,ao,ao,ih]
mutual
theorem tC{k:Nat}{l:List PV}{p:aB × aB}{ys:List af}{c:Nat}(hle:∀a o,I a=some o->I' a=some o)(hp:ρ[k]? = some p)(hl:l.length<=SZ)(hI:I' p.1=some (cD ys.toArray c))(hr:a0 I' ρ l ys) :
  ∀(v:PV) (u:af),cn I ρ v u->cn I' ρ (sub k l v) u
 | .none,u,h=>h
 | .bool b,u,h=>h
 | .int i,u,h=>h
 | .str s,u,h=>h
 | .list xs,u,h=>by
  obtain⟨h1,a,vs,q,rfl,h2,h3⟩:=h
  exact⟨fw (nZ k l xs)▸h1,a,vs,q,rfl,hle _ _ h2,qG hle hp hl hI hr xs vs h3⟩
 | .tup xs,u,h=>by
  obtain⟨h1,a,vs,q,rfl,h2,h3⟩:=h
  exact⟨fw (nZ k l xs)▸h1,a,vs,q,rfl,hle _ _ h2,qG hle hp hl hI hr xs vs h3⟩
 | .val x,u,h=>h
 | .obj j,u,h=>by
  obtain⟨q,h1,rfl⟩:=h
  show cn I' ρ (if j=k then .list l else .obj j) _
  by_cases h:j=k
  ·rw [if_pos h]
   subst h
   cases hp.symm.trans h1
   exact qP hl hI hr
  ·rw [if_neg h]
   exact⟨q,h1,rfl⟩
theorem qG{k:Nat}{l:List PV}{p:aB × aB}{ys:List af}{c:Nat}(hle:∀a o,I a=some o->I' a=some o)(hp:ρ[k]? = some p)(hl:l.length<=SZ)(hI:I' p.1=some (cD ys.toArray c))(hr:a0 I' ρ l ys) :
  ∀(v:List PV) (u:List af),a0 I ρ v u->a0 I' ρ (la k l v) u
 | [],u,h=>h
 | x::xs,u,h=>by
  obtain⟨v,q,rfl,h1,h2⟩:=h
  exact⟨v,q,rfl,tC hle hp hl hI hr x v h1,qG hle hp hl hI hr xs q h2⟩
end
theorem Gw{k:Nat}{l:List PV}{p:aB × aB}{ys:List af}{c:Nat}(hle:∀a o,I a=some o->I' a=some o)(hp:ρ[k]? = some p)(hl:l.length<=SZ)(hI:I' p.1=some (cD ys.toArray c))(hr:a0 I' ρ l ys)(fs:List (Str × PV)) :
  ∀(es:List kY),oH I ρ fs es->oH I' ρ (l9 k l fs) es:=by
 induction fs with
 | nil=>exact λes h=>h
 | cons y r ih=>
  obtain⟨x,q⟩:=y
  intro es h
  obtain⟨hsh,t,v,es',rfl,h1,h2⟩:=h
  exact⟨hsh,t,v,es',rfl,tC hle hp hl hI hr q v h1,ih es' h2⟩
theorem zO(k:Nat)(l:List PV)(x:Str):∀σ:br,(l9 k l σ).lookup x=(σ.lookup x).map (sub k l):=by
 intro σ
 induction σ with
 | nil=>
  exact rfl
 | cons xq r ih=>
  obtain⟨y,v⟩:=xq
  show f8 x ((y,sub k l v)::l9 k l r)=_
  rw [ba,ba,ih]
  cases x==y<;>rfl
noncomputable def jY(I:dB)(D:aB)(o:jh):dB:=λb=>if b=D then some o else I b
theorem ru{a D:aB}{o:jh}(h:a≠D):jY I D o a=I a:=if_neg h
theorem nl{D:aB}{o:jh}(hD:I D=none)(b:aB)(o':jh)(e:I b=some o'):jY I D o b=some o':=(ru λq=>gF (hD.symm.trans (q▸e))).trans e
theorem IW{D:aB}{o:jh}{h:fv}(hI:∀b o,I b=some o->h.get? b=some o)(hd:h.get? D=some o)(b:aB)(o':jh)(e:jY I D o b=some o'):h.get? b=some o':=by
 by_cases hb:b=D
 ·subst hb
  exact hd.trans ((if_pos rfl).symm.trans e)
 ·exact hI b o' ((ru hb).symm.trans e)
theorem vD{a D:aB}{o:jh}(ho:own ρ D)(h:fK (jY I D o) ρ a):fK I ρ a:=by
 by_cases hb:a=D
 ·exact hb▸am ho
 ·exact h.imp (λq=>ru (I:=I) (o:=o) hb▸q) id
theorem a0.leI{I I':dB}(hle:∀a o,I a=some o->I' a=some o){l:List PV}{xs:List af}(h:a0 I ρ l xs):a0 I' ρ l xs:=aM ρ▸a0.mono (δ:=[]) hle l xs h
theorem a9.same0(G:Gd H0 I ρ R s.heap):a9 H0 X I ρ s I ρ R s:=⟨λζ ζ e=>e,⟨[],(aM _).symm⟩,λa h=>av h,λa o ζ e=>⟨o,e,lG.refl o⟩,λa h=>h,G,rfl,rfl⟩
theorem JX{k:Nat}{l:List PV}{p q:aB × aB}{ys:List af}{c:Nat}{h:fv}(hle:∀a o,I a=some o->I' a=some o)(hp:ρ[k]? = some p)(hl:l.length<=SZ)(hI:I' p.1=some (cD ys.toArray c))(hr:a0 I' ρ l ys){r:aN}(x:lu I ρ h q r):lu I' ρ h q (vX k l r):=by
 cases r with
 | lst l2=>
  obtain⟨g1,g2,zs,c2,g3,g4⟩:=x
  exact⟨fw (nZ k l l2)▸g1,g2,zs,c2,g3,qG hle hp hl hI hr l2 zs g4⟩
 | inst C fs=>
  obtain⟨g1,g2,g3,es,c2,g4,g5⟩:=x
  exact⟨g1,g2,fw (ae ..)▸g3,es,c2,g4,Gw hle hp hl hI hr fs es g5⟩
 | deq=>exact x
 | dead=>exact x
 | tab=>
  obtain⟨g1,g2,ps,g3,g4,g5⟩:=x
  exact⟨g1,g2,ps,g3,g4,λpos c e=>let ⟨c',o,a,b,d⟩:=g5 pos c e;⟨c',o,a,hle _ _ b,d⟩⟩
inductive Od(H0:Bs)(X:aB->Prop)(I:dB)(ρ:dI)(s:ag)(cx:Cx)(env:d7)(k:Nat)(R:List aN)(y:br × List aN):Prop
 | mk (I':dB) (x:a9 H0 X I ρ s I' ρ y.2 s) (O:b5 I' ρ cx y.1 env s.heap) (h:∀l p,R[k]? = some (.lst l)->ρ[k]? = some p->cn I' ρ (.list l) (.ref p.1)):Od H0 X I ρ s cx env k R y
theorem KS{k:Nat}(G:Gd H0 I ρ R s.heap)(O:b5 I ρ cx σ env s.heap){l:List PV}(hk:R[k]? = some (.lst l)):Od H0 X I ρ s cx env k R (l9 k l σ,(R.map (vX k l)).set k .dead):=by
 have hlt:k<ρ.length:=G.len▸(eF.mp hk).1
 obtain⟨p,hp⟩:∃p,ρ[k]? = some p:=⟨_,bQ hlt⟩
 obtain⟨hl,hp2,ys,c,hg,hr⟩:=G.recs k p _ hp hk
 have d1:=(G.dis k p _ hp hk (λh=>nomatch h)).1
 have ho:own ρ p.1:=⟨p,be hp,av rfl⟩
 have hle:=nl (o:=cD ys.toArray c) d1
 have hI:jY I p.1 (cD ys.toArray c) p.1=some (cD ys.toArray c):=if_pos rfl
 have hr':=hr.leI hle
 refine⟨jY I p.1 (cD ys.toArray c),⟨hle,⟨[],(aM _).symm⟩,λa h=>av (vD ho h),λa o ζ e=>⟨o,e,lG.refl o⟩,λa h=>h,⟨IW G.imm hg,λb o' e=>hle b o' (G.base b o' e),by rw [vJ,ae];exact G.len,λi q r1 h1 h2=>?_,λi q r1 h1 h2 h3=>?_,G.apart,λb hb=>⟨λq=>(G.stk b hb).1 (vD ho q),(G.stk b hb).2⟩⟩,rfl,rfl⟩,?_,λl' p' h1 h2=>?_⟩
 ·rcases oX h2 with ⟨rfl,rfl⟩ | ⟨hne,h2⟩
  ·exact aW (hp.symm.trans h1)▸⟨hp2,_,hg⟩
  ·rw [jG]at h2
   obtain⟨r2,hr0,rfl⟩:=jC.mp h2
   exact JX hle hp hl hI hr' (G.recs i q r2 h1 hr0)
 ·rcases oX h2 with ⟨rfl,rfl⟩ | ⟨hne,h2⟩
  ·exact absurd rfl h3
  ·rw [jG]at h2
   obtain⟨r2,hr0,rfl⟩:=jC.mp h2
   have e:=G.dis i q r2 h1 hr0 λe=>h3 (congrArg (vX k l) e)
   have ap:=G.apart i k q p h1 hp hne
   exact⟨(ru ap.1).trans e.1,(ru ap.2.2.1).trans e.2⟩
 ·obtain⟨m,h1,h2⟩:=O.ns
  refine⟨O.kf,O.gle,O.ble,O.glo,O.loc,O.fn,O.cek,O.cel,⟨m,h1,λy pv hy=>?_⟩,λa ha h=>O.sep a ha (vD ho h),O.apart,O.alive,O.dbg,O.law⟩
  replace hy:(l9 k l σ).lookup y=some pv:=hy
  rw [zO]at hy
  obtain⟨v0,h3,rfl⟩:=jC.mp hy
  obtain⟨g1,g2⟩:=h2 y v0 h3
  exact⟨g1,g2.imp (λq=>⟨q.1,q.2.imp λu q=>⟨q.1,tC hle hp hl hI hr' v0 u q.2⟩⟩) λq=>⟨q.1,q.2.imp λζ=>CX λu q=>⟨q.1,q.2.1,tC hle hp hl hI hr' v0 u q.2.2⟩⟩⟩
 ·cases hk.symm.trans h1
  cases hp.symm.trans h2
  exact qP hl hI hr'
theorem Dv{k:Nat}(G:Gd H0 I ρ R s.heap)(O:b5 I ρ cx σ env s.heap):Od H0 X I ρ s cx env k R (rf k σ R):=by
 unfold rf
 cases hk:R[k]? with
 | none=>exact⟨I,a9.same0 G,O,λl p h=>(gF (hk.symm.trans h)).elim⟩
 | some r0=>
  cases r0 with
  | lst l=>exact KS G O hk
  | _=>exact⟨I,a9.same0 G,O,λl p h=>nomatch hk.symm.trans h⟩
theorem NJ:∀(ks:List Nat) {I:dB} {σ:br} {R:List aN},Gd H0 I ρ R s.heap->b5 I ρ cx σ env s.heap->∃I',a9 H0 X I ρ s I' ρ (u8 ks σ R).2 s/\b5 I' ρ cx (u8 ks σ R).1 env s.heap:=by
 intro ks
 induction ks with
 | nil=>
  intro I σ R G O
  exact⟨I,a9.same0 G,O⟩
 | cons k ks ih=>
  intro I σ R G O
  obtain⟨I1,x1,O1,_⟩:=Dv (X:=X) (k:=k) G O
  obtain⟨I2,x2,O2⟩:=ih x1.good O1
  exact⟨I2,x1.trans G x2,O2⟩
theorem pe{pos:dS}{ks:List Nat}(h:dP H0 w n cx e (u8 ks σ R).1 (u8 ks σ R).2 v R1):yT H0 w n cx (.Return (some e) pos) σ R (.ret v) (u8 ks σ R).1 R1:=by
 intro A E I ρ env s hR G O
 obtain⟨I1,x1,O1⟩:=NJ (X:=eg) ks G O
 refine wpAny_Return_some (h.then hR x1.good O1 λI2 ρ2 u s2 x2 hu O2 G2=>?_)
 exact⟨I2,ρ2,(x1.trans G x2).weaken,O2,u,rfl,hu⟩
end
end
end Mine
end
section
namespace Mine
noncomputable section
noncomputable abbrev Go(env:d7):Expr->Bool->tn (ForInStep Bool):=λc r=>if r=true then do let ok <-isTrue c env (ej c env);b8 (j4 ok)else b8 (j4 r)
noncomputable def IY(H0:Bs)(w:bG)(n:Nat)(cx:Cx)(es:List Expr)(σ:br)(R:List aN)(v:Bool)(R':List aN):Prop:=
 ∀(A:bD) (E:af->ag->Prop) (I:dB) (ρ:dI) (env:d7) (s:ag),cE H0 A (n+1)->Gd H0 I ρ R s.heap->b5 I ρ cx σ env s.heap ->
  aq (aw pw w) A (nI es true (Go env)) (ry H0 I ρ s v R') E s
noncomputable def wj(H0:Bs)(w:bG)(n:Nat)(cx:Cx)(es:List Expr)(σ:br)(R:List aN)(y:Bool × List aN):Prop:=IY H0 w n cx es σ R y.1 y.2
section
variable {H0:Bs} {w:bG} {n m:Nat} {sp:Spec} {I I' I'':dB} {ρ ρ' ρ'':dI} {R R' R'' R1 R2:List aN} {cx:Cx} {σ σ' σ1 σ2:br} {env:d7} {A:bD} {E:af->ag->Prop} {s s' s'':ag} {e l r t a b:Expr} {v:PV} {f:Fl} {X Y Z:aB->Prop}
theorem D3(env:d7):∀es:List Expr,(nI es false (Go env):tn Bool)=b8 false:=by
 intro es
 induction es with
 | nil=>
  exact rfl
 | cons e es ih=>
  rw [ey]
  show(do let r <-(b8 (j4 false):tn (ForInStep Bool));match r with | .done b=>b8 b | .yield b=>nI es b (Go env))=_
  exact ih
theorem JR:IY H0 w n cx [] σ R true R:=λA E I ρ env s hR G O=>ab (kQ G)
theorem Gn{es:List Expr}(h1:CA H0 w n cx e σ R false R1):IY H0 w n cx (e::es) σ R false R1:=by
 intro A E I ρ env s hR G O
 rw [ey]
 refine aa (aa (h1.then hR G O λI1 ρ1 s1 x1 O1 G1=>ab ?_))
 show aq _ A (nI es false (Go env)) _ E s1
 rw [D3]
 exact ab ⟨I1,ρ1,x1,rfl⟩
theorem MQ{es:List Expr}{d:Bool}(h1:CA H0 w n cx e σ R true R1)(h2:IY H0 w n cx es σ R1 d R2):IY H0 w n cx (e::es) σ R d R2:=by
 intro A E I ρ env s hR G O
 rw [ey]
 refine aa (aa (h1.then hR G O λI1 ρ1 s1 x1 O1 G1=>ab ?_))
 exact ar (h2 A E I1 ρ1 env s1 hR G1 O1) (λu s' q=>ry.mono_ G x1 q) λζ ζ e=>e
noncomputable def iS(env:d7):List (Str × dY)->List (Str × aB)->List (Str × aB)
 | [],acc=>acc
 | (x,k)::r,acc=>if k = .free then iS env r ((x,(env.cells.lookup x).getD 0)::acc)else iS env r acc
theorem nj(env:d7)(x:Str)(k:dY)(r:List (Str × dY))(acc:List (Str × aB)):iS env ((x,k)::r) acc=if k = .free then iS env r ((x,(env.cells.lookup x).getD 0)::acc)else iS env r acc:=rfl
theorem An(env:d7):∀(names:List (Str × dY)) (acc:List (Str × aB)) (f:Str × dY->List (Str × aB)->tn (ForInStep (List (Str × aB)))),
  (∀x k c,f (x,k) c=if k == .free then(do let a <-MB env x;b8 (.yield ((x,a)::c)))else b8 (.yield c))->(∀x∈names,x.2 = .free->∃c,env.cells.lookup x.1=some c)->(nI names acc f:tn _)=b8 (iS env names acc):=by
 intro names
 induction names with
 | nil=>
  intro acc f hf _
  exact rfl
 | cons xq r ih=>
  obtain⟨x,k⟩:=xq
  intro acc f hf h
  rw [ey,hf]
  by_cases hk:k = .free
  ·obtain⟨c,hc⟩:=h (x,k) aj hk
   have e:(k==d6)=true:=by rw [hk];rfl
   rw [if_pos e]
   rw [nj]
   rw [if_pos hk,hc]
   have e2:MB env x=b8 c:=by
    unfold MB
    have hc':env.cells.lookup x=some c:=hc
    rw [hc']
   rw [e2]
   exact ih _ f hf λy hy=>h y (an _ hy)
  ·have e:(k==d6)=false:=by cases k<;>first | rfl | exact absurd rfl hk
   rw [e]
   rw [nj]
   rw [if_neg hk]
   exact ih _ f hf λy hy=>h y (an _ hy)
set_option tactic.hygienic true in
theorem Fv(env:d7):∀(names:List (Str × dY)) (acc:List (Str × aB)) (x:Str) (a:aB),(iS env names acc).lookup x=some a->(acc.lookup x=some a)\/a=(env.cells.lookup x).getD 0/\(x,d6)∈names:=by
 intro names
 induction names with
 | nil=>
  intro acc x a h
  exact av h
 | cons xq r ih=>
  obtain⟨y,k⟩:=xq
  intro acc x a h
  rw [nj]at h
  split at h
  ·rename_i hk
   subst hk
   rcases ih _ x a h with h | ⟨h,h'⟩
   ·rw [ba]at h
    cases e:x==y with
    | true=>
     rw [e]at h
     cases h
     have e:=aJ e
     subst e
     exact am ⟨rfl,aj⟩
    | false=>rw [e]at h;exact av h
   ·exact am ⟨h,an _ h'⟩
  ·rcases ih _ x a h with h | ⟨h,h'⟩
   ·exact av h
   ·exact am ⟨h,an _ h'⟩
set_option tactic.hygienic true in
theorem Cm(env:d7)(x:Str):∀(names:List (Str × dY)) (acc:List (Str × aB)),(x,d6)∈names\/(acc.lookup x).isSome=true->((iS env names acc).lookup x).isSome=true:=by
 intro names
 induction names with
 | nil=>
  intro acc h
  rcases h with h | h
  ·cases h
  ·exact h
 | cons xq r ih=>
  obtain⟨y,k⟩:=xq
  intro acc h
  rw [nj]
  split
  ·rename_i hk
   subst hk
   refine ih _ ?_
   rcases h with h | h
   ·rcases ay.mp h with h | h
    ·right
     cases h
     simp
    ·exact av h
   ·right
    rw [ba]
    cases x==y<;>first | rfl | exact h
  ·rename_i hk
   refine ih _ ?_
   rcases h with h | h
   ·rcases ay.mp h with h | h
    ·cases h;exact absurd rfl hk
    ·exact av h
   ·exact am h
set_option tactic.hygienic true in
theorem sE(x:Str)(v:PV)(σ:br):∀names:List (Str × dY),(eU names σ).lookup x=some v->(x,d6)∈names/\σ.lookup x=some v:=by
 intro names
 induction names with
 | nil=>
  intro h
  cases h
 | cons xq r ih=>
  obtain⟨y,k⟩:=xq
  intro h
  rw [z0]at h
  split at h
  ·rename_i hk
   have hk:=aJ hk
   subst hk
   cases hy:σ.lookup y with
   | none=>
    rw [hy]at h
    obtain⟨a,b⟩:=ih h
    exact⟨an _ a,b⟩
   | some u=>
    rw [hy]at h
    rw [ba]at h
    cases e:x==y with
    | true=>
     rw [e]at h
     cases h
     have e:=aJ e
     subst e
     exact⟨aj,hy⟩
    | false=>
     rw [e]at h
     obtain⟨a,b⟩:=ih h
     exact⟨an _ a,b⟩
  ·obtain⟨a,b⟩:=ih h
   exact⟨an _ a,b⟩
theorem lm{env:d7}{x:Str}{k:dY}:∀{names:List (Str × dY)},names.lookup x=some k ->
  (names.map λ(n,k)=>if(k==d6&&env.scope.kind == .function&&env.kindOf n==some .cell)then(n,pD)else(n,k)).lookup x=some (if(k==d6&&env.scope.kind == .function&&env.kindOf x==some .cell)then pD else k):=by
 intro names
 induction names with
 | nil=>
  intro h
  simp at h
 | cons xq r ih=>
  obtain⟨y,j⟩:=xq
  intro h
  show f8 x ((if(j==d6&&env.scope.kind == .function&&env.kindOf y==some .cell)=true then(y,pD)else(y,j))::_)=_
  cases hx:x==y with
  | true=>
   simp only [ba,hx]at h
   cases h
   have e:=aJ hx
   subst e
   by_cases hc:(k==d6&&env.scope.kind == .function&&env.kindOf x==some .cell)=true
   ·rw [if_pos hc,if_pos hc,ba,hx]
   ·rw [if_neg hc,if_neg hc,ba,hx]
  | false=>
   simp only [ba,hx]at h
   by_cases hc:(j==d6&&env.scope.kind == .function&&env.kindOf y==some .cell)=true
   ·rw [if_pos hc];simp only [ba,hx];exact ih h
   ·rw [if_neg hc];simp only [ba,hx];exact ih h
theorem s9{x:Str}{g:Str × dY->Str × dY}(hg:∀y,(g y).1=y.1):∀{names:List (Str × dY)},names.lookup x=none->(names.map g).lookup x=none:=by
 intro names
 induction names with
 | nil=>
  intro _
  exact rfl
 | cons xq r ih=>
  obtain⟨y,j⟩:=xq
  intro h
  rw [ba]at h
  cases hx:x==y with
  | true=>rw [hx]at h;cases h
  | false=>
   rw [hx]at h
   show f8 x (g (y,j)::r.map g)=none
   have e:g (y,j)=(y,(g (y,j)).2):=si (hg _) rfl
   rw [e,ba,hx]
   exact ih h
structure Ay(cx:Cx)(σ:br)(sc:Scope):Prop where
 kind:sc.kind = .function
 dbg:sc.names.lookup ("__debug__":Str)=none
 nocell:∀x∈sc.names,x.2 ≠ .cell
 uniq:∀x∈sc.names,sc.names.lookup x.1=some x.2
 free:∀x∈sc.names,x.2 = .free->(σ.lookup x.1).isSome=true/\(cx.names.lookup x.1=some .cell\/cx.names.lookup x.1=some .free)
theorem rL{sc:Scope}(h:qN cx σ sc=true):Ay cx σ sc:=by
 unfold qN at h
 simp only [bd,bu,bne_iff_ne,beq_iff_eq,fT,ne_eq]at h
 obtain⟨⟨h1,h2⟩,h3⟩:=h
 refine⟨h1,h2,λx hx=>(h3 x hx).1.1,λx hx=>(h3 x hx).1.2,λx hx hf=>?_⟩
 rcases(h3 x hx).2 with h | h
 ·exact absurd hf h
 ·exact h
theorem lc{sc:Scope}(K:Ay cx σ sc){h:fv}(O:b5 I ρ cx σ env h):AV sc env=b8 (iS env sc.names []) /\ ∀x a,(iS env sc.names []).lookup x=some a->env.cells.lookup x=some a:=by
 have hc:∀x∈sc.names,x.2 = .free->∃c,env.cells.lookup x.1=some c:=λx hx hf=>by
  obtain⟨_,h2⟩:=K.free x hx hf
  rcases h2 with h2 | h2
  ·obtain⟨_,c,_,h3,_⟩:=O.cel x.1 _ h2 (av rfl)
   exact⟨c,h3⟩
  ·obtain⟨_,c,_,h3,_⟩:=O.cel x.1 _ h2 (am rfl)
   exact⟨c,h3⟩
 refine⟨?_,λx a hx=>?_⟩
 ·unfold AV
  have q:=An env sc.names [] (λ(x:Str × dY) (c:List (Str × aB))=>if x.2 == .free then(do let a <-MB env x.1;b8 (.yield ((x.1,a)::c)))else b8 (.yield c)) (λζ ζ ζ=>rfl) hc
  show((nI sc.names [] (λ(x:Str × dY) (c:List (Str × aB))=>if x.2 == .free then(do let a <-MB env x.1;b8 (.yield ((x.1,a)::c)))else b8 (.yield c)):tn (List (Str × aB)))>>=λs=>b8 s)=_
  rw [q]
  rfl
 ·rcases Fv env sc.names [] x a hx with h1 | ⟨h1,h2⟩
  ·cases h1
  ·obtain⟨c,h3⟩:=hc _ h2 rfl
   rw [h3]at h1 ⊢
   rw [h1];rfl
theorem IC{sc:Scope}(K:Ay cx σ sc)(O:b5 I ρ cx σ env s.heap){C:aB}{m:Str->Option af}(hns:s.heap.Ns C m)(hC:¬fK I ρ C) :
  b5 I ρ ⟨sc.names,cx.base⟩ (eU sc.names σ) (vP sc (iS env sc.names []) C env) s.heap:=by
 obtain⟨c1,c2⟩:=lc K O
 have fr:∀x,(x,d6)∈sc.names->yc (vP sc (iS env sc.names []) C env) x /\ ∃c v,(iS env sc.names []).lookup x=some c/\s.heap.IsCell c v:=λx hx=>by
  obtain⟨h1,h2⟩:=K.free _ hx rfl
  have hu:=K.uniq _ hx
  have hk:=lm (env:=env) hu
  have hs:=Cm env x sc.names [] (av hx)
  obtain⟨c,hc⟩:=fX.mp hs
  have he:=c2 x c hc
  have key:∀k,cx.names.lookup x=some k->k = .cell\/k = .free->yc (vP sc (iS env sc.names []) C env) x /\ ∃c v,(iS env sc.names []).lookup x=some c/\s.heap.IsCell c v:=λk hk1 hk2=>by
   obtain⟨g1,c',v,g2,g3⟩:=O.cel x k hk1 hk2
   refine⟨?_,c,v,hc,?_⟩
   ·rcases g1 with g1 | ⟨g1,g4⟩
    ·left
     show f8 x _=_
     refine hk.trans ?_
     rw [if_pos]
     rw [O.kf,g1];rfl
    ·right
     refine⟨?_,g4⟩
     show f8 x _=_
     refine hk.trans ?_
     rw [if_neg]
     rw [g1];simp
   ·rw [he]at g2;cases g2;exact g3
  rcases h2 with h2 | h2
  ·exact key _ h2 (av rfl)
  ·exact key _ h2 (am rfl)
 refine⟨K.kind,O.gle,O.ble,λx hx=>?_,λx hx=>?_,λx hx=>?_,λx hx=>?_,λx k hx hk=>?_,⟨m,hns,λx v hx=>?_⟩,λa ha=>?_,λx y a h1 h2=>?_,λa ha=>?_,?_,λhx=>absurd rfl (K.nocell _ (mem_of_lookup hx))⟩
 ·have hx:sc.names.lookup x=some .globalImplicit:=by simpa [gl] using hx
  refine(lm (env:=env) hx).trans ?_
  rfl
 ·refine(lm (env:=env) hx).trans ?_
  rfl
 ·exact absurd rfl (K.nocell _ (mem_of_lookup hx))
 ·exact absurd rfl (K.nocell _ (mem_of_lookup hx))
 ·rcases hk with rfl | rfl
  ·exact absurd rfl (K.nocell _ (mem_of_lookup hx))
  ·exact fr x (mem_of_lookup hx)
 ·obtain⟨h1,h2⟩:=sE x v σ _ hx
  obtain⟨g1,c,v0,g2,g3⟩:=fr x h1
  obtain⟨m',_,h4⟩:=O.ns
  obtain⟨_,h5⟩:=h4 x v h2
  refine⟨?_,am ⟨g1,?_⟩⟩
  ·show(sc.names.lookup x==some .globalImplicit)=false
   rw [K.uniq _ h1];rfl
  ·have he:=c2 x c g2
   rcases h5 with ⟨h5,_⟩ | ⟨_,c',u,h6,h7,h8⟩
   ·exfalso
    obtain⟨_,h9⟩:=K.free _ h1 rfl
    rcases h9 with h9 | h9
    ·rw [O.cek x h9]at h5;cases h5
    ·obtain⟨g,_⟩:=O.cel x _ h9 (am rfl)
     rcases g with g | ⟨g,_⟩<;>(rw [h5]at g;cases g)
   ·rw [he]at h6
    cases h6
    exact⟨c,u,g2,h7,h8⟩
 ·rcases ha with rfl | ⟨x,hx⟩
  ·exact hC
  ·exact O.sep a (am ⟨x,c2 x a hx⟩)
 ·exact O.apart x y a (c2 x a h1) (c2 y a h2)
 ·rcases ha with rfl | ⟨x,hx⟩
  ·obtain⟨o,_,_,g,_⟩:=hns
   intro e
   rw [g]at e;cases e
  ·exact O.alive a (am ⟨x,c2 x a hx⟩)
 ·show f8 ("__debug__":Str) _=none
  refine s9 (λy=>?_) K.dbg
  obtain⟨y,k⟩:=y
  dsimp only
  split<;>rfl
theorem b5.sub{h:fv}(O:b5 I ρ cx σ env h)(hs:∀x v,σ1.lookup x=some v->σ.lookup x=some v):b5 I ρ cx σ1 env h:=
 ⟨O.kf,O.gle,O.ble,O.glo,O.loc,O.fn,O.cek,O.cel,let ⟨m,h1,h2⟩:=O.ns;⟨m,h1,λx v hx=>h2 x v (hs x v hx)⟩,O.sep,O.apart,O.alive,O.dbg,O.law⟩
end
end
end Mine
end
section
namespace Mine
noncomputable section
section
variable {H0:Bs} {w:bG} {n m:Nat} {sp:Spec} {I I' I'':dB} {ρ ρ' ρ'':dI} {R R' R'' R1 R2:List aN} {cx:Cx} {σ σ' σ1 σ2:br} {env:d7} {A:bD} {E:af->ag->Prop} {s s' s'':ag} {e l r t a b:Expr} {v:PV} {f:Fl} {X Y Z:aB->Prop}
theorem a9.asZ(x:a9 H0 X I ρ s I' ρ' R' s')(h:∀a,X a->Z a):aR H0 eg Z I ρ s I' ρ' R' s':=
 ⟨x.le,x.pre,λa h=>(x.new a h).imp id av,λa o hn e=>x.keep a o (λq=>hn (q.imp id λq=>am (h a q))) e,λa ζ=>x.alive a,x.good,x.os,x.gens⟩
theorem aR.held(x:aR H0 X Z I ρ s I' ρ' R' s'){D:aB}{o:jh}(hD:s.heap.get? D=some o)(hd:∀es ep,o.data ≠ .dict es ep)(ho:¬fK I ρ D)(hx:¬X D)(hz:¬Z D):s'.heap.get? D=some o /\ ¬fK I' ρ' D:=by
 refine⟨x.kept hD hd (λq=>ho (am q)) hx hz,λq=>?_⟩
 ·rcases x.new D q with q | q | q
  ·exact ho q
  ·rw [hD]at q;cases q
  ·exact hz q
theorem aR.heldNs(x:aR H0 X Z I ρ s I' ρ' R' s'){D:aB}{m:Str->Option af}(hD:s.heap.Ns D m)(ho:¬fK I ρ D)(hx:¬X D)(hz:¬Z D):s'.heap.Ns D m /\ ¬fK I' ρ' D:=by
 obtain⟨o,es,ep,hD,hd,hr⟩:=hD
 obtain⟨o',k1,k2⟩:=x.keep D o (λq=>by rcases q with q | q | q;exact ho (am q);exact hx q;exact hz q) hD
 refine⟨⟨o',es,ep,k1,k2.data.trans hd,hr⟩,λq=>?_⟩
 ·rcases x.new D q with q | q | q
  ·exact ho q
  ·rw [hD]at q;cases q
  ·exact hz q
noncomputable abbrev Vz(tgt iter elt:Expr)(ifs:List Expr)(sc:Scope)(pos:dS):Expr:=.ListComp elt [⟨tgt,iter,ifs,0⟩] sc pos
structure QN(H0:Bs)(w:bG)(A:bD)(D:aB)(nm:String)(ys:List PV)(Ac:List PV->dB->dI->ag->Prop):Prop where
 keep:∀done I ρ s I' ρ' R' s' X0 Z0,Ac done I ρ s->aR H0 X0 Z0 I ρ s I' ρ' R' s'->¬X0 D->¬Z0 D->Ac done I' ρ' s'
 add:∀done v r u I ρ R s (E:af->ag->Prop) (Q:ag->Prop),ys=done++v::r->Gd H0 I ρ R s.heap->Ac done I ρ s->cn I ρ v u->(∀s',aR H0 eg (λa=>a=D) I ρ s I ρ R s'->Ac (done++[v]) I ρ s'->Q s') ->
  aq (aw pw w) A (call (.builtin nm) [.ref D,u]) (λζ s'=>Q s') E s
noncomputable def rA(w:bG)(A:bD)(e tgt elt:Expr)(ifs:List Expr)(it:af)(D:aB)(nm:String)(cenv:d7)(RR:fS->ag->Prop):Prop:=
 ∀(Inv:Nat->ag->Prop),(∀(E':af->ag->Prop) (DD:Option af->ag->Prop) (TT:Bool->ag->Prop) (VV:af->ag->Prop) (NN:ag->Prop) (k:Nat) (s:ag),Inv k s->(∀s',RR (.ok .next) s'->DD none s') ->
   (∀v s',aq (aw pw w) A (iZ tgt cenv v) (λζ s2=>aq (aw pw w) A (nI ifs true (Go cenv)) TT E' s2) E' s'->DD (some v) s')->(∀s',aq (aw pw w) A (ej elt cenv) VV E' s'->TT true s')->(∀s',NN s'->TT false s') ->
   (∀u s',aq (aw pw w) A (call (.builtin nm) [.ref D,u]) (λζ s5=>NN s5) E' s'->VV u s')->(∀m s',m<k->Inv m s'->NN s')->aq (aw pw w) A (fQ it) DD E' s) ->
  ∀n s,Inv n s->cA (aw pw w) A (.compLoop e 0 it (.ref D) cenv) RR s
theorem Fq{tgt iter elt:Expr}{ifs:List Expr}{sc:Scope}{pos:dS}{it:af}{D:aB}{cenv:d7}{RR:fS->ag->Prop}(hnm:qm tgt=true):rA w A (Vz tgt iter elt ifs sc pos) tgt elt ifs it D "list.append" cenv RR:=λInv turn n s h=>
 codeAny_compLoop_tests Inv (λk s h=>turn _ _ _ _ _ k s h (λs' h=>h) (λv s' h=>h) (λs' h=>h) (λs' h=>h) (λu s' h=>h) (λm s' a b=>⟨m,a,b⟩)) n h (λv=>yd hnm _ _)
theorem NC{tgt:Expr}{it u:af}{cenv:d7}{Q:Unit->ag->Prop}(hnm:qm tgt=true)(h:aq (aw pw w) A (c0 tgt it u) (λζ s3=>aq (aw pw w) A (iZ tgt cenv u) Q E s3) E s):aq (aw pw w) A (iZ tgt cenv u) Q E s:=by
 have hb:iZ tgt cenv u=(c0 tgt it u>>=λζ=>iZ tgt cenv u):=by rw [yd hnm];rfl
 rw [hb]
 exact aa h
inductive VL(H0:Bs)(ZZ:aB->Prop)(St Ac:List PV->dB->dI->ag->Prop)(cx:Cx)(σ:br)(cenv:d7)(step:List aN->PV->Option (Option PV × List aN))(ys:List PV)(R':List aN)(I:dB)(ρ:dI)(s:ag)(k:Nat)(s1:ag):Prop
 | mk (I1:dB) (ρ1:dI) (R1:List aN) (l done rest:List PV) (h:mf step l R1=some (rest,R')) (hy:ys=done++rest) (x:aR H0 eg ZZ I ρ s I1 ρ1 R1 s1) (O:b5 I1 ρ1 cx σ cenv s1.heap) (ac:Ac done I1 ρ1 s1) (t:St l I1 ρ1 s1) (e:k=l.length+1):VL H0 ZZ St Ac cx σ cenv step ys R' I ρ s k s1
theorem Fs{tgt elt e:Expr}{ifs:List Expr}{it:af}{St Ac:List PV->dB->dI->ag->Prop}{C D:aB}{nm:String}{RR:fS->ag->Prop}{l ys:List PV}{cenv:d7}{F:AB}
  (pk:rA w A e tgt elt ifs it D nm cenv RR)(acc:QN H0 w A D nm ys Ac)(hR:cE H0 A (n+1))(G:Gd H0 I ρ R s.heap)(O:b5 I ρ cx σ cenv s.heap)(hac:Ac [] I ρ s)(hCD:C≠D)(hW:∀a,mF cenv a->a=C)(hZ:∀a,Z a->a≠C/\a≠D /\ ¬kL cenv a)(hDF:¬kL cenv D)
  (its:Jb H0 w A tgt it Z St)(st:St l I ρ s)(htst:∀σ R,aA (wj H0 w n cx ifs σ R) (F.tvs cx .And ifs σ R))(helt:∀σ R,aA (tU H0 w n cx elt σ R) (F.ev cx elt σ R))(hnm:qm tgt=true)
  (hsub:∀x σ4,iE cx tgt x σ=some σ4->∀y v,σ.lookup y=some v->σ4.lookup y=some v)(hm:mf (nt F cx tgt elt ifs σ) l R=some (ys,R'))
  (hRR:∀I' ρ' s',aR H0 eg (λa=>Z a\/a=D\/a=C) I ρ s I' ρ' R' s'->b5 I' ρ' cx σ cenv s'.heap->Ac ys I' ρ' s'->RR (.ok .next) s'):cA (aw pw w) A (.compLoop e 0 it (.ref D) cenv) RR s:=by
 refine pk (VL H0 (λa=>Z a\/a=D\/a=C) St Ac cx σ cenv (nt F cx tgt elt ifs σ) ys R' I ρ s) (λE' DD TT VV NN k s1 q1 hD hDs hT hF hV hN=>?_) (l.length+1) s ⟨I,ρ,R,l,[],ys,hm,rfl,(a9.self G m6).z,O,hac,st,rfl⟩
 obtain⟨I1,ρ1,R1,l1,done,rest,hm1,hys,x1,O1,ac1,st1,e1⟩:=q1
 cases l1 with
 | nil=>
  refine ar (its.done I1 ρ1 R1 s1 _ x1.good st1) (λo s2 q=>?_) λζ ζ e=>e
  obtain⟨e2,I2,ρ2,x2⟩:=q
  cases hm1
  exact e2▸hD s2 (hRR I2 ρ2 s2 (x1.trans G (x2.moreZ λa ha=>av ha)) (O1.stepZ x2 (λζ h=>h.elim) λa ha=>(hZ a ha).2.2) (hys▸(aM done).symm▸acc.keep _ _ _ _ _ _ _ _ _ _ ac1 x2 id λh=>(hZ D h).2.1 rfl))
 | cons x l2=>
  obtain⟨ov,R7,hc,hm2⟩:=gH hm1
  obtain⟨rest2,R9,hm2,er⟩:=gH hm2
  obtain⟨σ4,hb,hc⟩:=ig hc
  obtain⟨c,R5,ht,hc⟩:=gH hc
  refine ar (its.item x l2 I1 ρ1 R1 s1 _ x1.good st1) (λo s2 q=>?_) λζ ζ e=>e
  obtain⟨u,e2,q⟩:=q
  refine e2▸hDs u s2 (NC hnm (ar q (λζ s3 q=>?_) λζ ζ e=>e))
  obtain⟨I3,ρ3,x3,hu,st3⟩:=q
  refine(ar (yA hR.1 x3.good (O1.stepZ x3 (λζ h=>h.elim) λa ha=>(hZ a ha).2.2) hb hu) (λζ s4 q4=>?_) λζ ζ e=>e)
  obtain⟨I4,ρ4,x4,O4⟩:=q4
  refine ar (htst σ4 R1 _ ht A _ I4 ρ4 cenv s4 hR x4.good O4) (λok s5 q5=>?_) λζ ζ e=>e
  obtain⟨I5,ρ5,x5,eok⟩:=q5
  refine fw eok▸?_
  have x35:=x4.trans x3.good x5.weaken
  have ac5:=acc.keep _ _ _ _ _ _ _ _ _ (λζ=>False) (acc.keep _ _ _ _ _ _ _ _ _ _ ac1 x3 id λh=>(hZ D h).2.1 rfl) x35.z (λh=>hCD (hW D h).symm) id
  have st5:=its.keep l2 I3 ρ3 R1 s3 I5 ρ5 R5 s5 (mF cenv) (λζ=>False) x3.good st3 x35.z (λa ha=>⟨λh=>(hZ a ha).1 (hW a h),id⟩)
  have z5:=(x1.trans G (x3.moreZ λa ha=>av ha)).trans G (x35.asZ λa ha=>am (am (hW a ha)))
  have O5:=O4.step x5
  cases c with
  | false=>
   cases hc
   cases er
   exact hF s5 (hN _ s5 (e1▸dy _) ⟨I5,ρ5,_,l2,done,_,hm2,hys,z5,O5.sub (hsub _ _ hb),ac5,st5,rfl⟩)
  | true=>
   obtain⟨v,R6,hv,ev⟩:=gH (x:=F.ev cx elt σ4 R5) (k:=λv R3=>some (some v,R3)) hc
   cases ev
   cases er
   refine hT s5 (dP.then (helt σ4 R5 _ hv) hR x5.good O5 λI6 ρ6 u6 s6 x6 hu6 O6 G6=>hV u6 s6 ?_)
   refine acc.add done v rest2 u6 I6 ρ6 _ s6 _ _ hys x6.good (acc.keep _ _ _ _ _ _ _ _ _ (λζ=>False) ac5 x6.z id id) hu6 λs7 x7 ac7=>?_
   have x67:=x6.z.trans x5.good (x7.moreZ (Z':=λa=>a=D) λζ h=>h)
   exact hN _ s7 (e1▸dy _) ⟨I6,ρ6,_,l2,done++[v],rest2,hm2,by rw [hys,aP];rfl,z5.trans G ((x6.asZ λζ h=>h.elim).trans x5.good (x7.moreZ λa ha=>am (av ha))),
    (O6.stepZ x7 (λζ h=>h.elim) (λa ha=>ha▸hDF)).sub (hsub _ _ hb),ac7,its.keep l2 I6 ρ6 _ s6 I6 ρ6 _ _ eg (λa=>a=D) x6.good (its.keep l2 I5 ρ5 R5 s5 I6 ρ6 _ s6 eg (λζ=>False) x5.good st5 x6.z (λa ha=>⟨id,id⟩)) x7 (λa ha=>⟨id,(hZ a ha).2.1⟩),rfl⟩
theorem kJ{D:aB}(hn:¬fK I ρ D):I D=none:=by
 cases e:I D with
 | none=>rfl
 | some o=>exact absurd (av λh=>gF (h.symm.trans e)) hn
theorem Gd.addfact{h:fv}(G:Gd H0 I ρ R h){D:aB}{o:jh}(hd:h.get? D=some o)(hn:¬fK I ρ D)(hs:D ∉ H0.stk):Gd H0 (jY I D o) ρ R h:=by
 have hI:=kJ hn
 have le:=nl (o:=o) hI
 refine⟨λb o' e=>?_,λb o' e=>le b o' (G.base b o' e),G.len,λi p r h1 h2=>?_,λi p r h1 h2 h3=>?_,G.apart,λb hb=>?_⟩
 ·unfold jY at e
  by_cases hb:b=D
  ·subst hb;rw [if_pos rfl]at e;cases e;exact hd
  ·rw [if_neg hb]at e;exact G.imm b o' e
 ·have:=lu.mono (I':=jY I D o) (δ:=[]) (hp':=h) le (λb o' ζ e=>e) (G.recs i p r h1 h2)
  rwa [aM]at this
 ·have h4:=G.dis i p r h1 h2 h3
  have hm:=be h1
  have e1:p.1≠D:=λe=>hn (am ⟨p,hm,av e.symm⟩)
  have e2:p.2≠D:=λe=>hn (am ⟨p,hm,am e.symm⟩)
  unfold jY
  rw [if_neg e1,if_neg e2]
  exact h4
 ·obtain⟨g1,g2⟩:=G.stk b hb
  refine⟨λq=>g1 ?_,g2⟩
  rcases q with q | q
  ·unfold jY at q
   rw [if_neg (λ(e:b=D)=>hs (e▸hb))]at q
   exact av q
  ·exact am q
theorem aR.addfact(x:aR H0 X Z I ρ s I' ρ' R' s'){D:aB}{o:jh}(hz:Z D)(hd:s'.heap.get? D=some o)(hn:¬fK I' ρ' D)(hs:D ∉ H0.stk):aR H0 X Z I ρ s (jY I' D o) ρ' R' s':=by
 have hI:=kJ hn
 refine⟨λa o' e=>nl hI a o' (x.le a o' e),x.pre,λa h=>?_,x.keep,x.alive,x.good.addfact hd hn hs,x.os,x.gens⟩
 by_cases ha:a=D
 ·subst ha;exact am (am hz)
 ·rcases h with h | h
  ·unfold jY at h
   rw [if_neg ha]at h
   exact x.new a (av h)
  ·exact x.new a (am h)
theorem Cq{sc:Scope}{C:aB}{h:fv}(K:Ay cx σ sc)(O:b5 I ρ cx σ env h):(∀a,mF (vP sc (iS env sc.names []) C env) a->a=C) /\ ∀a,kL (vP sc (iS env sc.names []) C env) a->a=C\/kL env a:=
 ⟨λa ha=>ha.elim id λq=>(nomatch q.1),λa ha=>ha.imp id λ⟨x,hx⟩=>am ⟨x,(lc K O).2 x a hx⟩⟩
theorem oB{e:Expr}(h:cL e=true):∃x p,e = .Name x p:=ii (C:=λe b=>b=true->∃x p,e = .Name x p) e (λζ h=>(aX h).elim) (λx p ζ=>⟨x,p,rfl⟩) h
theorem rU{e:Expr}(h:cL e=true):qm e=true:=by
 obtain⟨x,p,rfl⟩:=oB h
 rfl
theorem HS{sc:Scope}{tgt:Expr}(K:Ay cx σ sc){b:Nat}(hnm:cL tgt=true)(x:PV)(σ4:br)(hb:iE ⟨sc.names,b⟩ tgt x (eU sc.names σ)=some σ4)(y:Str)(v:PV)(hy:(eU sc.names σ).lookup y=some v):σ4.lookup y=some v:=by
 obtain⟨x0,p0,rfl⟩:=oB hnm
 obtain⟨hk,e⟩:=nh (c:=QE ⟨sc.names,b⟩ x0) (o:=some (jR (eU sc.names σ) x0 x)) hb
 refine aW e▸(iQ _ _ _ _).trans ((if_neg λh=>?_).trans hy)
 have h2:=K.uniq _ (sE y v σ _ hy).1
 rw [h]at h2
 rcases fz.mp hk with hk | hk<;>(have q:=(aJ hk).symm.trans h2;cases q)
theorem mE(x:a9 H0 X I ρ s I' ρ' R' s'){a:aB}(ha:s'.heap.get? a=none):s.heap.get? a=none:=by
 cases e:s.heap.get? a with
 | none=>rfl
 | some o=>exact absurd ha (x.alive a λh=>gF (h.symm.trans e))
theorem xd{e tgt elt:Expr}{ifs:List Expr}{sc:Scope}{it:af}{St Ac:List PV->dB->dI->ag->Prop}{use:Option (af->tn Unit)}{Q:af->ag->Prop}{l ys:List PV}{o:jh}{nm:String}{D:aB}{F:AB}
  (hR:cE H0 A (n+1))(K:Ay cx σ sc)(G:Gd H0 I ρ R s.heap)(O:b5 I ρ cx σ env s.heap)(hZF:∀a,Z a->¬kL env a)(its:Jb H0 w A tgt it Z St)(st:St l I ρ s)
  (htst:∀σ R,aA (wj H0 w n ⟨sc.names,cx.base⟩ ifs σ R) (F.tvs ⟨sc.names,cx.base⟩ .And ifs σ R))(helt:∀σ R,aA (tU H0 w n ⟨sc.names,cx.base⟩ elt σ R) (F.ev ⟨sc.names,cx.base⟩ elt σ R))(hnm:cL tgt=true)
  (hm:mf (nt F ⟨sc.names,cx.base⟩ tgt elt ifs (eU sc.names σ)) l R=some (ys,R'))(hDe:s.heap.objs.size=D)(ho:o.isFreed=false)(acc:QN H0 w A D nm ys Ac)(hac:∀(s':ag),s'.heap.get? D=some o->¬fK I ρ D->Ac [] I ρ s')
  (pk:∀(cenv:d7) (RR:fS->ag->Prop),rA w A e tgt elt ifs it D nm cenv RR)
  (start:∀(cenv:d7) (RR:fS->ag->Prop) (s4:ag),cA (aw pw w) A (.compLoop e 0 it (.ref D) cenv) RR s4->(∀E'',aq (aw pw w) A (mP it) (λit' s'=>cA (aw pw w) A (.compLoop e 0 it' (.ref D) cenv) RR s') E'' s4)->cA (aw pw w) A (.compStart e 0 it (.ref D) cenv) RR s4)
  (hQ:∀I' ρ' s' C m',s.heap.get? C=none->s.heap.get? D=none->C≠D->aR H0 eg (λa=>Z a\/a=D\/a=C) I ρ s I' ρ' R' s'->s'.heap.Ns C m'->¬fK I' ρ' C->Ac ys I' ρ' s'->rF (aw pw w) A E use Q (.ref D) C (.ok .next) s') :
  aq (aw pw w) A (kl sc env.globals (iS env sc.names []) [] env.qual none .none (some env)) (λcenv s4=>
    cA (aw pw w) A (.compStart e 0 it (.ref D) { cenv with scope:=relabel sc env }) (rF (aw pw w) A E use Q (.ref D) cenv.locals) s4) E { s with heap:=s.heap.push o }:=by
 refine wpAny_newFunctionEnv K.nocell (λy hy=>nomatch hy) (λh₁ hns₁ hsb₁=>?_) K.kind
 dsimp only at hns₁ hsb₁ ⊢
 have hC:(s.heap.push o).objs.size=D+1:=hDe▸iB ..
 generalize (s.heap.push o).objs.size=C at hns₁ hsb₁ hC
 have hCD:C≠D:=λq=>JG D (hC.symm.trans q)
 have fresh:∀a,D<=a->s.heap.get? a=none:=λa ha=>by
  cases e:s.heap.get? a with
  | none=>rfl
  | some o'=>exact absurd (c7 e) (hDe▸dF.mpr ha)
 have hDn:=fresh D (aF _)
 have hCn:=fresh C (hC▸di D)
 have hacc:h₁.get? D=some o:=hsb₁.extBut _ _ (dg hCD) (au _ (hDe▸aU _ ho))
 have x4:a9 H0 eg I ρ s I ρ R { s with heap:=h₁,toks:=s.toks+([]:List (Str × af)).length }:=a9.quiet G m6 (λa o ζ e=>hsb₁.extBut a o (λq=>gF (hCn.symm.trans (q▸e))) (au _ (au _ e))) (λζ h=>h.elim) rfl rfl
 have O4:=O.step x4
 have hZs:∀a,Z a->s.heap.get? a≠none:=λa ha=>(its.own l I ρ s st a ha).2
 have st4:=its.keep l I ρ R s I ρ R _ eg (λζ=>False) G st x4.z (λa ha=>⟨id,id⟩)
 obtain⟨hW,hF⟩:=Cq (C:=C) K O
 have loop:cA (aw pw w) A (.compLoop e 0 it (.ref D) (vP sc (iS env sc.names []) C env)) (rF (aw pw w) A E use Q (.ref D) C) { s with heap:=h₁,toks:=s.toks+([]:List (Str × af)).length }:=
  Fs (pk _ _) acc hR x4.good (IC K O4 hns₁ (bA G hCn)) (hac _ hacc (bA G hDn)) hCD hW (λa ha=>⟨λq=>hZs a ha (q▸hCn),λq=>hZs a ha (q▸hDn),λq=>(hF a q).elim (λq=>hZs a ha (q▸hCn)) (hZF a ha)⟩)
   (λq=>(hF D q).elim (λq=>hCD q.symm) λq=>O.alive D q hDn) its st4 htst helt (rU hnm) (HS K hnm) hm λI' ρ' s' x' O' hac'=>by
    obtain⟨m',hm',_⟩:=O'.ns
    exact hQ I' ρ' s' C m' hCn hDn hCD (aR.trans G x4.z x') hm' (O'.sep C (av rfl)) hac'
 exact start _ _ _ loop λE''=>its.self l I ρ _ _ _ st4 loop
noncomputable def WR(D:aB)(done:List PV)(I:dB)(ρ:dI)(s:ag):Prop:=∃xs,s.heap.PlainList D (bk xs) /\ ¬fK I ρ D/\a0 I ρ done xs
theorem IX{D:aB}{ys:List PV}(hsz:ys.length<=SZ):QN H0 w A D "list.append" ys (WR D) where
 keep:=λdone I ρ s I' ρ' R' s' X0 Z0 ⟨xs,⟨nD,eD⟩,h2,h3⟩ x hx hz=>
  let h:=x.held eD (bM rfl) h2 hx hz
  ⟨xs,⟨nD,h.1⟩,h.2,h3.leZ x⟩
 add:=λdone v r u I ρ R s E Q hys G ⟨xs,⟨nD,eD⟩,h2,h3⟩ hu k=>by
  refine wpAny_list_append_plain ⟨nD,eD⟩ (λh7 hl7 hs7=>?_) (gd (ah (by rw [aT,h3.length,hys,ai];exact dz _ _) hsz))
  exact k _ (aR.quiet G (λa ha=>ha▸h2) (λa o ha e=>(hs7.2 a ha).trans e) rfl rfl (λa ha=>ha▸G.notStk eD (bM rfl))) ⟨xs++[u],List.push_toArray .. ▸ hl7,h2,h3.append (a0.cons hu a0.nil)⟩
theorem vq{tgt iter elt:Expr}{ifs:List Expr}{sc:Scope}{pos:dS}{it:af}{St:List PV->dB->dI->ag->Prop}{use:Option (af->tn Unit)}{Q:af->ag->Prop}{l ys:List PV}{F:AB}
  (hR:cE H0 A (n+1))(K:Ay cx σ sc)(G:Gd H0 I ρ R s.heap)(O:b5 I ρ cx σ env s.heap)(hZF:∀a,Z a->¬kL env a)(its:Jb H0 w A tgt it Z St)(st:St l I ρ s)
  (htst:∀σ R,aA (wj H0 w n ⟨sc.names,cx.base⟩ ifs σ R) (F.tvs ⟨sc.names,cx.base⟩ .And ifs σ R))(helt:∀σ R,aA (tU H0 w n ⟨sc.names,cx.base⟩ elt σ R) (F.ev ⟨sc.names,cx.base⟩ elt σ R))(hnm:cL tgt=true)
  (hm:mf (nt F ⟨sc.names,cx.base⟩ tgt elt ifs (eU sc.names σ)) l R=some (ys,R'))(hsz:ys.length<=SZ)
  (hQ:∀I' ρ' s' C D m',s.heap.get? C=none->s.heap.get? D=none->aR H0 eg (λa=>Z a\/a=D\/a=C) I ρ s I' ρ' R' s'->s'.heap.Ns C m'->¬fK I' ρ' C->cn I' ρ' (.list ys) (.ref D)->rF (aw pw w) A E use Q (.ref D) C (.ok .next) s') :
  aq (aw pw w) A (newList []) (λacc s3=>aq (aw pw w) A (kl sc env.globals (iS env sc.names []) [] env.qual none .none (some env)) (λcenv s4=>
    cA (aw pw w) A (.compStart (Vz tgt iter elt ifs sc pos) 0 it acc { cenv with scope:=relabel sc env }) (rF (aw pw w) A E use Q acc cenv.locals) s4) E s3) E s:=by
 refine ce (xd (F:=F) hR K G O hZF its st htst helt hnm hm rfl rfl (IX hsz) (λs' e h=>⟨[],⟨0,e⟩,h,a0.nil⟩) (λζ ζ=>Fq (rU hnm)) (λcenv RR s4 h0 h=>codeAny_compStart_list h0 (h _)) λI' ρ' s' C m' hC hD hCD x hns hCo ⟨xs,⟨nD,eD⟩,hDo,hr⟩=>?_)
 have x5:=x.addfact (am (av rfl)) eD hDo (x.good.notStk eD (bM rfl))
 exact hQ _ ρ' s' C _ m' hC hD x5 hns (λq=>hCo (q.imp (λq=>by unfold jY at q;rwa [if_neg hCD]at q) id)) (qP hsz (if_pos rfl) (hr.leI (nl (kJ hDo))))
theorem ge{tgt iter elt:Expr}{ifs:List Expr}{sc:Scope}{pos:dS}{l ys:List PV}{F:AB}(K:qN cx σ sc=true)(hi:FZ H0 w n cx tgt iter σ R l σ R1)
  (htst:∀σ R,aA (wj H0 w n ⟨sc.names,cx.base⟩ ifs σ R) (F.tvs ⟨sc.names,cx.base⟩ .And ifs σ R))(helt:∀σ R,aA (tU H0 w n ⟨sc.names,cx.base⟩ elt σ R) (F.ev ⟨sc.names,cx.base⟩ elt σ R))(hnm:cL tgt=true)
  (hm:mf (nt F ⟨sc.names,cx.base⟩ tgt elt ifs (eU sc.names σ)) l R1=some (ys,R2))(hsz:ys.length<=SZ):dP H0 w n cx (.ListComp elt [⟨tgt,iter,ifs,0⟩] sc pos) σ R (.list ys) R2:=by
 intro A E I ρ env s hR G O
 have K:=rL K
 rw [eval_ListComp]
 refine nQ (use:=none) rfl (hi.1 env) (lc K O).1 K.kind (λx hx hl=>by rw [K.uniq x hx,hl]) (ar (hi.2 A _ I ρ env s hR G O) (λu s1 q=>ar q (λit s2 q=>?_) λζ ζ e=>e) λζ ζ e=>e)
 obtain⟨I2,ρ2,Z,St,its,st,x2,O2,hz⟩:=q
 refine vq hR K x2.good O2 (λa ha hf=>O.alive a hf (hz a ha)) its st htst helt hnm hm hsz λI' ρ' s' C D m' hC hD x' hns hCo hu=>⟨m',hns,λh' hs'=>⟨I',ρ',aR.close G x2 (x'.trans x2.good (aR.moreZ (Z:=λa=>a=C) (aR.quiet x'.good (λa ha=>ha▸hCo) (λa o ha e=>(hs'.2 a ha).trans e) rfl rfl (λa ha=>ha▸x2.good.freshStk hC)) λa ha=>am (am ha))) (λa ha=>?_),hu⟩⟩
 exact ha.elim (hz a) λha=>ha.elim (λe=>e▸mE x2 hD) λe=>e▸mE x2 hC
set_option tactic.hygienic true in
theorem K3{tgt iter elt:Expr}{ifs:List Expr}{sc:Scope}{pos spos px:dS}{x:Str}{l ys:List PV}{F:AB}(K0:qN cx σ sc=true)(hi:FZ H0 w n cx tgt iter σ R l σ R1)
  (htst:∀σ R,aA (wj H0 w n ⟨sc.names,cx.base⟩ ifs σ R) (F.tvs ⟨sc.names,cx.base⟩ .And ifs σ R))(helt:∀σ R,aA (tU H0 w n ⟨sc.names,cx.base⟩ elt σ R) (F.ev ⟨sc.names,cx.base⟩ elt σ R))(hnm:cL tgt=true)
  (hm:mf (nt F ⟨sc.names,cx.base⟩ tgt elt ifs (eU sc.names σ)) l R1=some (ys,R2))(hsz:ys.length<=SZ)(hs:qL cx σ x (.list ys)=some σ') :
  yT H0 w n cx (.Assign [.Name x px] (.ListComp elt [⟨tgt,iter,ifs,0⟩] sc pos) spos) σ R .next σ' R2:=by
 intro A E I ρ env s hR G O
 have hsw:xl (.ListComp elt [⟨tgt,iter,ifs,0⟩] sc pos) (some (.Name x px)) spos.line env=b8 (env.blockKind == .function&&env.kindOf x==some .local&&px.line==(MJ elt [⟨tgt,iter,ifs,0⟩] sc pos).pos.line
   && !(sc.names.any λ(n,k)=>n==x&&(k == .local||k == .cell))):=rfl
 generalize (env.blockKind == .function&&env.kindOf x==some .local&&px.line==(MJ elt [⟨tgt,iter,ifs,0⟩] sc pos).pos.line && !(sc.names.any λ(n,k)=>n==x&&(k == .local||k == .cell)))=b at hsw
 cases b with
 | false=>
  refine wpAny_Assign_Name ((ge K0 hi htst helt hnm hm hsz).then hR G O λI1 ρ1 u s1 x1 hu O1 G1=>?_) hsw
  refine ar (uj G1 O1 hs hu) (λζ s2 q=>?_) λζ ζ e=>e
  obtain⟨I2,ρ2,x2,O2⟩:=q
  exact⟨I2,ρ2,x1.weaken.trans G x2,O2,rfl⟩
 | true=>
  have K:=rL K0
  rw [exec_Assign_Name_used _ _ _ _ hsw]
  refine aa (fh (aa ?_))
  refine aa (m:=comprehension (.ListComp elt [⟨tgt,iter,ifs,0⟩] sc pos) sc env _ (newList []) false (ej iter env) (some (iZ (.Name x px) env))) (ar (nQ (use:=some (iZ (.Name x px) env)) (Q:=λζ s'=>th H0 I ρ s env cx .next σ' R2 .next s') rfl (hi.1 env) (lc K O).1 K.kind (λx hx hl=>by rw [K.uniq x hx,hl])
   (ar (hi.2 A _ I ρ env s hR G O) (λu s1 q=>ar q (λit s2 q=>?_) λζ ζ e=>e) λζ ζ e=>e)) (λζ s' hq=>ab (ab hq)) λζ ζ e=>e)
  obtain⟨I2,ρ2,Z,St,its,st,x2,O2,hz⟩:=q
  refine vq hR K x2.good O2 (λa ha hf=>O.alive a hf (hz a ha)) its st htst helt hnm hm hsz λI' ρ' s' C D m' hC hD x' hns hCo hu=>?_
  have zf:∀a,(Z a\/a=D\/a=C)->s2.heap.get? a=none\/Z a:=λa ha=>ha.elim am λq=>av (q.elim (λq=>q▸hD) λq=>q▸hC)
  have O':=O2.stepZ x' (λζ h=>h.elim) λa ha hf=>(zf a ha).elim (O2.alive a hf) λhz'=>O.alive a hf (hz a hz')
  show aq _ A (iZ (.Name x px) env (.ref D)) _ _ _
  refine ar (pj x'.good O' hs hu) (λζ s5 q=>?_) λζ ζ e=>e
  obtain⟨I5,ρ5,x5,O5⟩:=q
  have hCF:¬kL env C:=λq=>O2.alive C q hC
  have hC5:=(x5.z (Z:=λζ=>False)).heldNs hns hCo (λq=>hCF q.f) id
  refine⟨m',hC5.1,λh' hs'=>?_⟩
  have x6:aR H0 eg (λa=>a=C) I5 ρ5 s5 I5 ρ5 R2 { s5 with heap:=h' }:=aR.quiet x5.good (λa ha=>ha▸hC5.2) (λa o ha e=>(hs'.2 a ha).trans e) rfl rfl (λa ha=>ha▸x2.good.freshStk hC)
  have x56:=((x'.weaken (Y:=mF env) λζ h=>h.elim).trans x2.good x5.z).trans x2.good ((x6.moreZ (Z':=λa=>Z a\/a=D\/a=C) λa ha=>am (am ha)).weaken λζ h=>h.elim)
  exact⟨I5,ρ5,aR.close G x2.weaken x56 (λa ha=>(zf a ha).elim (mE x2) (hz a)),O5.stepZ x6 (λζ h=>h.elim) (λa ha=>ha▸hCF),rfl⟩
end
end
end Mine
end
section
namespace Mine
noncomputable section
set_option tactic.hygienic true in
theorem HD(normal:List Str)(f:Str × af->List (Str × af) × List (Str × af)->tn (ForInStep (List (Str × af) × List (Str × af))))
  (hf:∀k v sl ex,normal.contains k=true->sl.lookup k=none->f (k,v) (sl,ex)=b8 (.yield (sl++[(k,v)],ex))):∀(kw sl r ex:List (Str × af)),Jy normal kw sl=some r->(nI kw (sl,ex) f:tn _)=b8 (r,ex):=by
 intro kw
 induction kw with
 | nil=>
  intro sl r ex h
  cases h;rfl
 | cons xq kw ih=>
  obtain⟨k,v⟩:=xq
  intro sl r ex h
  rw [zR]at h
  split at h
  ·rename_i hc
   simp only [bd,cK]at hc
   rw [ey,hf k v sl ex hc.1 hc.2]
   exact ih _ r ex h
  ·cases h
theorem Ix(f:Str × af->List (Str × af)->tn (ForInStep (List (Str × af))))
  (hf:∀k v sl,f (k,v) sl=if(sl.lookup k).isNone=true then b8 (.yield (sl++[(k,v)]))else b8 (.yield sl)):∀(ds sl:List (Str × af)),(nI ds sl f:tn _)=b8 (Jz ds sl):=by
 intro ds
 induction ds with
 | nil=>
  intro sl
  exact rfl
 | cons xq ds ih=>
  obtain⟨k,v⟩:=xq
  intro sl
  rw [ey,hf]
  rw [vn]
  split
  ·exact ih _
  ·exact ih _
theorem ua{α:Type}{M:rI}{A:bD}{E:af->ag->Prop}{s:ag}{m:tn α}{a:α}{Q:α->ag->Prop}(h:m=b8 a)(hq:Q a s):aq M A m Q E s:=by
 rw [h];exact ab hq
noncomputable def vz(fd:FuncData)(dv pos:List af)(l:List (Str × af))(Q:List (Str × af)->ag->Prop)(s:ag):Prop:=match fd.params.vararg with
 | none=>Q l s
 | some va=>(pos.drop (fd.params.posonlyargs.map (·.arg)++fd.params.args.map (·.arg)).length).length<=mO /\
   Q (l++[(va.arg,.ref s.heap.objs.size)]) { s with heap:=s.heap.push { cls:=.type "tuple",data:=.seq (pos.drop (fd.params.posonlyargs.map (·.arg)++fd.params.args.map (·.arg)).length).toArray } }
theorem B4{α β:Type}{xs:List α}{b:β}{f:α->β->tn (ForInStep β)}(h:xs=[]):(nI xs b f:tn β)=b8 b:=h▸rfl
theorem HK{α:Type}{c:Prop} [Decidable c]{x:Option α}{y:α}(h:(if c then none else x)=some y):¬c/\x=some y:=by
 by_cases hc:c
 ·rw [if_pos hc]at h;cases h
 ·exact⟨hc,by rw [if_neg hc]at h;exact h⟩
theorem sJ{M:rI}{A:bD}{E:af->ag->Prop}{s:ag}{fd:FuncData}{pos dv:List af}{kw l:List (Str × af)}{Q:List (Str × af)->ag->Prop}
  (hk:fd.params.kwonlyargs=[])(hw:fd.params.kwarg=none)
  (hd:(fd.defaults = .none/\dv=[]) \/ ∃T o n,fd.defaults = .ref T/\s.heap.get? T=some o/\o.data = .seq dv.toArray n)
  (hb:bindG fd.params dv pos kw=some l)(hq:vz fd dv pos l Q s):aq M A (vQ fd ⟨pos,kw⟩) Q E s:=by
 obtain⟨o,ho,hgo⟩:∃o:Option (Array af),(o.getD #[]).toList=dv /\ ∀t:Option (Array af)->tn (List (Str × af)),aq M A (t o) Q E s->aq M A (jf fd.defaults>>=t) Q E s:=by
  rcases hd with ⟨h,rfl⟩ | ⟨T,o,n,h,h2,h3⟩
  ·exact⟨none,rfl,λt ht=>h▸ht⟩
  ·exact⟨some dv.toArray,rfl,λt ht=>h▸aa (cZ h2 h3 ht)⟩
 subst ho
 obtain⟨slots,h1,hb⟩:=gt.mp hb
 obtain⟨hc,hb⟩:=HK hb
 obtain⟨hc1,hc3⟩:=f9.mp (fj.mpr hc)
 obtain⟨hc1,hc2⟩:=f9.mp hc1
 have dd:∀{N:List Str},decide (N.length<(o.getD #[]).toList.length)=false->(o.getD #[]).toList.drop ((o.getD #[]).toList.length-N.length)=(o.getD #[]).toList:=λh=>by
  rw [kg (b9 (of_decide_eq_false h))];rfl
 refine aa (ua (HD _ _ (λk v sl ex g1 g2=>(if_pos (fz.mpr (av g1))).trans (if_neg (by rw [g2];exact aX))) kw _ slots [] h1) ?_)
 refine hgo _ (ifn (λq=>aX (hc1.symm.trans ((Bool.and_comm _ _).trans q))) (ifn (by rw [dd hc2];exact fj.mp hc3) ?_))
 refine aa (ua (Ix _ (λk v sl=>rfl) _ slots) ?_)
 refine aa (ua (B4 (congrArg (LL _) hk)) (ifn aX ?_))
 replace hq:(match fd.params.vararg with
  | none=>_
  | some va=>_/\_):=hq
 cases hva:fd.params.vararg with
 | none=>
  rw [hva]at hq
  dsimp only
  rw [hw]
  refine ab ?_
  rw [dd hc2,hk]
  show Q (List.filterMap _ (_++[])) s
  rw [aM]
  exact aW hb▸hq
 | some va=>
  rw [hva]at hq
  refine aa (rD ?_ hq.1)
  dsimp only
  rw [hw]
  refine ab ?_
  rw [dd hc2,hk]
  show Q (List.filterMap _ (_++[])++_) _
  rw [aM]
  exact aW hb▸hq.2
section
variable {H0:Bs} {w:bG} {n m:Nat} {sp:Spec} {I I' I'':dB} {ρ ρ' ρ'':dI} {R R' R'' R1 R2:List aN} {cx:Cx} {σ σ' σ1 σ2:br} {env:d7} {A:bD} {E:af->ag->Prop} {s s' s'':ag} {e l r t a b:Expr} {v:PV} {f:Fl} {X Y Z:aB->Prop}
noncomputable def fW(I:dB)(ρ:dI):List (Str × PV)->List (Str × af)->Prop
 | [],l=>l=[]
 | (x,v)::r,l=>∃u q,l=(x,u)::q/\cn I ρ v u/\fW I ρ r q
theorem fW.append:∀{a b:List (Str × PV)} {a' b':List (Str × af)},fW I ρ a a'->fW I ρ b b'->fW I ρ (a++b) (a'++b'):=by
 intro a
 induction a with
 | nil=>
  intro b a' b' h h'
  cases h;exact h'
 | cons xq r ih=>
  obtain⟨x,v⟩:=xq
  intro b a' b' h h'
  obtain⟨u,q,rfl,h1,h2⟩:=h
  exact⟨u,q++b',rfl,h1,ih h2 h'⟩
theorem fW.zip:∀{ns:List Str} {vs:List PV} {us:List af},a0 I ρ vs us->fW I ρ (ns.zip vs) (ns.zip us)
 | [],vs,us,h=>rfl
 | n::ns,[],us,h=>by cases h;rfl
 | n::ns,v::vs,us,h=>by
  obtain⟨u,q,rfl,h1,h2⟩:=h
  exact⟨u,_,rfl,h1,fW.zip h2⟩
theorem fW.lookup{x:Str}:∀{a:List (Str × PV)} {a':List (Str × af)},fW I ρ a a'->(a.lookup x=none/\a'.lookup x=none) \/ ∃v u,a.lookup x=some v/\a'.lookup x=some u/\cn I ρ v u:=by
 intro a
 induction a with
 | nil=>
  intro a' h
  cases h;exact av ⟨rfl,rfl⟩
 | cons xq r ih=>
  obtain⟨y,v⟩:=xq
  intro a' h
  obtain⟨u,q,rfl,h1,h2⟩:=h
  rw [ba,ba]
  cases x==y with
  | true=>exact am ⟨v,u,rfl,rfl,h1⟩
  | false=>exact ih h2
set_option tactic.hygienic true in
theorem fW.kw(normal:List Str):∀{a sl r:List (Str × PV)} {a' sl':List (Str × af)},fW I ρ a a'->fW I ρ sl sl'->Jy normal a sl=some r->∃r',Jy normal a' sl'=some r'/\fW I ρ r r':=by
 intro a
 induction a with
 | nil=>
  intro sl r a' sl' h h' e
  cases h;cases e;exact⟨sl',rfl,h'⟩
 | cons xq a ih=>
  obtain⟨k,v⟩:=xq
  intro sl r a' sl' h h' e
  obtain⟨u,q,rfl,h1,h2⟩:=h
  rw [zR]at e ⊢
  split at e
  ·rename_i hc
   have hc':(normal.contains k&&(sl'.lookup k).isNone)=true:=by
    simp only [bd,cK]at hc ⊢
    refine⟨hc.1,?_⟩
    rcases h'.lookup (x:=k)with ⟨_,g⟩ | ⟨v,u,g,_⟩
    ·exact g
    ·rw [hc.2]at g;cases g
   rw [if_pos hc']
   refine ih h2 (h'.append ?_) e
   exact⟨u,[],rfl,h1,rfl⟩
  ·cases e
theorem fW.df:∀{a sl:List (Str × PV)} {a' sl':List (Str × af)},fW I ρ a a'->fW I ρ sl sl'->fW I ρ (Jz a sl) (Jz a' sl'):=by
 intro a
 induction a with
 | nil=>
  intro sl a' sl' h h'
  cases h;exact h'
 | cons xq a ih=>
  obtain⟨k,v⟩:=xq
  intro sl a' sl' h h'
  obtain⟨u,q,rfl,h1,h2⟩:=h
  rw [vn,vn]
  rcases h'.lookup (x:=k)with ⟨g,g'⟩ | ⟨v',u',g,g',_⟩
  ·rw [g,g']
   simp only [Option.isNone_none,if_true]
   refine ih h2 (h'.append ?_)
   exact⟨u,[],rfl,h1,rfl⟩
  ·rw [g,g']
   simp only [Option.isNone_some,a8,if_false]
   exact ih h2 h'
theorem fW.pick{sl:List (Str × PV)}{sl':List (Str × af)}(h:fW I ρ sl sl'):∀ns:List Str,fW I ρ (ns.filterMap λn=>(sl.lookup n).map (n,·)) (ns.filterMap λn=>(sl'.lookup n).map (n,·)):=by
 intro ns
 induction ns with
 | nil=>
  rfl
 | cons k ns ih=>
  rw [gy,gy]
  rcases h.lookup (x:=k)with ⟨g,g'⟩ | ⟨v',u',g,g',g2⟩
  ·rw [g,g'];exact ih
  ·rw [g,g']
   exact⟨u',_,rfl,g2,ih⟩
set_option tactic.hygienic true in
theorem fW.bindG{ps:iC}{dv pos:List PV}{du pu:List af}{kw l:List (Str × PV)}{ku:List (Str × af)}(hd:a0 I ρ dv du)(hp:a0 I ρ pos pu)(hk:fW I ρ kw ku)(h:bindG ps dv pos kw=some l) :
  ∃l',bindG ps du pu ku=some l'/\fW I ρ l l':=by
 unfold Mine.bindG at h ⊢
 dsimp only at h ⊢
 generalize hN:ps.posonlyargs.map (·.arg)++ps.args.map (·.arg)=N at *
 have hz:fW I ρ (N.zip pos) (N.zip pu):=fW.zip hp
 cases h1:Jy (ps.args.map (·.arg)) kw (N.zip pos)with
 | none=>rw [h1]at h;cases h
 | some slots=>
 obtain⟨slots',h1',hs⟩:=hk.kw _ hz h1
 rw [h1]at h
 rw [h1']
 simp only [gr]at h ⊢
 rw [hd.length,hp.length]
 have hf:∀ns:List Str,ns.filter (λn=>(slots'.lookup n).isNone)=ns.filter (λn=>(slots.lookup n).isNone):=λns=>by
  refine sk λx ζ=>?_
  rcases hs.lookup (x:=x)with ⟨g,g'⟩ | ⟨v',u',g,g',_⟩<;>rw [g,g']<;>rfl
 rw [hf]
 split at h
 ·cases h
 ·rename_i hc
  rw [if_neg hc]
  cases h
  exact⟨_,rfl,fW.pick (fW.df (fW.zip hd) hs) N⟩
end
end
end Mine
end
section
namespace Mine
noncomputable section
noncomputable def CF(P:dX)(f:aB)(fi:Jf):Prop:=∃(qual:Str) (dV pm:af) (cd:aB),(KK pw P).lookup f=some (ed fi.fd qual dV pm cd)/\(cd,qual)∈CQ /\
 ((dV = .none/\fi.dflt=[]) \/ ∃(T:aB) (its:List af) (k:Nat),dV = .ref T/\(KK pw P).lookup T=some ⟨.type "tuple",none,.seq its.toArray k,#[]⟩ /\ ∀I ρ,a0 I ρ fi.dflt its)/\z7 fi.fd=true
theorem Li:∃v r,[Value.int (-1) 1148]=v::r/\(∃t,v = .int (-1) t)/\r=[]:=⟨_,_,rfl,⟨_,rfl⟩,rfl⟩
theorem Lg:∃v r,[dT false,dT true]=v::r/\v = .bool false /\ ∃v r_1,r=v::r_1/\v = .bool true/\r_1=[]:=⟨_,_,rfl,rfl,_,_,rfl,rfl,rfl⟩
theorem Lh:∃v r,[Value.none,Value.none,dT false,dT false]=v::r/\v = .none /\ ∃v r_1,r=v::r_1/\v = .none /\ ∃v r,r_1=v::r/\v = .bool false /\ ∃v r_2,r=v::r_2/\v = .bool false/\r_2=[]:=⟨_,_,rfl,rfl,_,_,rfl,rfl,_,_,rfl,rfl,_,_,rfl,rfl,rfl⟩
theorem Lj:∃v r,[iF "" 955,iF "\n" 956]=v::r/\(([]:LS).length<=SZ/\jb []=true /\ ∃t,v = .str ⟨bk []⟩ t) /\ ∃v r_1,r=v::r_1/\(([10]:LS).length<=SZ/\jb [10]=true /\ ∃t,v = .str ⟨bk [10]⟩ t)/\r_1=[]:=
 ⟨_,_,rfl,⟨by decide,by decide,955,∅⟩,_,_,rfl,⟨by decide,by decide,956,∅⟩,rfl⟩
theorem NP(P:dX):CF P 507 ⟨bv (bL pw 35 1),[.str [],.str [10]]⟩:=⟨"StringIO.__init__",(.ref 500),(.str "io" 571),506,∅,cY.mp ∅,am ⟨500,[.str "" 955,.str "\n" 956],0,rfl,∅,λI ρ=>Lj⟩,∅⟩
theorem NO(P:dX):CF P 683 ⟨bv (bL pw 35 25),[.int (-1)]⟩:=⟨"StringIO.read",(.ref 676),(.str "io" 571),682,∅,cY.mp ∅,am ⟨676,[.int (-1) 1148],0,rfl,∅,λI ρ=>Li⟩,∅⟩
theorem NM(P:dX):CF P 796 ⟨bv (bL pw 46 0),[.none,.none,.bool false,.bool false]⟩:=⟨"shlex.__init__",(.ref 789),(.str "cpy313.shlex" 1288),795,∅,cY.mp ∅,am ⟨789,[.none,.none,.bool false,.bool false],0,rfl,∅,λI ρ=>Lh⟩,∅⟩
theorem NL(P:dX):CF P 884 ⟨bv (aL pw 47),[.bool false,.bool true]⟩:=⟨"split",(.ref 877),(.str "cpy313.shlex" 1288),883,∅,cY.mp ∅,am ⟨877,[.bool false,.bool true],0,rfl,∅,λI ρ=>Lg⟩,∅⟩
structure FR where
 a:aB
 q:Str
 pm:af
 cd:aB
noncomputable def FT:List FR:=[⟨64,"median_low",(.str "cpy313.statistics" 331),63⟩,⟨71,"median_high",(.str "cpy313.statistics" 331),70⟩,⟨144,"fspath",(.str "os" 454),143⟩,⟨158,"_get_sep",(.str "cpy313.posixpath" 480),157⟩,⟨165,"join",(.str "cpy313.posixpath" 480),164⟩,⟨172,"splitroot",(.str "cpy313.posixpath" 480),171⟩,⟨179,"normpath",(.str "cpy313.posixpath" 480),178⟩,⟨184,"commonpath",(.str "cpy313.posixpath" 480),183⟩,⟨203,"_index",(.str "io" 571),202⟩,⟨514,"StringIO.__translated",(.str "io" 571),513⟩,⟨521,"StringIO.__check",(.str "io" 571),520⟩,⟨803,"shlex.punctuation_chars",(.str "cpy313.shlex" 1288),802⟩,⟨833,"shlex.get_token",(.str "cpy313.shlex" 1288),832⟩,⟨840,"shlex.read_token",(.str "cpy313.shlex" 1288),839⟩,⟨862,"shlex.__iter__",(.str "cpy313.shlex" 1288),861⟩,⟨869,"shlex.__next__",(.str "cpy313.shlex" 1288),868⟩,⟨892,"quote",(.str "cpy313.shlex" 1288),891⟩,⟨899,"_law_way",(.str "law_ik0231_01" 1448),898⟩,⟨906,"_law_vote",(.str "law_ik0231_01" 1448),905⟩,⟨911,"_law_line",(.str "law_ik0231_01" 1448),910⟩,⟨918,"_law_places",(.str "law_ik0231_01" 1448),917⟩,⟨925,"_law_names",(.str "law_ik0231_01" 1448),924⟩,⟨932,"_law_rows",(.str "law_ik0231_01" 1448),931⟩,⟨937,"_law_text",(.str "law_ik0231_01" 1448),936⟩,⟨942,"_law_front",(.str "law_ik0231_01" 1448),941⟩,⟨947,"_law_value",(.str "law_ik0231_01" 1448),946⟩,⟨952,"_law_met",(.str "law_ik0231_01" 1448),951⟩,⟨959,"_law_seen",(.str "law_ik0231_01" 1448),958⟩,⟨964,"law",(.str "law_ik0231_01" 1448),963⟩]
noncomputable def U3:Jf:=⟨bv (aL pw 5),[]⟩
theorem Qe(P:dX):FT.map (λy=>(KK pw P).lookup y.a)=FT.map λy=>some (ed ((Fe pw y.a).getD U3).fd y.q .none y.pm y.cd):=∅
theorem Qd:(FT.all λy=>((Fe pw y.a).getD U3).dflt.isEmpty&&(z7 ((Fe pw y.a).getD U3).fd&&CQ.contains (y.cd,y.q)))=true:=∅
theorem NI:((Qf pw).all λx=>(FT.map (·.a)).contains x.1||[507,683,796,884].contains x.1)=true:=∅
theorem rg(P:dX){f:aB}{fi:Jf}(h:Fe pw f=some fi):CF P f fi:=by
 rcases fz.mp (bu.mp NI (f,fi) (uL (l:=Qf pw) h))with q | q
 ·obtain⟨y,hy,e⟩:=aH.mp (cY.mp q)
  subst e
  have h1:=oz (Qe P) y hy
  obtain⟨h2,h3⟩:=aO.mp (bu.mp Qd y hy)
  obtain⟨h3,h4⟩:=aO.mp h3
  rw [h]at h1 h2 h3
  exact⟨y.q,.none,y.pm,y.cd,h1,cY.mp h4,av ⟨rfl,eP.mp h2⟩,h3⟩
 ·have one:∀{g:aB} {gi:Jf},Fe pw g=some gi->CF P g gi->f=g->CF P f fi:=λe k q=>by
   subst q
   exact aW (e.symm.trans h)▸k
  have q:=cY.mp q
  rcases ay.mp q with q | q
  ·exact one ∅ (NP P) q
  rcases ay.mp q with q | q
  ·exact one ∅ (NO P) q
  rcases ay.mp q with q | q
  ·exact one ∅ (NM P) q
  ·exact one ∅ (NL P) (aC.mp q)
end
end Mine
end
section
namespace Mine
noncomputable section
section
variable {H0:Bs} {w:bG} {n m:Nat} {sp:Spec} {I I' I'':dB} {ρ ρ' ρ'':dI} {R R' R'' R1 R2:List aN} {cx:Cx} {σ σ' σ1 σ2:br} {env:d7} {A:bD} {E:af->ag->Prop} {s s' s'':ag} {e l r t a b:Expr} {v:PV} {f:Fl} {X Y Z:aB->Prop}
theorem fW.of:∀{kw:List (Str × PV)} {kvs:List (Str × af)},LA I ρ kw kvs->fW I ρ kw kvs
 | [],kvs,⟨h1,h2⟩=>by
  simp only [nO,bP]at h1
  exact h1
 | (x,v)::kw,kvs,⟨h1,h2⟩=>by
  cases kvs with
  | nil=>cases h1
  | cons p q=>
   obtain⟨y,u⟩:=p
   simp only [aK,dG]at h1
   obtain⟨rfl,h1⟩:=h1
   obtain⟨u',q',e,h3,h4⟩:=h2
   injection e with e1 e2
   subst e1
   exact⟨u,q,rfl,h3,fW.of ⟨h1,e2▸h4⟩⟩
theorem fW.le{a:List (Str × PV)}{a':List (Str × af)}(x:a9 H0 X I ρ s I' ρ' R' s')(h:fW I ρ a a'):fW I' ρ' a a':=by
 induction a generalizing a' with
 | nil=>exact h
 | cons p r ih=>
  obtain⟨y,v⟩:=p
  obtain⟨u,q,rfl,h1,h2⟩:=h
  exact⟨u,q,rfl,h1.le x,ih h2⟩
theorem fW.names:∀{a:List (Str × PV)} {a':List (Str × af)},fW I ρ a a'->a'.map (·.1)=a.map (·.1):=by
 intro a
 induction a with
 | nil=>
  intro a' h
  cases h;rfl
 | cons xq r ih=>
  obtain⟨x,v⟩:=xq
  intro a' h
  obtain⟨u,q,rfl,h1,h2⟩:=h
  rw [aK,aK,ih h2]
theorem Cs(kindOf:Str->Option dY)(x:Str):∀(bs:List (Str × af)) (m:Str->Option af),(bs.map (·.1)).Nodup->bindL kindOf bs m x=if kindOf x=some .local then(match bs.lookup x with | some v=>some v | none=>m x)else m x:=by
 intro bs
 induction bs with
 | nil=>
  intro m _
  unfold bindL;split<;>rfl
 | cons xq r ih=>
  obtain⟨k,v⟩:=xq
  intro m h
  rw [aK,JH]at h
  unfold bindL
  rw [ih _ h.2,ba]
  by_cases hx:x=k
  ·subst hx
   have hn:r.lookup x=none:=by
    cases e:r.lookup x with
    | none=>rfl
    | some u=>exact absurd (dE (f:=(·.1)) (mem_of_lookup e)) h.1
   rw [hn]
   by_cases hk:kindOf x=some .local
   ·simp [hk]
   ·simp [hk]
  ·have hb:(x==k)=false:=beq_eq_false_iff_ne.mpr hx
   rw [hb]
   by_cases hk:kindOf x=some .local
   ·rw [if_pos hk,if_pos hk]
    cases r.lookup x with
    | some u=>rfl
    | none=>
     show(if kindOf k=some .local then λy=>if y=k then some v else m y else m) x=m x
     by_cases hk':kindOf k=some .local
     ·rw [if_pos hk'];exact if_neg hx
     ·rw [if_neg hk']
   ·rw [if_neg hk,if_neg hk]
    show(if kindOf k=some .local then λy=>if y=k then some v else m y else m) x=m x
    by_cases hk':kindOf k=some .local
    ·rw [if_pos hk'];exact if_neg hx
    ·rw [if_neg hk']
theorem Ct(kindOf:Str->Option dY)(x:Str):∀(bs:List (Str × af)) (m:Str->Option af),(bs.map (·.1)).Nodup->bindC kindOf bs m x=if kindOf x=some .local then m x else(match bs.lookup x with | some v=>some v | none=>m x):=by
 intro bs
 induction bs with
 | nil=>
  intro m _
  unfold bindC;split<;>rfl
 | cons xq r ih=>
  obtain⟨k,v⟩:=xq
  intro m h
  rw [aK,JH]at h
  unfold bindC
  rw [ih _ h.2,ba]
  by_cases hx:x=k
  ·subst hx
   have hn:r.lookup x=none:=by
    cases e:r.lookup x with
    | none=>rfl
    | some u=>exact absurd (dE (f:=(·.1)) (mem_of_lookup e)) h.1
   rw [hn]
   by_cases hk:kindOf x=some .local
   ·simp [hk]
   ·simp [hk]
  ·have hb:(x==k)=false:=beq_eq_false_iff_ne.mpr hx
   rw [hb]
   by_cases hk:kindOf x=some .local
   ·rw [if_pos hk,if_pos hk]
    show(if kindOf k=some .local then m else λy=>if y=k then some v else m y) x=m x
    by_cases hk':kindOf k=some .local
    ·rw [if_pos hk']
    ·rw [if_neg hk'];exact if_neg hx
   ·rw [if_neg hk,if_neg hk]
    cases r.lookup x with
    | some u=>rfl
    | none=>
     show(if kindOf k=some .local then m else λy=>if y=k then some v else m y) x=m x
     by_cases hk':kindOf k=some .local
     ·rw [if_pos hk']
     ·rw [if_neg hk'];exact if_neg hx
set_option tactic.hygienic true in
theorem jz(x:Str):∀(names:List (Str × dY)) (k:Nat) (acc:List (Str × aB)),(x,pD)∈names\/(acc.lookup x).isSome=true->((pB k names acc).lookup x).isSome=true:=by
 intro names
 induction names with
 | nil=>
  intro k acc h
  rcases h with h | h
  ·cases h
  ·exact h
 | cons xq r ih=>
  obtain⟨y,j⟩:=xq
  intro k acc h
  unfold pB
  split
  ·rename_i hj
   refine ih _ _ ?_
   rcases h with h | h
   ·rcases ay.mp h with h | h
    ·right;cases h;simp
    ·exact av h
   ·right
    rw [ba]
    cases x==y<;>first | rfl | exact h
  ·rename_i hj
   refine ih _ _ ?_
   rcases h with h | h
   ·rcases ay.mp h with h | h
    ·cases h;exact absurd rfl hj
    ·exact av h
   ·exact am h
theorem G7{α:Type}(sl:List (Str × α)):∀ns:List Str,((ns.filterMap λn=>(sl.lookup n).map (n,·)).map (·.1)).Sublist ns:=by
 intro ns
 induction ns with
 | nil=>
  exact xt _
 | cons k ns ih=>
  rw [gy]
  cases h:sl.lookup k with
  | none=>exact(ih).cons _
  | some v=>exact(ih).cons_cons _
theorem FA{α:Type}{ps:iC}{dv pos:List α}{kw l:List (Str × α)}(h:bindG ps dv pos kw=some l):(l.map (·.1)).Sublist (ps.posonlyargs.map (·.arg)++ps.args.map (·.arg)):=by
 unfold bindG at h
 dsimp only at h
 cases h1:Jy (ps.args.map (·.arg)) kw ((ps.posonlyargs.map (·.arg)++ps.args.map (·.arg)).zip pos)with
 | none=>rw [h1]at h;cases h
 | some slots=>
 rw [h1]at h
 simp only [gr]at h
 split at h
 ·cases h
 ·cases h
  exact G7 _ _
structure LB(d:FD):Prop where
 kind:d.scope.kind = .function
 gen:d.scope.isGenerator=false
 co:d.scope.isCoroutine=false
 dbg:d.scope.names.lookup ("__debug__":Str)=none
 nofree:∀x∈d.scope.names,x.2 ≠ .free
 uniq:∀x∈d.scope.names,d.scope.names.lookup x.1=some x.2
 kwo:d.params.kwonlyargs=[]
 kwa:d.params.kwarg=none
 par:∀a∈d.params.posonlyargs++d.params.args++d.params.vararg.toList,d.scope.names.lookup a.arg=some .local\/d.scope.names.lookup a.arg=some .cell
 nodup:((d.params.posonlyargs++d.params.args++d.params.vararg.toList).map (·.arg)).Nodup
theorem rX{d:FD}(h:z7 d=true):LB d:=by
 unfold z7 at h
 simp only [bd,bu,bne_iff_ne,beq_iff_eq,fT,ne_eq,decide_eq_true_eq,eP,cK,cG]at h
 obtain⟨⟨⟨⟨⟨⟨⟨⟨h1,h2⟩,h3⟩,h4⟩,h5⟩,h6⟩,h7⟩,h8⟩,h9⟩:=h
 exact⟨h1,h2,h3,h4,λx hx=>(h5 x hx).1,λx hx=>(h5 x hx).2,h6,h7,h8,h9⟩
theorem vx{d:FD}(K:LB d){σ0:br}{binds:List (Str × af)}(hb:fW I ρ σ0 binds)(hn:(σ0.map (·.1)).Nodup)(hp:∀x∈σ0,d.scope.names.lookup x.1=some .local\/d.scope.names.lookup x.1=some .cell)
  {qual:Str}{fa:aB}{code:af}{s0 s1:ag}(G:Gd H0 I ρ R s0.heap)(henv:env=newEnv d.scope s0.heap.objs.size c8 (pB (s0.heap.objs.size+1) d.scope.names []) qual (some fa) code none jN)
  (x:InCallC s0 env.locals (bindL env.kindOf binds λζ=>none) env.cells (bindC env.kindOf binds λζ=>none) s1)
  (hlaw:d.scope.names.lookup ("met":Str)=some .cell->code = .ref 951/\qual=("_law_met.<locals>.":Str)):b5 I ρ ⟨d.scope.names,R.length⟩ σ0 env s1.heap:=by
 have ek:∀y,env.kindOf y=d.scope.names.lookup y:=λy=>by rw [henv];rfl
 have hn':(binds.map (·.1)).Nodup:=by rw [hb.names];exact hn
 have fresh:∀a,s0.heap.objs.size<=a->¬fK I ρ a:=λa ha=>bA G (by
  cases e:s0.heap.get? a with
  | none=>rfl
  | some o=>exact absurd (c7 e) (dF.mpr ha))
 have hL:env.locals=s0.heap.objs.size:=by rw [henv];rfl
 have hcs:env.cells=pB (s0.heap.objs.size+1) d.scope.names []:=by rw [henv];rfl
 have cl:∀y,d.scope.names.lookup y=some .cell->∃c,env.cells.lookup y=some c:=λy hy=>by
  rw [hcs]
  exact fX.mp (jz y _ _ _ (av (mem_of_lookup hy)))
 refine⟨by rw [henv];exact K.kind,by rw [henv];rfl,by rw [henv];rfl,λy hy=>?_,λy hy=>?_,λy hy=>by rw [henv];rfl,λy hy=>?_,λy k hy hk=>?_,⟨_,x.toInCall.ns,λy v hy=>?_⟩,λa ha=>?_,λy z a h1 h2=>?_,λa ha=>?_,?_,λhy=>by rw [henv];exact hlaw hy⟩
 ·rw [ek];simpa [gl] using hy
 ·rw [ek];exact hy
 ·rw [ek];exact hy
 ·rcases hk with rfl | rfl
  ·refine⟨av (by rw [ek];exact hy),?_⟩
   obtain⟨c,hc⟩:=cl y hy
   exact⟨c,_,hc,x.cell y c hc⟩
  ·exact absurd rfl (K.nofree _ (mem_of_lookup hy))
 ·have hm:=mem_of_lookup hy
  rcases hb.lookup (x:=y)with ⟨g,_⟩ | ⟨v',u,g,g',hu⟩
  ·rw [hy]at g;cases g
  ·rw [hy]at g
   cases g
   have hk:=hp _ hm
   refine⟨?_,?_⟩
   ·show(d.scope.names.lookup y==some .globalImplicit)=false
    rcases hk with hk | hk<;>(rw [hk];rfl)
   ·rcases hk with hk | hk
    ·left
     have hk':env.kindOf y=some .local:=by rw [ek];exact hk
     refine⟨hk',u,?_,hu⟩
     rw [Cs env.kindOf y binds _ hn',if_pos hk',g']
    ·right
     have hk':env.kindOf y=some .cell:=by rw [ek];exact hk
     obtain⟨c,hc⟩:=cl y hk
     refine⟨av hk',c,u,hc,?_,hu⟩
     have:=x.cell y c hc
     rw [Ct env.kindOf y binds _ hn',if_neg (by rw [hk'];decide),g']at this
     exact this
 ·rcases ha with rfl | ⟨y,hy⟩
  ·exact fresh _ (by rw [hL];exact aF _)
  ·have:=x.above y a (mem_of_lookup hy)
   exact fresh _ (by rw [hL]at this;exact bg this)
 ·exact name_of_addr x.apart (mem_of_lookup h1) (mem_of_lookup h2)
 ·rcases ha with rfl | ⟨y,hy⟩
  ·obtain⟨o,_,_,g,_⟩:=x.toInCall.ns
   rw [g];exact λh=>nomatch h
  ·obtain⟨o,g,_⟩:=x.cell y a hy
   rw [g];exact λh=>nomatch h
 ·rw [ek];exact K.dbg
theorem a0.drop:∀(k:Nat) {l:List PV} {xs:List af},a0 I ρ l xs->a0 I ρ (l.drop k) (xs.drop k)
 | 0,l,xs,h=>h
 | k+1,[],xs,h=>by cases h;rfl
 | k+1,p::l,xs,h=>by
  obtain⟨u,q,rfl,h1,h2⟩:=h
  exact a0.drop k h2
theorem cE.deeper{k:Nat}(h:cE H0 A (k+1))(env:d7){L:aB}(hL:env.frame=some L)(hk:env.scope.kind ≠ .module):cE ⟨H0.heap,L::H0.stk⟩ (A.deeper env) k:=by
 refine⟨h.1,by have:=h.2.1;show A.depth+1+_<=_;exact o8 this,by have:=h.2.2.1;show A.units+3+_<=_;exact o9 this,?_⟩
 obtain⟨l,h1,h2,h3⟩:=h.2.2.2
 refine⟨env::l,by show A.frames.map _=_;rw [h1];rfl,by rw [aK,aK,hL,h2],λe he=>?_⟩
 rcases ay.mp he with rfl | he
 ·exact hk
 ·exact h3 e he
theorem Gd.pop{h:fv}{L:aB}(G:Gd ⟨H0.heap,L::H0.stk⟩ I ρ R h):Gd H0 I ρ R h:=⟨G.imm,G.base,G.len,G.recs,G.dis,G.apart,λa ha=>G.stk a (an _ ha)⟩
theorem Gd.push{h:fv}{L:aB}(G:Gd H0 I ρ R h)(h1:¬fK I ρ L)(h2:sM h L):Gd ⟨H0.heap,L::H0.stk⟩ I ρ R h:=⟨G.imm,G.base,G.len,G.recs,G.dis,G.apart,λa ha=>by
 rcases ay.mp ha with rfl | ha
 ·exact⟨h1,h2⟩
 ·exact G.stk a ha⟩
theorem a9.back{L:aB}(G:Gd H0 I ρ R s.heap)(x02:a9 H0 eg I ρ s I' ρ' R s')(x3:a9 ⟨H0.heap,L::H0.stk⟩ (mF env) I' ρ' s' I'' ρ'' R'' s'')(hfr:∀b,kL env b->s.heap.get? b=none):a9 H0 eg I ρ s I'' ρ'' R'' s'':=by
 refine⟨λa o e=>x3.le a o (x02.le a o e),?_,λa ha=>?_,λa o hn e=>?_,λa ha=>x3.alive a (x02.alive a ha),x3.good.pop,x3.os.trans x02.os,x3.gens.trans x02.gens⟩
 ·obtain⟨d1,e1⟩:=x02.pre
  obtain⟨d2,e2⟩:=x3.pre
  exact⟨d1++d2,by rw [e2,e1,aP]⟩
 ·rcases x3.new a ha with q | q
  ·exact x02.new a q
  ·right
   cases e:s.heap.get? a with
   | none=>rfl
   | some o=>exact absurd q (x02.alive a (by rw [e];exact λh=>nomatch h))
 ·obtain⟨o1,e2,l1⟩:=x02.keep a o hn e
  by_cases hi:I' a=none
  ·refine(λ⟨o2,h2,l2⟩=>⟨o2,h2,l1.trans l2⟩) (x3.keep a o1 (λq=>?_) e2)
   rcases q with q | q
   ·rcases x02.new a (am q)with (q | q) | q
    ·have:=x02.le a _ (bj.mp q).choose_spec
     rw [hi]at this;cases this
    ·exact hn (av q)
    ·rw [e]at q;cases q
   ·rw [hfr a q.f]at e;cases e
  ·obtain⟨o2,h1⟩:=bj.mp hi
   have:=x02.good.imm a o2 h1
   rw [e2]at this
   cases this
   exact⟨o1,x3.good.imm a o1 (x3.le a o1 h1),l1⟩
theorem Kr:((Qf pw).all λx=>x.1==952 || !(x.2.fd.scope.names.lookup ("met":Str)==some .cell))=true:=∅
theorem NK{f:aB}{fi:Jf}(h:Fe pw f=some fi)(hl:fi.fd.scope.names.lookup ("met":Str)=some .cell):f=952:=by
 rcases fz.mp (bu.mp Kr (f,fi) (uL (l:=Qf pw) h))with q | q
 ·exact aJ q
 ·exact absurd (beq_iff_eq.mpr hl) (λe=>by rw [e]at q;cases q)
theorem Hx{P:dX}{fi:Jf}{qual:Str}{dV pm:af}{cd:aB}{f:aB}(h:Fe pw f=some fi)(g:(KK pw P).lookup f=some (ed fi.fd qual dV pm cd))(hl:fi.fd.scope.names.lookup ("met":Str)=some .cell):j2 cd = .ref 951/\qual++".<locals>."=("_law_met.<locals>.":Str):=by
 have:=NK h hl
 subst this
 have e:(KK pw P).lookup 952=some (ed (bv (aL pw 60)) "_law_met" .none (.str "law_ik0231_01" 1448) 951):=∅
 rw [e]at g
 injection g with g
 injection g with _ _ g _
 injection g with g
 injection g with _ q1 _ _ _ _ _ _ _ _ _ _ q2
 injection q2 with q2
 subst q1 q2
 exact⟨rfl,∅⟩
set_option backward.match.sparseCases true in
theorem vc(B:dC w H0.heap){f:aB}{fi:Jf}(hf:Fe pw f=some fi){pos:List PV}{kw:List (Str × PV)}{σ0:br}(hb:vA fi.fd.params fi.dflt pos kw=some σ0){pvs:List af}{kvs:List (Str × af)}(hR:cE H0 A (n+2))(G:Gd H0 I ρ R s.heap)
  (hp:a0 I ρ pos pvs)(hk:LA I ρ kw kvs){RR:fS->ag->Prop}
  (hbody:∀(I1:dB) (ρ1:dI) (env:d7) (s2:ag),b5 I1 ρ1 ⟨fi.fd.scope.names,R.length⟩ σ0 env s2.heap->Gd ⟨H0.heap,env.locals::H0.stk⟩ I1 ρ1 R s2.heap->cE ⟨H0.heap,env.locals::H0.stk⟩ (A.deeper env) (n+1)->env.frame=some env.locals->(∀b,kL env b->s.heap.get? b=none) ->
   a9 H0 eg I ρ s I1 ρ1 R s2->aq (aw pw w) (A.deeper env) (execs fi.fd.body env) (λg s'=>RR (.ok (.ret (match g with | .ret v=>v | _=>.none))) s')
    (λe s'=>aq (aw pw w) (A.deeper env) (leaving env e) (λζ s''=>RR (.error e) s'') (λe' s''=>RR (.error e') s'') s') s2) :
  cA (aw pw w) A (.call (.ref f) ⟨pvs,kvs⟩) RR s:=by
 obtain⟨qual,dV,pm,cd,g1,g2,g3,g4⟩:=rg w.params hf
 have K:=rX g4
 have B':=G.baseAt B
 have ho:=B'.k _ _ g1
 have hcd:=B'.c _ g2
 unfold vA at hb
 cases hg:bindG fi.fd.params fi.dflt pos kw with
 | none=>rw [hg]at hb;cases hb
 | some l0=>
 rw [hg]at hb
 simp only [gr]at hb
 obtain⟨dv,hdv,hdd⟩:∃dv,a0 I ρ fi.dflt dv/\((dV = .none/\dv=[]) \/ ∃T o k,dV = .ref T/\s.heap.get? T=some o/\o.data = .seq (bk dv) k):=by
  rcases g3 with ⟨h1,h2⟩ | ⟨T,its,k,h1,h2,h3⟩
  ·exact⟨[],by rw [h2];exact a0.nil,av ⟨h1,rfl⟩⟩
  ·exact⟨its,h3 I ρ,am ⟨T,_,k,h1,B'.k _ _ h2,rfl⟩⟩
 obtain⟨l1,hg1,hr1⟩:=fW.bindG hdv hp (fW.of hk) hg
 have hsub:=FA hg
 have hd0:A.depth<AR:=by
  have:=hR.2.1
  show A.depth<1000
  exact UN this
 refine Jk hd0 ho rfl K.co K.gen rfl hcd ?_
 have main:∀(I1:dB) (ρ1:dI) (binds:List (Str × af)) (s1:ag),a9 H0 eg I ρ s I1 ρ1 R s1->fW I1 ρ1 σ0 binds->(σ0.map (·.1)).Nodup->(∀x∈σ0,fi.fd.scope.names.lookup x.1=some .local\/fi.fd.scope.names.lookup x.1=some .cell) ->
   aq (aw pw w) A.in1 (kl fi.fd.scope c8 [] binds (qual++".<locals>.") (some f) (.ref cd) none jN)
    (λenv s₂=>s₂.heap.NoLimit/\cA (aw pw w) A (.func fi.fd.body env) RR s₂) (λe s'=>RR (.error e) s') s1:=by
  intro I1 ρ1 binds s1 x1 hrel hnd hpar
  have G1:=x1.good
  have hkd:∀y∈binds,fi.fd.scope.names.lookup y.1=some .local\/(fi.fd.scope.names.lookup y.1=some .cell/\((pB (s1.heap.objs.size+1) fi.fd.scope.names []).lookup y.1).isSome=true):=λy hy=>by
   have hm:y.1∈σ0.map (·.1):=by rw [<-hrel.names];exact dE hy
   obtain⟨z,hz,hz'⟩:=aH.mp hm
   have:=hpar z hz
   rw [hz']at this
   rcases this with h | h
   ·exact av h
   ·exact am ⟨h,jz y.1 _ _ _ (av (mem_of_lookup h))⟩
  refine mK K.kind hkd λenv henv s2 x2=>?_
  have O2:=vx K hrel hnd hpar G1 henv x2 (Hx hf g1)
  have x12:a9 H0 eg I1 ρ1 s1 I1 ρ1 R s2:=by
   obtain⟨h',tk,e⟩:=x2.toInCall.same
   exact a9.quiet G1 m6 (λa o ζ e=>x2.toInCall.keep a o e) (λζ h=>h.elim) (by rw [e]) (by rw [e])
  have x02:=x1.trans G x12
  have G2:=x12.good
  have hfm:env.frame=some env.locals:=by rw [henv];rfl
  have hkm:env.scope.kind ≠ .module:=by rw [henv];show fi.fd.scope.kind≠_;rw [K.kind];decide
  have hfr:∀b,kL env b->s.heap.get? b=none:=λb hb=>by
   have hle:s1.heap.objs.size<=b:=by
    rcases hb with rfl | ⟨y,hy⟩
    ·rw [henv];exact aF _
    ·have:=x2.above y b (mem_of_lookup hy)
     rw [henv]at this
     exact bg this
   cases e':s.heap.get? b with
   | none=>rfl
   | some o'=>
    exfalso
    refine x1.alive b (by rw [e'];exact λh=>nomatch h) ?_
    cases e'':s1.heap.get? b with
    | none=>rfl
    | some o''=>exact absurd (c7 e'') (dF.mpr hle)
  have hst:sM s2.heap env.locals:=by
   obtain⟨m,⟨o,es,ep,q1,q2,_⟩,_⟩:=O2.ns
   exact⟨o,es,ep,q1,q2⟩
  refine⟨(G2.baseAt B).lim,codeAny_func ?_⟩
  exact hbody I1 ρ1 env s2 O2 (G2.push (O2.sep _ (av rfl)) hst) (hR.deeper env hfm hkm) hfm hfr x02
 refine sJ (dv:=dv) K.kwo K.kwa hdd hg1 ?_
 unfold vz
 have hN:∀x∈l0,∃a∈fi.fd.params.posonlyargs++fi.fd.params.args,a.arg=x.1:=λx hx=>by
  have:=hsub.subset (dE (f:=(·.1)) hx)
  rw [<-bW]at this
  obtain⟨a,h1,h2⟩:=aH.mp this
  exact⟨a,h1,h2⟩
 have hnd0:((fi.fd.params.posonlyargs.map (·.arg)++fi.fd.params.args.map (·.arg))++fi.fd.params.vararg.toList.map (·.arg)).Nodup:=by
  have:=K.nodup
  rwa [bW,bW]at this
 have hl0:(l0.map (·.1)).Nodup:=hsub.nodup (List.nodup_append.mp hnd0).1
 show match fi.fd.params.vararg with | none=>_ | some va=>_
 cases hva:fi.fd.params.vararg with
 | none=>
  rw [hva]at hb
  have hb:l0=σ0:=aW hb
  subst hb
  exact main I ρ l1 s (a9.self G m6) hr1 hl0 λx hx=>by
   obtain⟨a,h1,h2⟩:=hN x hx
   rw [<-h2]
   exact K.par a (fY _ h1)
 | some va=>
  rw [hva]at hb
  cases hmt:mkT (pos.drop (fi.fd.params.posonlyargs.map (·.arg)++fi.fd.params.args.map (·.arg)).length)with
  | none=>simp only [hmt]at hb;cases hb
  | some tv=>
  simp only [hmt,i8,gJ]at hb
  subst hb
  obtain⟨hlen,rfl⟩:=oq hmt
  have hdr:=a0.drop (fi.fd.params.posonlyargs.map (·.arg)++fi.fd.params.args.map (·.arg)).length hp
  refine⟨by rw [hdr.length];exact gd hlen,?_⟩
  obtain⟨I1,ρ1,x1,hu⟩:=ju G hdr hlen s.toks
  obtain⟨d1,e1⟩:=x1.pre
  have hR1:=x1.good.len
  refine main I1 ρ1 _ _ x1 ((hr1.le x1).append ?_) ?_ λx hx=>?_
  ·exact⟨_,[],rfl,hu,rfl⟩
  ·rw [bW]
   rw [hva]at hnd0
   exact(List.Sublist.append hsub (xt _)).nodup hnd0
  ·rcases dk.mp hx with hx | hx
   ·obtain⟨a,h1,h2⟩:=hN x hx
    rw [<-h2]
    exact K.par a (fY _ h1)
   ·rw [aC]at hx
    subst hx
    exact K.par va (cf _ (by rw [hva];exact aC.mpr rfl))
theorem Ka(B:dC w H0.heap){k:Nat}(hall:∀L cx ss σ R,aA (CH ⟨H0.heap,L::H0.stk⟩ w n cx ss σ R) (exs sp k cx ss σ R)):dA H0 w (n+2) (nB sp pw k):=by
 intro f pos kw R v R' h A E I ρ s pvs kvs hR G hp hk
 obtain⟨fi,hf,h⟩:=ig h
 obtain⟨σ0,hb,h⟩:=ig h
 obtain⟨fl,y9,he,h⟩:=gH h
 refine vc B hf hb hR G hp hk λI1 ρ1 env s2 O2 G2 hR2 ζ hfr x02=>?_
 refine ar (hall _ _ _ _ _ _ he _ _ I1 ρ1 env s2 hR2 G2 O2) (λg s3 q=>?_) λζ ζ e=>e
 obtain⟨I3,ρ3,x3,O3,hfl⟩:=q
 have x3':=a9.back G x02 x3 hfr
 cases fl with
 | ret v'=>
  obtain⟨u,rfl,hu⟩:=hfl
  cases h
  exact⟨I3,ρ3,x3',hu⟩
 | next=>
  cases h
  exact fw hfl▸⟨I3,ρ3,x3',oi⟩
 | brk=>cases h
 | cont=>cases h
end
end
end Mine
end
section
open PySem PySem.W PyProof.Rows PySem.Spec
namespace Mine
noncomputable section
mutual
noncomputable def pd:PV->PyData
 | .int i=>.int i
 | .str s=>.str ⟨s.toArray⟩
 | .list l=>.list (By l)
 | .tup l=>.tuple (By l)
 | _=>.none
noncomputable def By:List PV->List PyData
 | []=>[]
 | x::r=>pd x::By r
end
section
variable {H0:Bs} {w:bG} {n m:Nat} {sp:Spec} {I I' I'':dB} {ρ ρ' ρ'':dI} {R R' R'' R1 R2:List aN} {cx:Cx} {σ σ' σ1 σ2:br} {env:d7} {A:bD} {E:af->ag->Prop} {s s' s'':ag} {e l r t a b:Expr} {v:PV} {f:Fl} {X Y Z:aB->Prop}
mutual
theorem Bz:∀(k j:Nat) (a b:PV),uD k a=true->uD j b=true->PyData.eqv (pd a) (pd b)=yC a b
 | k,j,.none,b,_,h=>by cases b<;>first | rfl | (cases j<;>cases h)
 | k,j,.int i,b,_,h=>by cases b<;>first | rfl | (cases j<;>cases h)
 | k,j,.str x,b,_,h=>by
  cases b with
  | str y=>
   show((⟨x.toArray⟩:Str)==⟨y.toArray⟩)=(x==y)
   cases e:x==y with
   | true=>rw [aJ e];exact beq_self_eq_true _
   | false=>
    rw [beq_eq_false_iff_ne]at e ⊢
    intro q
    injection q with q
    exact e (by simpa using q)
  | _=>first | rfl | (cases j<;>cases h)
 | k+1,j,.list x,b,hk,h=>by
  cases b with
  | list y=>
   cases j with
   | zero=>cases h
   | succ j=>
    exact xR k j x y hk h
  | _=>first | rfl | (cases j<;>cases h)
 | k+1,j,.tup x,b,hk,h=>by
  cases b with
  | tup y=>
   cases j with
   | zero=>cases h
   | succ j=>
    exact xR k j x y hk h
  | _=>first | rfl | (cases j<;>cases h)
 | 0,j,.list x,b,hk,h=>by cases hk
 | 0,j,.tup x,b,hk,h=>by cases hk
 | k,j,.bool x,b,hk,h=>by cases k<;>cases hk
 | k,j,.val x,b,hk,h=>by cases k<;>cases hk
 | k,j,.obj x,b,hk,h=>by cases k<;>cases hk
theorem xR:∀(k j:Nat) (a b:List PV),om k a=true->om j b=true->PyData.eqvAll (By a) (By b)=mD a b
 | k,j,[],b,_,h=>by cases b<;>rfl
 | k,j,x::r,b,hk,h=>by
  cases b with
  | nil=>rfl
  | cons y q=>
   have hk:=eB hk
   have h:=eB h
   exact congr (congrArg and (Bz k j x y hk.1 h.1)) (xR k j r q hk.2 h.2)
end
mutual
theorem qS{h:fv}(G:Gd H0 I ρ R h):∀(k:Nat) (a:PV) (u:af),uD k a=true->cn I ρ a u->(∃as,Reads h u (pd a) as)/\(pd a).canLay0=true/\(pd a).depth<=k
 | k,.none,u,_,hu=>by
  cases hu
  exact⟨⟨_,Reads.none⟩,rfl,bp _⟩
 | k,.int i,u,_,hu=>by
  obtain⟨t,rfl⟩:=hu
  exact⟨⟨_,Reads.int i t⟩,rfl,bp _⟩
 | k,.str x,u,_,hu=>by
  obtain⟨_,hs,t,rfl⟩:=hu
  refine⟨⟨_,Reads.str _ t⟩,?_,bp _⟩
  show LG ⟨x.toArray⟩=true
  unfold jb at hs
  unfold LG
  simpa using hs
 | k+1,.list x,u,hk,hu=>by
  obtain⟨_,a,xs,n,rfl,ha,hr⟩:=hu
  obtain⟨⟨as,h1⟩,h2,h3⟩:=oW G k x xs hk hr
  refine⟨⟨_,reads_list_at (G.imm _ _ ha) rfl rfl (by simpa using h1)⟩,h2,?_⟩
  show kC (By x)+1<=k+1
  exact LW h3
 | k+1,.tup x,u,hk,hu=>by
  obtain⟨_,a,xs,n,rfl,ha,hr⟩:=hu
  obtain⟨⟨as,h1⟩,h2,h3⟩:=oW G k x xs hk hr
  refine⟨⟨_,reads_tuple_at (G.imm _ _ ha) rfl rfl (by simpa using h1)⟩,h2,?_⟩
  show kC (By x)+1<=k+1
  exact LW h3
 | 0,.list x,u,hk,hu=>by cases hk
 | 0,.tup x,u,hk,hu=>by cases hk
 | k,.bool x,u,hk,hu=>by cases k<;>cases hk
 | k,.val x,u,hk,hu=>by cases k<;>cases hk
 | k,.obj x,u,hk,hu=>by cases k<;>cases hk
theorem oW{h:fv}(G:Gd H0 I ρ R h):∀(k:Nat) (a:List PV) (u:List af),om k a=true->a0 I ρ a u->(∃as,ReadsAll h u (By a) as)/\DQ (By a)=true/\kC (By a)<=k
 | k,[],u,_,hu=>by
  cases hu
  exact⟨⟨_,ReadsAll.nil⟩,rfl,bp _⟩
 | k,x::r,u,hk,hu=>by
  obtain⟨v,q,rfl,h1,h2⟩:=hu
  have hk:=eB hk
  obtain⟨⟨as,g1⟩,g2,g3⟩:=qS G k x v hk.1 h1
  obtain⟨⟨bs,e1⟩,e2,e3⟩:=oW G k r q hk.2 h2
  refine⟨⟨_,ReadsAll.cons g1 e1⟩,?_,?_⟩
  ·show((pd x).canLay0&&DQ (By r))=true
   rw [g2,e2];rfl
  ·show max (pd x).depth (kC (By r))<=k
   exact WI g3 e3
end
theorem cE.u64{k:Nat}(h:cE H0 A k):A.units+64<cLine:=by
 have:=h.2.2.1
 show A.units+64<9900
 exact WH this
theorem Mb{k:Nat}(hR:cE H0 A k)(G:Gd H0 I ρ R s.heap){a b:PV}{x y:af}{c:Bool}(h:AL a b=some c)(ha:cn I ρ a x)(hb:cn I ρ b y){Q:af->ag->Prop} :
  (Q (.bool c) s->aq (aw pw w) A (py .Eq x y) Q E s)/\(Q (.bool (!c)) s->aq (aw pw w) A (py .NotEq x y) Q E s):=by
 unfold AL at h
 have hk:(uD 6 a&&uD 6 b)=true:=by
  cases e:uD 6 a&&uD 6 b with
  | true=>rfl
  | false=>rw [e]at h;cases h
 rw [if_pos hk]at h
 rw [bd]at hk
 cases h
 obtain⟨⟨as,r1⟩,c1,d1⟩:=qS G 6 a x hk.1 ha
 obtain⟨⟨bs,r2⟩,c2,d2⟩:=qS G 6 b y hk.2 hb
 have s1:rH (pd a)=true:=by unfold rH;rw [c1,yO];exact decide_eq_true (ah d1 (by decide))
 have s2:rH (pd b)=true:=by unfold rH;rw [c2,yO];exact decide_eq_true (ah d2 (by decide))
 have e:=Bz 6 6 a b hk.1 hk.2
 exact⟨λq=>eq_dataH r1 r2 s1 s2 hR.u64 (by rw [e];exact q),λq=>ne_dataH r1 r2 s1 s2 hR.u64 (by rw [e];exact q)⟩
end
end
end Mine
end
section
open PySem PySem.W PyProof.Rows PySem.Spec
namespace Mine
noncomputable section
noncomputable def vG:Prop:=∀(w:bG) (A:bD) (E:af->ag->Prop) (s:ag) (a:aB) (Q:Bool->ag->Prop),Me s.heap a->(∀t,Q false { s with toks:=t })->aq (aw pw w) A (F1 (.ref a)) Q E s
section
variable {H0:Bs} {w:bG} {n m:Nat} {sp:Spec} {I I' I'':dB} {ρ ρ' ρ'':dI} {R R' R'' R1 R2:List aN} {cx:Cx} {σ σ' σ1 σ2:br} {env:d7} {A:bD} {E:af->ag->Prop} {s s' s'':ag} {e l r t a b:Expr} {v:PV} {f:Fl} {X Y Z:aB->Prop}
theorem rN(G:Gd H0 I ρ R s.heap){k:Nat}{r:aN}{u:af}(hr:R[k]? = some r)(hu:cn I ρ (.obj k) u):∃p,ρ[k]? = some p/\u = .ref p.1/\lu I ρ s.heap p r:=by
 obtain⟨p,hp,rfl⟩:=hu
 exact⟨p,hp,rfl,G.recs k p r hp hr⟩
theorem JV{k:Nat}(h:k<=SZ):(k:Int)<2 ^ 63:=by
 have:(SZ:Int)<2 ^ 63:=by decide
 exact WG h this
inductive vE(I:dB)(ρ:dI)(h:fv)(l:List PV)(u:af):Prop
 | mk (a:aB) (xs:List af) (k:Nat) (e:u = .ref a) (hr:a0 I ρ l xs) (hl:l.length<=SZ) (ha:h.get? a=some (cD (bk xs) k)\/h.get? a=some (mY (bk xs) k)):vE I ρ h l u
set_option tactic.hygienic true in
theorem tE(G:Gd H0 I ρ R s.heap){b:PV}{u:af}(hb:cn I ρ b u):aA (λl=>vE I ρ s.heap l u) (lJ R b):=by
 cases b
 case list l=>exact aA.some (hb.list_el λa xs n hl ha hr=>⟨a,xs,n,rfl,hr,hl,av (G.imm _ _ ha)⟩)
 case tup l=>exact aA.some (hb.tup_el λa xs n hl ha hr=>⟨a,xs,n,rfl,hr,hl,am (G.imm _ _ ha)⟩)
 case obj k=>
  intro l h
  obtain⟨r,hr,h⟩:=gt.mp (h:R[k]?.bind L3=some l)
  cases r with
  | lst l'=>
   obtain⟨p,hp,e,h1,h2,xs,n,h3,h4⟩:=rN G hr hb
   cases h
   exact⟨_,xs,n,e,h4,h1,av h3⟩
  | _=>cases h
 all_goals exact aA.none
theorem qM(G:Gd H0 I ρ R s.heap){b:PV}{u:af}{l:List PV}(h:lJ R b=some l)(hb:cn I ρ b u):vE I ρ s.heap l u:=tE G hb l h
theorem rJ(G:Gd H0 I ρ R s.heap){l:List PV}{u:af}(q:vE I ρ s.heap l u):aq (aw pw w) A (F1 u) (ry H0 I ρ s (!l.isEmpty) R) E s:=by
 obtain⟨a,xs,k,rfl,hr,hl,ha⟩:=q
 have he:(!xs.toArray.isEmpty) = !l.isEmpty:=by
  cases xs with
  | nil=>exact hr.isNil▸rfl
  | cons x xs=>
   cases l with
   | nil=>exact absurd hr.length (by simp)
   | cons y l=>simp
 have hf:(xs.toArray.size:Int)<2 ^ 63:=by rw [aT,hr.length];exact JV hl
 rcases ha with ha | ha
 ·exact wpAny_truthy_list ⟨_,ha,rfl,k,rfl⟩ hf ⟨I,ρ,a9.toks G m6 _,he⟩
 ·exact truthy_tuple ⟨_,ha,rfl,k,rfl⟩ hf ⟨I,ρ,a9.toks G m6 _,he⟩
theorem zg(DT:vG)(G:Gd H0 I ρ R s.heap){x:PV}{u:af}{c:Bool}(h:qh R x=some c)(hx:cn I ρ x u):aq (aw pw w) A (F1 u) (ry H0 I ρ s c R) E s:=by
 cases x with
 | none=>cases h;exact hx.none_el (truthy_none (kQ G))
 | bool b=>cases h;exact hx.bool_el (gu (kQ G))
 | int i=>exact aW h▸hx.int_el λt=>P.truthy_int ((show(i != 0)=decide (i≠0) by by_cases q:i=0<;>simp [q])▸kQ G)
 | str l=>
  refine aW h▸hx.str_el λt h1 ζ=>P.truthy_str (by rw [dW];have:=JV h1;exact Ub this) ⟨I,ρ,a9.toks G m6 _,?_⟩
  rw [dW]
  cases l<;>first | rfl | (simp;omega)
 | list l=>exact aW h▸rJ G (tE G (b:=.list l) hx l rfl)
 | tup l=>exact aW h▸rJ G (tE G (b:=.tup l) hx l rfl)
 | val v=>cases h
 | obj k=>
  obtain⟨r,hr,h⟩:=gt.mp (h:R[k]?.bind Gp=some c)
  cases r with
  | lst l=>exact aW h▸rJ G (tE G (b:=.obj k) hx l (gt.mpr ⟨_,hr,rfl⟩))
  | deq=>
   obtain⟨p,hp,e,hok⟩:=rN G hr hx
   cases h
   exact e▸DT w A E s p.1 _ hok.2 λt=>⟨I,ρ,a9.toks G m6 t,rfl⟩
  | _=>cases h
set_option tactic.hygienic true in
theorem L5(G:Gd H0 I ρ R s.heap){a b:PV}{x y:af}(ha:cn I ρ a x)(hb:cn I ρ b y):aA (λc=>xn x y=b8 c) (UZ a b):=by
 cases b
 case none=>
  refine hb.none_el ?_
  rw [isSame_none]
  cases a
  case none=>exact aA.some (ha.none_el rfl)
  case bool p=>exact aA.some (ha.bool_el rfl)
  case int p=>exact aA.some (ha.int_el λt=>rfl)
  case str p=>exact aA.some (ha.str_el λt ζ ζ=>rfl)
  case list p=>exact aA.some (ha.list_el λζ ζ ζ ζ ζ ζ=>rfl)
  case obj p=>exact aA.some (ha.obj_el λζ ζ=>rfl)
  all_goals exact aA.none
 case bool q=>
  refine hb.bool_el ?_
  cases a
  case bool p=>exact aA.some (ha.bool_el (by cases p<;>cases q<;>rfl))
  case str p=>exact aA.some (ha.str_el λt ζ ζ=>rfl)
  all_goals exact aA.none
 case val v=>
  refine oO (C:=λb o=>cn I ρ b y->aA (λc=>xn x y=b8 c) o) (.val v) (λζ ζ=>aA.none) (λT hb=>hb.val_el ?_) hb
  refine oO (C:=λa o=>cn I ρ a x->aA (λc=>xn x (.type T)=b8 c) o) a (λζ ζ=>aA.none) (λU ha=>ha.val_el (aA.some ?_)) ha
  show(b8 (lE U==lE T):tn Bool)=_
  congr 1
  by_cases e:U=T
  ·subst e;rw [beq_self_eq_true,beq_self_eq_true]
  ·rw [beq_eq_false_iff_ne.mpr e,beq_eq_false_iff_ne]
   intro h
   injection h with h
   exact e h
 all_goals exact aA.none
theorem Lv(a:PV)(ha:uD 6 a=true):∀l:List PV,l.all (uD 6)=true->((By l).any λy=>PyData.eqv y (pd a))=l.any λx=>yC x a:=by
 intro l
 induction l with
 | nil=>
  intro _
  exact rfl
 | cons z r ih=>
  intro h
  simp only [MI,bd]at h
  simp only [By,qB]
  rw [ih h.2,Bz 6 6 z a h.1 ha]
theorem Kk:∀l:List PV,l.all (uD 6)=true->om 6 l=true:=by
 intro l
 induction l with
 | nil=>
  intro _
  exact rfl
 | cons z r ih=>
  intro h
  exact aO.mpr ((aO.mp h).imp id (ih))
section
variable (w A E s)
noncomputable def On(x y:af)(Q:af->ag->Prop)(c:Bool):Prop:=(Q (.bool c) s->aq (aw pw w) A (py .In x y) Q E s)/\(Q (.bool (!c)) s->aq (aw pw w) A (py .NotIn x y) Q E s)
end
theorem in_str{l:LS}{c1:Nat}{t u:vR}{Q:af->ag->Prop}:On w A E s (.str (S [c1]) t) (.str (S l) u) Q (l.contains c1):=by
 have e:(l.contains c1)=_:=(show(decide (c1∈(S l).cps.toList))=l.contains c1 by show decide (c1∈l.toArray.toList)=_;rw [qw,kD])▸(StrLaws.found_one (S l) c1).symm
 exact e▸⟨λq=>P.in_str q,λq=>P.notIn_str q⟩
theorem Ny{k:Nat}(hR:cE H0 A k)(G:Gd H0 I ρ R s.heap){a:PV}{l:List PV}{x y:af}(h:(uD 6 a&&l.all (uD 6))=true)(ha:cn I ρ a x)(hb:vE I ρ s.heap l y){Q:af->ag->Prop}:On w A E s x y Q (l.any λx=>yC x a):=by
 obtain⟨h1,h2⟩:=aO.mp h
 obtain⟨adr,xs,j,rfl,hr,hlen,hat⟩:=hb
 obtain⟨⟨as,r1⟩,c1,d1⟩:=qS G 6 a x h1 ha
 obtain⟨⟨bs,r2⟩,c2,d2⟩:=oW G 6 l xs (Kk l h2) hr
 have hu:A.units+1+yU (kC (By l)) (pd a).depth<cLine:=by
  have:=hR.u64
  exact WF d2 this
 rw [<-Lv a h1 l h2]
 rcases hat with hat | hat
 ·have rl:=reads_list_at hat rfl rfl (by simpa using r2)
  exact⟨λq=>SeqAt.in_list_reads rl r1 c2 c1 hu q,λq=>SeqAt.notIn_list_reads rl r1 c2 c1 hu q⟩
 ·have rl:=reads_tuple_at hat rfl rfl (by simpa using r2)
  exact⟨λq=>SeqAt.in_tuple_reads rl r1 c2 c1 hu q,λq=>SeqAt.notIn_tuple_reads rl r1 c2 c1 hu q⟩
theorem L6{k:Nat}(hR:cE H0 A k)(G:Gd H0 I ρ R s.heap){a b:PV}{x y:af}(ha:cn I ρ a x)(hb:cn I ρ b y){Q:af->ag->Prop}:aA (On w A E s x y Q) (Nz R a b):=
 aA.optO (λζ=>oS (C:=λb o=>cn I ρ b y->aA (On w A E s x y Q) o) b (λζ ζ=>aA.none) (λl hb=>oS (C:=λa o=>cn I ρ a x->aA (On w A E s x y Q) o) a (λζ ζ=>aA.none)
   (λm ha=>fx (C:=λm o=>cn I ρ (.str m) x->aA (On w A E s x y Q) o) m (λζ ζ=>aA.none) (λc ha=>ha.str_el λt ζ ζ=>hb.str_el λu ζ ζ=>aA.some in_str) ha) ha) hb)
  λl hl=>aA.grd λh=>aA.some (Ny hR G h ha (qM G hl hb))
noncomputable def CI(H0:Bs)(w:bG)(A:bD)(E:af->ag->Prop)(I:dB)(ρ:dI)(R:List aN)(s:ag)(op:mU)(x y:af)(c:Bool):Prop:=aq (aw pw w) A (py op x y) (fP H0 I ρ s (.bool c) R) E s
theorem aA.neg{P P':Bool->Prop}{o:Option Bool}(h:aA P o)(k:∀c,P c->P' (!c)):aA P' (o.map not):=match o,h with
 | Option.none,_=>aA.none
 | Option.some c,h=>aA.some (k c (h c rfl))
theorem tT{op:mU}{a b:PV}{x y:af}{f:Int->Int->Bool}(ha:cn I ρ a x)(hb:cn I ρ b y)(h:∀i j t u,CI H0 w A E I ρ R s op (.int i t) (.int j u) (f i j)):aA (CI H0 w A E I ρ R s op x y) (II a b f):=
 nf (C:=λa o=>cn I ρ a x->aA (CI H0 w A E I ρ R s op x y) o) a (λζ ζ=>aA.none) (λi ha=>nf (C:=λb o=>cn I ρ b y->aA (CI H0 w A E I ρ R s op x y) o) b (λζ ζ=>aA.none) (λj hb=>ha.int_el λt=>hb.int_el λu=>aA.some (h i j t u)) hb) ha
theorem U5{k:Nat}(hR:cE H0 A k)(G:Gd H0 I ρ R s.heap){op:mU}{a b:PV}{x y:af}(ha:cn I ρ a x)(hb:cn I ρ b y):aA (CI H0 w A E I ρ R s op x y) (td R op a b):=by
 have fin:∀c:Bool,fP H0 I ρ s (PV.bool c) R (dT c) s:=λc=>d8 G jr
 cases op with
 | Eq=>exact aA.grd λζ c h=>(Mb hR G h ha hb).1 (fin c)
 | NotEq=>exact aA.neg (P:=λc=>CI H0 w A E I ρ R s .NotEq x y (!c)) (λc h=>(Mb hR G h ha hb).2 (fin _)) λζ h=>h
 | Is=>
  refine(L5 G ha hb).mono λc e=>?_
  show aq _ A (do return dT (<-xn x y)) _ E s
  exact e.symm▸aa (ab (ab (fin c)))
 | IsNot=>
  refine aA.neg (L5 G ha hb) λc e=>?_
  show aq _ A (do return dT (!(<-xn x y))) _ E s
  exact e.symm▸aa (ab (ab (fin _)))
 | In=>exact λc h=>(L6 hR G ha hb c h).1 (fin c)
 | NotIn=>exact aA.neg (P:=λc=>CI H0 w A E I ρ R s .NotIn x y (!c)) (λc h=>(L6 hR G ha hb c h).2 (fin _)) λζ h=>h
 | Lt=>exact tT ha hb λi j t u=>P.lt_int (fin _)
 | LtE=>exact tT ha hb λi j t u=>P.le_int (fin _)
 | Gt=>exact tT ha hb λi j t u=>P.gt_int (fin _)
 | GtE=>exact tT ha hb λi j t u=>P.ge_int (fin _)
theorem IH{k:Nat}(hR:cE H0 A k)(G:Gd H0 I ρ R s.heap){op:mU}{a b:PV}{x y:af}{c:Bool}(h:td R op a b=some c)(ha:cn I ρ a x)(hb:cn I ρ b y):aq (aw pw w) A (py op x y) (fP H0 I ρ s (.bool c) R) E s:=U5 hR G ha hb c h
end
end
end Mine
end
section
open PySem PySem.W PyProof.Rows PySem.Spec
namespace Mine
noncomputable section
section
variable {H0:Bs} {w:bG} {n m:Nat} {sp:Spec} {I I' I'':dB} {ρ ρ' ρ'':dI} {R R' R'' R1 R2:List aN} {cx:Cx} {σ σ' σ1 σ2:br} {env:d7} {A:bD} {E:af->ag->Prop} {s s' s'':ag} {e l r t a b:Expr} {v:PV} {f:Fl} {X Y Z:aB->Prop}
theorem ww{value slice:Expr}{pos:dS}{Q:af->ag->Prop}
  (h:aq (aw pw w) A (ej value env) (λo s₁=>aq (aw pw w) A (ej slice env) (λi s₂=>∃T id,mM (.type T) "__getitem__"=b8 (some (.builtin id))/\s₂.TypeIs o T/\(∀r,iY value o r=b8 ()) /\
   (lz slice false o i=vL [o,i] (lw o i)\/lz slice false o i=vL [i,o] (lw o i))/\aq (aw pw w) A (lw o i) Q E s₂) E s₁) E s) :
  aq (aw pw w) A (ej (.Subscript value slice pos) env) Q E s:=by
 rw [eval_Subscript]
 refine aa (ar h (λo s₁ h₁=>aa (aY (ar h₁ (λi s₂ h₂=>aa (fh ?_)) λζ ζ x=>x))) λζ ζ x=>x)
 obtain⟨T,id,hl,hT,ht,hs,hg⟩:=h₂
 refine aa ?_
 rw [getitemInPython_of_ne hT.not_modules]
 refine aa (gn hT hl ?_)
 refine ab ?_
 have fin:∀vs,aq (aw pw w) A (vL vs (lw o i)) (λr s₃=>aq (aw pw w) A (iY value o r>>=λζ=>b8 r) Q E s₃) E s₂:=λvs=>
  wpAny_operating (ar hg (λr s₃ h₃=>aa (cF (ht r) (ab h₃))) λζ ζ x=>x)
 show aq _ A (lz slice false o i>>=_) _ _ _
 rcases hs with hs | hs
 ·rw [hs];exact aa (fin _)
 ·rw [hs];exact aa (fin _)
theorem a0.at{l:List PV}{xs:List af}:∀{i:Nat} {v:PV},a0 I ρ l xs->l[i]? = some v->∃u,xs[i]? = some u/\cn I ρ v u:=by
 induction l generalizing xs with
 | nil=>intro i v h e;simp at e
 | cons p r ih=>
  intro i v h e
  obtain⟨u,q,rfl,h1,h2⟩:=h
  cases i with
  | zero=>simp only [List.getElem?_cons_zero,gJ]at e;subst e;exact⟨u,rfl,h1⟩
  | succ i=>
   obtain⟨z,g1,g2⟩:=ih (i:=i) h2 (by simpa using e)
   exact⟨z,by simpa using g1,g2⟩
theorem Ey{α:Type}(l:List α)(i:Int):iD l i=(KN i l.length).bind (l[·]?):=by
 unfold iD KN
 by_cases h0:0<=i
 ·rw [if_pos h0,if_pos h0]
  by_cases h1:i<l.length
  ·rw [if_pos h1];rfl
  ·rw [if_neg h1,hG (Vs (nW.mp h1))];rfl
 ·rw [if_neg h0,if_neg h0]
  by_cases h1:0<=i+l.length
  ·rw [if_pos h1,if_pos h1];rfl
  ·rw [if_neg h1,if_neg h1];rfl
theorem HP{i:Int}{n j:Nat}(h:KN i n=some j):(0<=i/\i<n/\i.toNat=j)\/(i<0/\0<=i+n/\(i+n).toNat=j):=by
 unfold KN at h
 by_cases h0:0<=i
 ·rw [if_pos h0]at h
  by_cases h1:i<n
  ·rw [if_pos h1]at h;exact av ⟨h0,h1,aW h⟩
  ·rw [if_neg h1]at h;cases h
 ·rw [if_neg h0]at h
  by_cases h1:0<=i+n
  ·rw [if_pos h1]at h;exact am ⟨Int.not_le.mp h0,h1,aW h⟩
  ·rw [if_neg h1]at h;cases h
theorem KH(G:Gd H0 I ρ R s.heap){x v:PV}{i:Int}{u y:af}(h:wY R x i=some v)(hu:cn I ρ x u)(hy:cn I ρ (.int i) y) :
  (∃T id,mM (.type T) "__getitem__"=b8 (some (.builtin id))/\s.TypeIs u T)/\aq (aw pw w) A (lw u y) (fP H0 I ρ s v R) E s:=by
 obtain⟨t,rfl⟩:=hy
 obtain⟨l,hl,h⟩:=ig h
 rw [Ey]at h
 obtain⟨j,hj,h⟩:=gt.mp h
 obtain⟨a,xs,k,rfl,hr,hlen,hat⟩:=qM G hl hu
 obtain⟨z,hz,hrz⟩:=hr.at h
 have hxl:=hr.length
 have hS':(l.length:Int)<=1000000:=Vv (show l.length<=1000000 from hlen)
 have hz':xs.toArray[j]? = some z:=by rw [bV];exact hz
 have hj:=HP hj
 have hlo : -(2 ^ 63)<=i:=hj.elim (λq=>iN (by decide) q.1) λq=>iN (iN (by decide) (Int.neg_le_neg hS')) (Vu q.2.1)
 have hhi:i<2 ^ 63:=hj.elim (λq=>Gh q.2.1 (iN hS' (by decide))) λq=>Int.lt_trans q.1 (by decide)
 rcases hat with hat | hat
 ·refine⟨⟨"list",_,slot_list_getitem.lookup,_,hat,rfl⟩,?_⟩
  rcases hj with ⟨h0,h1,rfl⟩ | ⟨h0,h1,rfl⟩
  ·exact wpAny_getItem_list ⟨_,hat,rfl,k,rfl⟩ h0 hhi hz' (d8 G hrz)
  ·exact wpAny_getItem_list_neg ⟨_,hat,rfl,k,rfl⟩ h0 (by rw [aT,hxl];exact Vu h1) hlo (by rw [aT,hxl];exact hz') (d8 G hrz)
 ·refine⟨⟨"tuple",_,tW.lookup,_,hat,rfl⟩,P.getItem_tuple hat hlo hhi ?_ hz' (d8 G hrz)⟩
  rw [aT,hxl]
  unfold seqIndex?
  rcases hj with ⟨h0,h1,rfl⟩ | ⟨h0,h1,rfl⟩
  ·simp only [if_neg (WE h0)]
   rw [if_pos (by simp;exact⟨h0,h1⟩)]
  ·simp only [if_pos h0]
   rw [if_pos (by simp;exact WD h1 h0)]
noncomputable def oA(a:Option Int)(n:Nat):Nat:=(a.map (jX · n)).getD 0
noncomputable def v9(b:Option Int)(n:Nat):Nat:=(b.map (jX · n)).getD n
theorem Co{i:Int}{n:Nat}(h:i<0):(jX i n:Int)=max 0 (i+n):=by
 unfold jX;rw [if_pos h];exact qC (Int.le_max_left 0 _)
theorem Cn{i:Int}{n:Nat}(h:¬i<0):(jX i n:Int)=yU i n:=by
 unfold jX;rw [if_neg h];exact qC (Int.le_min.mpr ⟨nW.mp h,gT n⟩)
theorem Hg{i:Int}{n:Nat}(h:i<0):i+n<=n:=iN (sV (DZ h n)) (Int.le_of_eq (Int.zero_add n))
theorem Ao(i:Int)(n:Nat):jX i n<=n:=iM.mp (by
 by_cases h:i<0
 ·rw [Co h];exact Int.max_le.mpr ⟨gT n,Hg h⟩
 ·rw [Cn h];exact Int.min_le_right _ _)
theorem Nj(a:Option Int)(n:Nat):oA a n<=n:=by cases a<;>first | exact bp _ | exact Ao _ _
theorem NA(a:Option Int)(n:Nat):v9 a n<=n:=by cases a<;>first | exact aF _ | exact Ao _ _
theorem pi(i:Int)(n:Nat):max 0 (yU (if i<0 then i+n else i) (n:Int))=(jX i n:Int):=by
 by_cases h:i<0
 ·rw [if_pos h,Co h,vT (Hg h)]
 ·rw [if_neg h,Cn h,JK (Int.le_min.mpr ⟨nW.mp h,gT n⟩)]
theorem iu{α:Type}(l:List α)(a b:Option Int):dH l a b=(l.drop (oA a l.length)).take (v9 b l.length-oA a l.length):=by
 have e1:∀i:Int,l.take (r6 i l.length)=l.take (jX i l.length):=λi=>by
  unfold r6 jX
  split
  ·congr 1;exact Vt
  ·rcases A7 i l.length with h | h
   ·rw [vT h]
   ·rw [JJ h,ft,tq,nN (by exact Vs h)]
 have e2:∀(t:List α) (i:Int),t.length<=l.length->t.drop (r6 i l.length)=t.drop (jX i l.length):=λt i ht=>by
  unfold r6 jX
  split
  ·congr 1;exact Vt
  ·rcases A7 i l.length with h | h
   ·rw [vT h]
   ·rw [JJ h,ft,fC ht,fC (by exact WC ht h)]
 have e:dH l a b=(l.take (v9 b l.length)).drop (oA a l.length):=by
  unfold dH v9 oA
  cases a<;>cases b<;>dsimp only [i8,Option.map_none,sj,FO]
  ·rw [tq];rfl
  ·exact e1 _
  ·rw [tq];exact e2 _ _ (aF _)
  ·rw [<-e1];exact e2 _ _ (by rw [cB];exact WB)
 rw [e,pI]
theorem Fz(a b:Option Int)(n:Nat):sliceBounds a b none n=((oA a n:Int),(v9 b n:Int),1):=by
 unfold sliceBounds oA v9
 simp only [FO]
 have h1:(1:Int)>0:=by decide
 simp only [if_pos h1]
 refine si ?_ (si ?_ rfl)
 ·cases a with
  | none=>rfl
  | some i=>exact pi i n
 ·cases b with
  | none=>rfl
  | some i=>exact pi i n
theorem Kh(xs:List af)(a b:Option Int):slicePick xs.toArray a b none=(dH xs a b).toArray:=by
 unfold slicePick
 rw [aT,Fz,iu]
 simp only
 rw [sliceRange_one,pick_run]
theorem a0.take:∀(k:Nat) {l:List PV} {xs:List af},a0 I ρ l xs->a0 I ρ (l.take k) (xs.take k)
 | 0,l,xs,h=>rfl
 | k+1,[],xs,h=>by cases h;rfl
 | k+1,p::l,xs,h=>by
  obtain⟨u,q,rfl,h1,h2⟩:=h
  exact⟨u,q.take k,rfl,h1,a0.take k h2⟩
theorem a0.slice{l:List PV}{xs:List af}(h:a0 I ρ l xs)(a b:Option Int):a0 I ρ (dH l a b) (dH xs a b):=by
 rw [iu,iu,h.length]
 exact a0.take _ (a0.drop _ h)
theorem jQ{α:Type}(l:List α)(a b:Option Int):(dH l a b).length<=l.length:=by
 rw [iu,cB,cR];exact WA
theorem Bo{α:Type}(l:List α)(a b:Option Int):∀x∈dH l a b,x∈l:=λx h=>by
 rw [iu]at h
 exact iz (iy h)
open PySem.Builtin PySem.Builtin.Str in
theorem Bi(x:LS)(a b:Option Int):(strSliceIndices a b 1 x.length).filterMap (x.toArray[·]?)=dH x a b/\(strSliceIndices a b 1 x.length).length=v9 b x.length-oA a x.length:=by
 have e:strSliceIndices a b 1 x.length=sliceRange (oA a x.length) (v9 b x.length) 1:=by
  unfold strSliceIndices
  have h1:(1:Int)>0:=by decide
  simp only [if_pos h1]
  have e1:(match a with | none=>(0:Int) | some i=>max 0 (yU (if i<0 then i+(x.length:Int)else i) (x.length:Int)))=(oA a x.length:Int):=by
   cases a with
   | none=>rfl
   | some i=>exact pi i x.length
  have e2:(match b with | none=>(x.length:Int) | some i=>max 0 (yU (if i<0 then i+(x.length:Int)else i) (x.length:Int)))=(v9 b x.length:Int):=by
   cases b with
   | none=>rfl
   | some i=>exact pi i x.length
  rw [<-e1,<-e2]
  cases a<;>cases b<;>rfl
 rw [e,sliceRange_one]
 refine⟨?_,by rw [ae,ia]⟩
 rw [pick_run,iu]
theorem qK{v:af}{c:Option Int}{Q:Option Int->ag->Prop}(h:Gf v c)(hq:Q c s):aq (aw pw w) A (Builtin.Slice.slicePartIndex v) Q E s:=by
 cases h with
 | none=>exact slicePart_none hq
 | int i t=>exact slicePart_int hq
theorem FE(a b:Option Int)(n:Nat):ky a b 1 (n:Int)=((oA a n:Int),(v9 b n:Int)):=by
 have cl:∀v:Int,(if v<0 then max (v+(n:Int)) 0 else yU v (n:Int))=(jX v n:Int):=λv=>by
  by_cases h:v<0
  ·rw [if_pos h,Co h,Int.max_comm]
  ·rw [if_neg h,Cn h]
 unfold ky
 have h1:¬(1:Int)<0:=by decide
 simp only [if_neg h1]
 refine si ?_ ?_
 ·cases a with
  | none=>rfl
  | some v=>exact cl v
 ·cases b with
  | none=>rfl
  | some v=>exact cl v
set_option tactic.hygienic true in
theorem Ew(a b:Option Int)(n:Nat):gX (oA a n:Int) (v9 b n:Int) 1=v9 b n-oA a n:=by
 unfold gX
 have h1:(1:Int)>0:=by decide
 simp only [if_pos h1]
 split
 ·rw [Int.ediv_one];exact Wz
 ·next h=>exact(kg (iM.mp (nW.mp h))).symm
theorem pG{t sl:aB}{xs:List af}{k:Nat}{va vb:af}{ca cb:Option Int}{Q:af->ag->Prop}(ht:s.heap.get? t=some (mY xs.toArray k))(hs:s.heap.IsSliceOf sl va vb .none)(pa:Gf va ca)(pb:Gf vb cb)
  (h1:dH xs ca cb=xs->Q (.ref t) s)(h2:Q (.ref s.heap.objs.size) { s with heap:=s.heap.push { cls:=.type "tuple",data:=.seq (dH xs ca cb).toArray } })(hsz:xs.length<=mO) :
  aq (aw pw w) A (lw (.ref t) (.ref sl)) Q E s:=by
 have htt:IsTup s.heap t xs.toArray:=⟨_,ht,rfl,k,rfl⟩
 obtain⟨os,hos,hcs,hds⟩:=id hs
 have hTs:s.TypeIs (.ref sl) "slice":=⟨os,hos,hcs⟩
 have hok:sizeOk (.seq (dH xs ca cb).toArray):=by
  show(dH xs ca cb).toArray.size<=mO
  rw [aT]
  exact ah (jQ xs ca cb) hsz
 have happ:∀{A':bD} {Q':Int × Int × Nat->ag->Prop} {E':af->ag->Prop},Q' ((oA ca xs.length:Int),1,v9 cb xs.length-oA ca xs.length) s->aq (aw pw w) A' (qD (.ref sl) (b8 ((xs.toArray.size:Nat):Int))) Q' E' s:=by
  intro A' Q' E' hq
  unfold qD Builtin.Slice.sliceFields
  refine aa (aa (rE hos hds (x:=va) rfl (aa (rE hos hds (x:=vb) rfl (aa (rE hos hds (x:=.none) rfl (ab ?_)))))))
  refine aa (slicePart_none ?_)
  show aq _ _ (if((1:Int)==0)=true then _ else _) _ _ s
  rw [if_neg (by decide)]
  refine aa (qK pa (aa (qK pb (aa (ab ?_)))))
  show aq _ _ (match ky ca cb 1 ((xs.toArray.size:Nat):Int)with | (lo,hi)=>b8 (lo,(1:Int),gX lo hi 1)) _ _ s
  rw [aT,FE]
  show aq _ _ (b8 ((oA ca xs.length:Int),(1:Int),gX (oA ca xs.length:Int) (v9 cb xs.length:Int) 1)) _ _ s
  rw [Ew]
  exact ab hq
 have hpick:((cM (v9 cb xs.length-oA ca xs.length)).filterMap λ(k:Nat)=>xs.toArray[((oA ca xs.length:Int)+(k:Int)*1).toNat]?)=dH xs ca cb:=by
  have e:(λ(k:Nat)=>xs.toArray[((oA ca xs.length:Int)+(k:Int)*1).toNat]?)=λk=>xs.toArray[oA ca xs.length+k]? := by
   funext k
   have:((oA ca xs.length:Int)+(k:Int)*1).toNat=oA ca xs.length+k:=by exact Wy
   rw [this]
  rw [e]
  have q:=pick_run xs.toArray (oA ca xs.length) (v9 cb xs.length-oA ca xs.length)
  rw [List.filterMap_map]at q
  rw [iu]
  exact q
 unfold lw
 try with_reducible refine aY ?_
 first | refine aa (ab ?_) | skip
 refine aa (wpAny_sequenceKey htt.typeIs (by decide) ?_)
 refine aa (gN (name:=em "__getitem__") htt.typeIs slot_tuple_getitem
  (ei slot_tuple_getitem htt.typeIs entry_tuple_getitem ?_ (args_tuple_getitem _ _)))
 show aq _ _ (Builtin.Tuple.tupleItemsOf (.ref t)>>=_) _ _ s
 refine aa (tupleItemsOf_ htt ?_)
 refine aa (ki hTs ?_)
 rw [if_pos (by decide)]
 refine aa (happ ?_)
 show aq _ _ (if((oA ca xs.length:Int)==0&&(1:Int)==1&&(v9 cb xs.length-oA ca xs.length)==xs.toArray.size)=true then _ else _) _ _ s
 have made:∀{A':bD},aq (aw pw w) A' (do let r <-ib ((cM (v9 cb xs.length-oA ca xs.length)).filterMap λ(k:Nat)=>xs.toArray[((oA ca xs.length:Int)+(k:Int)*1).toNat]?).toArray;ret r)
   (λfin s'=>∃v,fin = .done (.ret v)/\aq (aw pw w) A (b8 v) Q E s') E s:=by
  intro A'
  rw [hpick]
  exact aa (m:=ib _) (ce (ab ⟨_,rfl,ab h2⟩) hok)
 by_cases hc:((oA ca xs.length:Int)==0&&(1:Int)==1&&(v9 cb xs.length-oA ca xs.length)==xs.toArray.size)=true
 ·rw [if_pos hc]
  have hw:dH xs ca cb=xs:=by
   simp only [bd,beq_iff_eq,aT]at hc
   rw [iu]
   have h0:oA ca xs.length=0:=t8 hc.1.1
   have h1:v9 cb xs.length-oA ca xs.length=xs.length:=hc.2
   rw [h0,jI]
   exact nN (ah (az h1.symm) (fu _ _))
  refine aa (m:=Builtin.Tuple.tupleIsExact _) (aa (ki htt.typeIs (ab ?_)))
  exact aa (iX (ab ⟨_,rfl,ab (h1 hw)⟩))
 ·rw [if_neg hc]
  exact made
end
noncomputable def Jg(H0:Bs)(w:bG)(n:Nat)(cx:Cx)(e:Option Expr)(σ:br)(R:List aN)(i:Option Int)(R':List aN):Prop:=
 ∀(A:bD) (E:af->ag->Prop) (I:dB) (ρ:dI) (env:d7) (s:ag),cE H0 A (n+1)->Gd H0 I ρ R s.heap->b5 I ρ cx σ env s.heap ->
  aq (aw pw w) A (evalPart e env) (λu s'=>∃I' ρ',a9 H0 eg I ρ s I' ρ' R' s'/\Gf u i) E s
section
variable {H0:Bs} {w:bG} {n m:Nat} {sp:Spec} {I I' I'':dB} {ρ ρ' ρ'':dI} {R R' R'' R1 R2 R3:List aN} {cx:Cx} {σ σ' σ1 σ2:br} {env:d7} {A:bD} {E:af->ag->Prop} {s s' s'':ag} {e l r t:Expr} {v:PV} {f:Fl} {X Y Z:aB->Prop}
theorem H9:Jg H0 w n cx none σ R none R:=λA E I ρ env s hR G O=>ab ⟨I,ρ,a9.self G m6,IsPart.none⟩
theorem H8{i:Int}(h:dP H0 w n cx e σ R (.int i) R1):Jg H0 w n cx (some e) σ R (some i) R1:=by
 intro A E I ρ env s hR G O
 rw [evalPart_some]
 refine h.then hR G O λI1 ρ1 u s1 x1 hu O1 G1=>?_
 obtain⟨t,rfl⟩:=hu
 exact⟨I1,ρ1,x1,IsPart.int i t⟩
theorem xD{ve:Expr}{x:PV}{u:af}(h:(cL ve||mh x)=true)(hu:cn I ρ x u)(r:af):iY ve u r=b8 ():=by
 rw [fT]at h
 rcases h with h | h
 ·cases ve<;>first | rfl | cases h
 ·cases x with
  | str l=>
   obtain⟨_,_,t,rfl⟩:=hu
   cases ve<;>rfl
  | _=>cases h
set_option tactic.hygienic true in
theorem D7{x:LS}{t:vR}{sl:aB}{va vb:af}{ca cb:Option Int}{Q:af->ag->Prop}(hs:s.heap.IsSliceOf sl va vb .none)(pa:Gf va ca)(pb:Gf vb cb)(hx:x.length<=SZ)
  (h:∀t' k,Q (.str (S (dH x ca cb)) t') { s with toks:=k }):aq (aw pw w) A (lw (.str (S x) t) (.ref sl)) Q E s:=by
 obtain⟨l,hl,hl'⟩:∃l:Option (Int × vR),va=partValue l/\l.map (·.1)=ca:=by
  cases pa with
  | none=>exact⟨none,rfl,rfl⟩
  | int i t=>exact⟨some (i,t),rfl,rfl⟩
 obtain⟨q,hq,hq'⟩:∃l:Option (Int × vR),vb=partValue l/\l.map (·.1)=cb:=by
  cases pb with
  | none=>exact⟨none,rfl,rfl⟩
  | int i t=>exact⟨some (i,t),rfl,rfl⟩
 obtain⟨o,h1,h2,h3⟩:=hs
 refine wpAny_getItem_str_slice (l:=l) (u:=q) (st:=none) ⟨o,h1,h2,by rw [h3,hl,hq];rfl⟩ rfl ?_
 unfold sliceMade slicePicked
 have hp:=Bi x ca cb
 rw [hl',hq',dW]
 show Made.post (if((1:Int)==1&&(_:List Nat).length==x.length)=true then _ else _) Q s
 have e1:=hp.1
 have e2:=hp.2
 split
 ·rename_i hc
  simp only [bd,beq_iff_eq]at hc
  have hw:dH x ca cb=x:=by
   have:=hc.2
   rw [iu]
   have e3:v9 cb x.length-oA ca x.length=x.length:=e2.symm.trans this
   have h0:oA ca x.length=0:=by have g1:=NA cb x.length;have g2:=Nj ca x.length;exact Wx e3 g1 g2
   rw [h0,jI]
   exact nN (by exact Ww e3)
  have:=h t s.toks
  rw [hw]at this
  exact this
 ·refine⟨?_,?_⟩
  ·show(F6 _).length<=mO
   have:(S (dH x ca cb)).length<=mO:=by rw [dW];exact gd (ah (jQ x ca cb) hx)
   rw [<-e1]at this
   exact this
  ·have:=h s.toks (s.toks+1)
   rw [<-e1]at this
   exact this
theorem Ie{ve:Expr}{x:PV}{a b:Option Expr}{i j:Option Int}{p pos:dS}(h1:dP H0 w n cx ve σ R x R1)(hg:(cL ve||mh x)=true)(h2:Jg H0 w n cx a σ R1 i R2)(h3:Jg H0 w n cx b σ R2 j R3)(hv:GE x i j=some v) :
  dP H0 w n cx (.Subscript ve (.Slice a b none p) pos) σ R v R3:=by
 intro A E I ρ env s hR G O
 refine ww (h1.then hR G O λI1 ρ1 u s1 x1 hu O1 G1=>wpAny_Slice (ar (h2 A E I1 ρ1 env s1 hR G1 O1) (λva s2 q2=>?_) λζ ζ e=>e))
 obtain⟨I2,ρ2,x2,pa⟩:=q2
 have O2:=O1.step x2
 refine ar (h3 A E I2 ρ2 env s2 hR x2.good O2) (λvb s3 q3=>?_) λζ ζ e=>e
 obtain⟨I3,ρ3,x3,pb⟩:=q3
 rw [evalPart_none]
 refine ab ?_
 have x13:=(x1.trans G x2).trans G x3
 have hu3:=(hu.le x2).le x3
 generalize hs4:({ s3 with heap:=s3.heap.push { cls:=.type "slice",data:=.fields #[va,vb,.none] } }:ag)=s4
 have x4:a9 H0 eg I3 ρ3 s3 I3 ρ3 R3 s4:=by
  rw [<-hs4]
  exact a9.quiet x3.good m6 (λa o ζ e=>au _ e) (λζ h=>h.elim) rfl rfl
 have hsl:s4.heap.IsSliceOf s3.heap.objs.size va vb .none:=by rw [<-hs4];exact Heap.IsSliceOf.new ..
 have G4:=x4.good
 have x14:=x13.trans G x4
 have fin:∀{u':af} {s5:ag},fP H0 I3 ρ3 s4 v R3 u' s5->fP H0 I ρ s v R3 u' s5:=λq=>fP.mono_ G x14 q
 cases x with
 | str xx=>
  cases hv
  have hu4:=hu3
  obtain⟨g1,g2,t,rfl⟩:=hu4
  refine⟨"str",_,PySem.F.slot_str_getitem.lookup,kU _ _ t,xD hg hu3,am rfl,?_⟩
  exact D7 hsl pa pb g1 λt' k=>fin (qT G4 (ah (jQ _ _ _) g1) (xL (Bo _ _ _) g2) k)
 | list xx=>
  cases hv
  have hu4:=hu3
  obtain⟨g1,ad,xs,k,rfl,g2,g3⟩:=hu4
  have hat:=G4.imm _ _ g2
  refine⟨"list",_,list_getitem_lookup,⟨_,hat,rfl⟩,xD hg hu3,am rfl,?_⟩
  refine wpAny_getItem_list_slice ⟨_,hat,rfl,k,rfl⟩ hsl pa pb .none (by simp) ?_ (by rw [aT,g3.length];exact gd g1)
  rw [Kh]
  exact fin (iP G4 (g3.slice i j) (ah (jQ _ _ _) g1) _)
 | tup xx=>
  cases hv
  have hu4:=hu3
  obtain⟨g1,ad,xs,k,rfl,g2,g3⟩:=hu4
  have hat:=G4.imm _ _ g2
  refine⟨"tuple",_,tW.lookup,⟨_,hat,rfl⟩,xD hg hu3,am rfl,?_⟩
  refine pG hat hsl pa pb (λhw=>?_) ?_ (by rw [g3.length];exact gd g1)
  ·refine fin (d8 G4 ?_)
   have:=g3.slice i j
   rw [hw]at this
   exact⟨ah (jQ _ _ _) g1,ad,xs,k,rfl,g2,this⟩
  ·exact fin (ju G4 (g3.slice i j) (ah (jQ _ _ _) g1) _)
 | _=>cases hv
theorem K8{ve ie:Expr}{x:PV}{i:Int}{pos:dS}(h1:dP H0 w n cx ve σ R x R1)(hg:(cL ve||mh x)=true)(h2:dP H0 w n cx ie σ R1 (.int i) R2)(hv:wY R2 x i=some v)
  (hs:∀o i,lz ie false o i=vL [o,i] (lw o i)):dP H0 w n cx (.Subscript ve ie pos) σ R v R2:=by
 intro A E I ρ env s hR G O
 refine ww (h1.then hR G O λI1 ρ1 u s1 x1 hu O1 G1=>h2.then hR G1 O1 λI2 ρ2 y s2 x2 hy O2 G2=>?_)
 have hu2:=hu.le x2
 obtain⟨⟨T,id,hl,hT⟩,hget⟩:=KH (w:=w) (A:=A) (E:=E) G2 hv hu2 hy
 exact⟨T,id,hl,hT,xD hg hu2,av (hs _ _),ar hget (λu s' q=>fP.mono_ G (x1.trans G x2) q) λζ ζ e=>e⟩
end
end
end Mine
end
section
namespace Mine
theorem gh(c:Nat):∀l:LS,aQ c l≠[]:=by
 intro l
 induction l with
 | nil=>
  simp [aQ]
 | cons x r ih=>
  rw [cy]
  split
  ·simp
  ·split<;>simp
theorem pN(c:Nat):∀(ps:List LS),ps≠[]->(∀p∈ps,c ∉ p)->aQ c (cj [c] ps)=ps
 | [],h,_=>absurd rfl h
 | [p],_,hf=>by
  have hp:=hf p aj
  show aQ c p=[p]
  clear hf
  induction p with
  | nil=>rfl
  | cons x r ih=>
   simp only [ay,not_or]at hp
   rw [cy]
   rw [if_neg (λe=>hp.1 e.symm),ih (by simp) hp.2]
 | p::q::t,_,hf=>by
  have ih:=pN c (q::t) (by simp) λz hz=>hf z (an _ hz)
  have hp:=hf p aj
  show aQ c (p++[c]++cj [c] (q::t))=_
  clear hf
  induction p with
  | nil=>
   show aQ c (c::cj [c] (q::t))=_
   rw [cy]
   rw [if_pos rfl,ih]
  | cons x r ih2=>
   simp only [ay,not_or]at hp
   have:=ih2 (by simp) hp.2
   show aQ c (x::(r++[c]++cj [c] (q::t)))=_
   rw [cy]
   rw [if_neg (λe=>hp.1 e.symm),this]
set_option tactic.hygienic true in
theorem Bv(c:Nat)(b:LS):∀l:LS,dN c b l=cj b (aQ c l):=by
 intro l
 induction l with
 | nil=>
  exact rfl
 | cons x r ih=>
  have ih:=ih
  rw [cy]
  unfold dN at *
  rw [jH]
  split
  ·rename_i h
   subst h
   cases e:aQ x r with
   | nil=>exact absurd e (gh x r)
   | cons h t=>
    rw [ih,e]
    rfl
  ·rename_i hx
   cases e:aQ c r with
   | nil=>exact absurd e (gh c r)
   | cons h t=>
    rw [ih,e]
    simp only
    cases t with
    | nil=>rfl
    | cons h2 t2=>rfl
theorem xk(a b:LS):(⟨a.toArray⟩:Str)++⟨b.toArray⟩=⟨(a++b).toArray⟩:=by
 show F6 (a.toArray++b.toArray)=F6 (a++b).toArray
 simp
theorem xY(sep:LS):∀ps:List LS,Str.join ⟨sep.toArray⟩ (ps.map λp=>⟨p.toArray⟩)=⟨(cj sep ps).toArray⟩
 | []=>rfl
 | [p]=>rfl
 | p::q::t=>by
  have ih:=xY sep (q::t)
  show(⟨p.toArray⟩:Str)++⟨sep.toArray⟩++Str.join ⟨sep.toArray⟩ ((q::t).map λp=>⟨p.toArray⟩)=⟨(p++sep++cj sep (q::t)).toArray⟩
  rw [ih,xk,xk]
theorem Mm{a b:LS}(h:(⟨a.toArray⟩:Str)=⟨b.toArray⟩):a=b:=by
 injection h with h
 simpa using h
theorem xH(c:Nat)(x:LS):AF ⟨x.toArray⟩ ⟨#[c]⟩=(aQ c x).map λp=>⟨p.toArray⟩:=by
 have hj:=StrLaws.join_split ⟨x.toArray⟩ ⟨#[c]⟩
 have hf:=StrLaws.split_free ⟨x.toArray⟩ c
 have hp:=split_pos ⟨x.toArray⟩ ⟨#[c]⟩
 generalize AF ⟨x.toArray⟩ ⟨#[c]⟩=T at *
 have e:T=(T.map λp=>p.cps.toList).map λp=>(⟨p.toArray⟩:Str):=by
  rw [aG]
  symm
  rw [bf (g:=id) (λa ζ=>by cases a;simp)]
  exact ms _
 rw [e]at hj
 have hs:(⟨#[c]⟩:Str)=⟨([c]:LS).toArray⟩:=rfl
 rw [hs,xY]at hj
 have hx:=Mm hj
 rw [e,<-hx,pN c _ (by intro h;have:=congrArg bY h;simp at this;rw [this]at hp;simp at hp) (λp hp=>by
  obtain⟨q,hq,rfl⟩:=aH.mp hp
  exact hf q hq)]
end Mine
end
section
open PySem PySem.W PyProof.Rows PySem.Spec
namespace Mine
noncomputable section
section
variable {H0:Bs} {w:bG} {n m:Nat} {sp:Spec} {I I' I'':dB} {ρ ρ' ρ'':dI} {R R' R'' R1 R2 R3:List aN} {cx:Cx} {σ σ' σ1 σ2:br} {env:d7} {A:bD} {E:af->ag->Prop} {s s' s'':ag} {e l r t o:Expr} {v:PV} {f:Fl} {X Y Z:aB->Prop}
open PySem.Builtin PySem.Builtin.Str in
theorem Ow(x p:LS)(i:Nat):subAt (S x) (S p) i=((x.drop i).take p.length==p):=by
 rw [StrLaws.subAt_eq,dW]
open PySem.Builtin PySem.Builtin.Str in
theorem GU:∀(ps:List LS) (k:Nat),(∀p∈ps,p.length<=SZ/\jb p=true)->a0 I ρ (ps.map PV.str) (strsFrom k (ps.map S)):=by
 intro ps
 induction ps with
 | nil=>
  intro k _
  rfl
 | cons p ps ih=>
  intro k h
  exact⟨_,_,rfl,oU (h p aj).1 (h p aj).2,ih _ λq hq=>h q (an _ hq)⟩
theorem D9(c:Nat)(x:LS):∀p∈aQ c x,∀z∈p,z∈x:=by
 induction x with
 | nil=>intro p hp z hz;simp [aQ]at hp;subst hp;cases hz
 | cons y r ih=>
  intro p hp z hz
  rw [cy]at hp
  split at hp
  ·rcases ay.mp hp with h | h
   ·subst h;cases hz
   ·exact an _ (ih p h z hz)
  ·cases e:aQ c r with
   | nil=>exact absurd e (gh c r)
   | cons h1 t=>
    rw [e]at hp ih
    simp only at hp
    rcases ay.mp hp with h | h
    ·subst h
     rcases ay.mp hz with h | h
     ·subst h;exact aj
     ·exact an _ (ih h1 aj z h)
    ·exact an _ (ih p (an _ h) z hz)
theorem Bk(c:Nat)(x:LS):∀p∈aQ c x,p.length<=x.length:=by
 induction x with
 | nil=>intro p hp;simp [aQ]at hp;subst hp;exact aF _
 | cons y r ih=>
  intro p hp
  rw [cy]at hp
  split at hp
  ·rcases ay.mp hp with h | h
   ·subst h;exact bp _
   ·have:=ih p h;simp only [ao];exact Oh this
  ·cases e:aQ c r with
   | nil=>exact absurd e (gh c r)
   | cons h1 t=>
    rw [e]at hp ih
    simp only at hp
    rcases ay.mp hp with h | h
    ·subst h
     have:=ih h1 aj
     simp only [ao];exact LW this
    ·have:=ih p (an _ h);simp only [ao];exact Oh this
theorem Ff{apos pos:dS}{x p:LS}(h1:dP H0 w n cx o σ R (.str x) R1)(h2:dP H0 w n cx e σ R1 (.str p) R2)(hbase:∀env:d7,fI o "startswith" env (ej o env)=ej o env)(hs:∀env:d7,bU [e] env=[(false,ej e env)])(hline:(apos.endLine==pos.line)=true) :
  dP H0 w n cx (.Call (.Attribute o "startswith" apos) [e] [] pos) σ R (.bool (decide (p.length<=x.length)&&(x.take p.length==p))) R2:=by
 intro A E I ρ env s hR G O
 refine qd (hbase env) (hs env) hline (h1.then hR G O λI1 ρ1 u s1 x1 hu O1 G1=>hu.str_el λt ζ ζ=>SB.startswith (h2.then hR G1 O1 λI2 ρ2 y s2 x2 hy O2 G2=>hy.str_el λt2 ζ ζ=>⟨_,_,rfl,I2,ρ2,x1.trans G x2,?_⟩))
 show _=dT _
 unfold Txt.startswith
 rw [Ow,dW,dW,eo,jI]
theorem K9{apos pos:dS}{x p:LS}(h1:dP H0 w n cx o σ R (.str x) R1)(h2:dP H0 w n cx e σ R1 (.str p) R2)(hbase:∀env:d7,fI o "endswith" env (ej o env)=ej o env)(hs:∀env:d7,bU [e] env=[(false,ej e env)])(hline:(apos.endLine==pos.line)=true) :
  dP H0 w n cx (.Call (.Attribute o "endswith" apos) [e] [] pos) σ R (.bool (decide (p.length<=x.length)&&((x.drop (x.length-p.length)).take p.length==p))) R2:=by
 intro A E I ρ env s hR G O
 refine qd (hbase env) (hs env) hline (h1.then hR G O λI1 ρ1 u s1 x1 hu O1 G1=>hu.str_el λt ζ ζ=>SB.endswith (h2.then hR G1 O1 λI2 ρ2 y s2 x2 hy O2 G2=>hy.str_el λt2 ζ ζ=>⟨_,_,rfl,I2,ρ2,x1.trans G x2,?_⟩))
 show _=dT _
 unfold Txt.endswith
 rw [Ow,dW,dW,eo]
theorem D8{c:Nat}{x:LS}(h:AF (S x) (S [c])=[S x]):aQ c x=[x]:=by
 have h3:(aQ c x).map S=[S x]:=(xH c x).symm.trans h
 cases e5:aQ c x with
 | nil=>exact absurd e5 (gh c x)
 | cons a q=>
  rw [e5]at h3
  obtain⟨q1,q2⟩:=jJ h3
  rw [bP.mp q2,Mm q1]
open PySem.Builtin PySem.Builtin.Str in
theorem Ab{apos pos:dS}{x:LS}{c:Nat}(h1:dP H0 w n cx o σ R (.str x) R1)(h2:dP H0 w n cx e σ R1 (.str [c]) R2)(hl:((aQ c x).map PV.str).length<=SZ)(hbase:∀env:d7,fI o "split" env (ej o env)=ej o env)(hs:∀env:d7,bU [e] env=[(false,ej e env)])(hline:(apos.endLine==pos.line)=true) :
  dP H0 w n cx (.Call (.Attribute o "split" apos) [e] [] pos) σ R (.list ((aQ c x).map .str)) R2:=by
 intro A E I ρ env s hR G O
 refine qd (hbase env) (hs env) hline (h1.then hR G O λI1 ρ1 u s1 x1 hu O1 G1=>hu.str_el λt g1 g2=>?_)
 refine⟨"str",_,mT,xo,PySem.F.type_str_split,kU _ _ _,(λζ e=>nomatch e),method1_meets xo PySem.F.entry_str_split (h2.then hR G1 O1 λI2 ρ2 y s2 x2 hy O2 G2=>hy.str_el λt2 ζ ζ=>⟨kU _ _ _,PySem.F.args_str_split_2 _ _,?_⟩)⟩
 have x12:=x1.trans G x2
 have one:∀tk,AF (S x) (S [c])=[S x]->fP H0 I ρ s (.list ((aQ c x).map PV.str)) R2 (.ref s2.heap.objs.size) { s2 with heap:=s2.heap.push { cls:=.type "list",data:=.seq [iF (S x) t].toArray },toks:=tk }:=λtk he=>
  D8 he▸fP.mono_ G x12 (iP G2 (a0.cons (oU g1 g2) a0.nil) (show 1<=SZ by decide) tk)
 have y1:((S [c]).length==0)=false:=rfl
 cases q1:(decide ((S x).length<(S [c]).length)||decide (strKind (S x)<strKind (S [c])))with
 | true=>exact⟨_,meets_str_split_cannot_occur (S x) (S [c]) t t2 q1,one _ (if_pos q1)⟩
 | false=>
  have q1':=λh=>aX (q1.symm.trans h)
  cases q2:(occurrences (S x) (S [c]) 0 (S x).length ((S x).length+1)).isEmpty with
  | true=>exact⟨_,meets_str_split_not_found (S x) (S [c]) t t2 q1 y1 q2,one _ ((if_neg q1').trans (if_pos q2))⟩
  | false=>
   have hT2:partsBetween (S x) (occurrences (S x) (S [c]) 0 (S x).length ((S x).length+1)) (S [c]).length=(aQ c x).map S:=((if_neg q1').trans (if_neg λh=>aX (q2.symm.trans h))).symm.trans (xH c x)
   refine⟨_,meets_str_split_sep (S x) (S [c]) t t2 q1 y1 q2 (by rw [dW];exact gd g1) (by rw [hT2,ae];exact gd (ae (f:=PV.str)▸hl)),?_⟩
   rw [hT2]
   exact fP.mono_ G x12 (iP G2 (GU _ _ λp hp=>⟨ah (Bk c x p hp) g1,xL (D9 c x p hp) g2⟩) hl _)
theorem Ih{name:Str}{apos pos:dS}{x:LS}{v:PV}(h1:dP H0 w n cx o σ R (.str x) R1)(h2:dP H0 w n cx e σ R1 v R2)
  (hbase:∀a,∀env:d7,fI o a env (ej o env)=ej o env)(hs:∀env:d7,bU [e] env=[(false,ej e env)])(hline:(apos.endLine==pos.line)=true) :
  aA (λr=>dP H0 w n cx (.Call (.Attribute o name apos) [e] [] pos) σ R r R2) (xG x name [v]):=
 oS (C:=λv y=>dP H0 w n cx e σ R1 v R2->aA (λr=>dP H0 w n cx (.Call (.Attribute o name apos) [e] [] pos) σ R r R2) y) v (λζ ζ=>aA.none) (λp h2=>aA.bif (λq=>aJ q▸aA.some (Ff h1 h2 (hbase _) hs hline)) λζ=>aA.bif (λq=>aJ q▸aA.some (K9 h1 h2 (hbase _) hs hline)) λζ=>
  aA.grd λq=>aJ q▸fx (C:=λp y=>dP H0 w n cx e σ R1 (.str p) R2->aA (λr=>dP H0 w n cx (.Call (.Attribute o "split" apos) [e] [] pos) σ R r R2) y) p (λζ ζ=>aA.none) (λc h2=>aA.mkL λhl=>Ab h1 h2 hl (hbase _) hs hline) h2) h2
theorem xF:∀{l:List PV} {xs:List af} {ss:List LS},a0 I ρ l xs->fg l=some ss->∃lt:List (Str × vR),xs=bc lt/\lt.map (·.1)=ss.map S/\(∀p∈ss,p.length<=SZ/\jb p=true):=by
 intro l
 induction l with
 | nil=>
  intro xs ss h e
  cases h
  have:ss=[]:=by simpa [fg] using e.symm
  subst this
  exact⟨[],rfl,rfl,λp hp=>nomatch hp⟩
 | cons p l ih=>
  intro xs ss h e
  obtain⟨u,q,rfl,h1,h2⟩:=h
  unfold fg at e
  rw [gB]at e
  cases p with
  | str x=>
   obtain⟨g1,g2,t,rfl⟩:=h1
   cases hq:l.mapM pS with
   | none=>rw [hq]at e;cases e
   | some qs=>
    rw [hq]at e
    have e:ss=x::qs:=by simpa [pS] using e.symm
    subst e
    obtain⟨lt,k1,k2,k3⟩:=ih h2 hq
    refine⟨(S x,t)::lt,by rw [k1];rfl,by simp [k2],λp hp=>?_⟩
    rcases ay.mp hp with hp | hp
    ·subst hp;exact⟨g1,g2⟩
    ·exact k3 p hp
  | _=>cases e
theorem zt(sep:LS)(hs:jb sep=true):∀ps:List LS,(∀p∈ps,jb p=true)->jb (cj sep ps)=true
 | [],_=>rfl
 | [p],h=>h p aj
 | p::q::t,h=>by
  show jb (p++sep++cj sep (q::t))=true
  exact lb (lb (h p aj) hs) (zt sep hs (q::t) λz hz=>h z (an _ hz))
theorem Fk{k:Nat}{l0 l1:List PV}{apos pos:dS}(h1:dP H0 w n cx o σ R (.obj k) R1)(hk1:R1[k]? = some (.lst l0))(h2:dP H0 w n cx e σ R1 v R2)(hk:R2[k]? = some (.lst l1))(hl:l1.length<SZ)
  (hbase:∀env:d7,fI o "append" env (ej o env)=ej o env)(hs:∀env:d7,bU [e] env=[(false,ej e env)])(hline:(apos.endLine==pos.line)=true) :
  dP H0 w n cx (.Call (.Attribute o "append" apos) [e] [] pos) σ R .none (R2.set k (.lst (l1++[v]))):=by
 intro A E I ρ env s hR G O
 refine qd (hbase env) (hs env) hline (h1.then hR G O λI1 ρ1 u s1 x1 hu O1 G1=>?_)
 obtain⟨p,hp,rfl,_,hp2,xs0,n0,hat0,_⟩:=rN G1 hk1 hu
 refine⟨"list",_,wo,slot_list_append,type_list_append,⟨_,hat0,rfl⟩,(λa ha=>by cases ha;exact⟨_,hat0,rfl⟩),
  seqMethod1_meets slot_list_append entry_list_append (h2.then hR G1 O1 λI2 ρ2 y s2 x2 hy O2 G2=>?_)⟩
 obtain⟨d,hd⟩:=x2.pre
 have hp':ρ2[k]? = some p:=by
  rw [hd,eG (eF.mp hp).1];exact hp
 obtain⟨g1,g2,xs,n1,g3,g4⟩:=G2.recs k p _ hp' hk
 have hxl:=g4.length
 refine⟨⟨_,g3,rfl⟩,args_list_append _ _,_,list_append p.1 xs.toArray n1 y (by rw [aT,hxl];exact gd g1),g3,?_⟩
 have hup:=IsL.update g3 (λx=>x.push y)
 have e1:xs.toArray.push y=(xs++[y]).toArray:=by simp
 have x3:a9 H0 eg I2 ρ2 s2 I2 ρ2 (R2.set k (.lst (l1++[v]))) { s2 with heap:=s2.heap.update p.1 (bC λx=>x.push y),toks:=s2.toks }:=by
  refine a9.write G2 hp' hk (λh=>nomatch h) (λb o hb ζ e=>(aD s2.heap _ (dg hb)).trans e) ?_ ?_ rfl rfl
  ·obtain⟨n9,hup9⟩:∃n9,(s2.heap.update p.1 (bC λx=>x.push y)).get? p.1=some (cD (xs++[y]).toArray n9):=⟨_,by rw [<-e1];exact hup⟩
   refine⟨by rw [ai,oL];exact hl,g2,xs++[y],n9,hup9,g4.append ?_⟩
   exact⟨y,[],rfl,hy,rfl⟩
  ·have:(s2.heap.update p.1 (bC λx=>x.push y)).get? p.1≠none:=by rw [hup];exact λh=>nomatch h
   exact⟨this,by rw [g2];exact this⟩
 exact⟨I2,ρ2,(x1.trans G x2).trans G x3,oi⟩
theorem N1{k:Nat}{l1:List PV}{apos pos:dS}(h1:dP H0 w n cx o σ R (.obj k) R1)(hk:R1[k]? = some (.lst l1))(hv:l1.getLast? = some v)
  (hbase:∀env:d7,fI o "pop" env (ej o env)=ej o env)(hline:(apos.endLine==pos.line)=true) :
  dP H0 w n cx (.Call (.Attribute o "pop" apos) [] [] pos) σ R v (R1.set k (.lst l1.dropLast)):=by
 intro A E I ρ env s hR G O
 refine Call_method0 (hbase env) hline (h1.then hR G O λI1 ρ1 u s1 x1 hu O1 G1=>?_)
 obtain⟨p,hp,rfl,g1,g2,xs,n1,g3,g4⟩:=rN G1 hk hu
 have hxl:=g4.length
 have hne:l1≠[]:=λh=>by rw [h]at hv;cases hv
 have hpos:0<l1.length:=b6.mpr hne
 have hlast:l1[l1.length-1]? = some v:=by rw [<-List.getLast?_eq_getElem?];exact hv
 obtain⟨y,hy,hry⟩:=g4.at hlast
 refine⟨"list",_,wo,PySem.F.slot_list_pop,PySem.F.type_list_pop,⟨_,g3,rfl⟩,(λa ha=>by cases ha;exact⟨_,g3,rfl⟩),
  P.pop_list g3 (y:=y) (by rw [aT,hxl,bV];exact hy) ?_ (by rw [aT,hxl];exact gd g1)⟩
 have hup:=IsL.update g3 (λys=>ys.eraseIdxIfInBounds (xs.toArray.size-1))
 have e1:xs.toArray.eraseIdxIfInBounds (xs.toArray.size-1)=xs.dropLast.toArray:=by
  rw [aT,List.eraseIdxIfInBounds_toArray]
  congr 1
  exact List.eraseIdx_length_sub_one
 obtain⟨n9,hup9⟩:∃n9,(s1.heap.update p.1 (bC λys=>ys.eraseIdxIfInBounds (xs.toArray.size-1))).get? p.1=some (cD xs.dropLast.toArray n9):=⟨_,by rw [<-e1];exact hup⟩
 have hdl:a0 I1 ρ1 l1.dropLast xs.dropLast:=by
  rw [hH,hH,hxl]
  exact a0.take _ g4
 have x3:a9 H0 eg I1 ρ1 s1 I1 ρ1 (R1.set k (.lst l1.dropLast)) { s1 with heap:=s1.heap.update p.1 (bC λys=>ys.eraseIdxIfInBounds (xs.toArray.size-1)) }:=by
  refine a9.write G1 hp hk (λh=>nomatch h) (λb o hb ζ e=>(aD s1.heap _ (dg hb)).trans e) ?_ ?_ rfl rfl
  ·exact⟨by rw [CU];exact Wv g1,g2,xs.dropLast,n9,hup9,hdl⟩
  ·have:(s1.heap.update p.1 (bC λys=>ys.eraseIdxIfInBounds (xs.toArray.size-1))).get? p.1≠none:=by rw [hup9];exact λh=>nomatch h
   exact⟨this,by rw [g2];exact this⟩
 exact⟨I1,ρ1,x1.trans G x3,hry⟩
theorem K7{x:LS}{l:List PV}{ss:List LS}{apos pos:dS}(h1:dP H0 w n cx o σ R (.str x) R1)(h2:dP H0 w n cx e σ R1 v R2)(hl:lJ R2 v=some l)(hss:fg l=some ss)
  (hsz:(ss.map bY).sum+ss.length*x.length<=SZ)(hsz2:(cj x ss).length<=SZ)
  (hbase:∀env:d7,fI o "join" env (ej o env)=ej o env)(hs:∀env:d7,bU [e] env=[(false,ej e env)])(hline:(apos.endLine==pos.line)=true) :
  dP H0 w n cx (.Call (.Attribute o "join" apos) [e] [] pos) σ R (.str (cj x ss)) R2:=by
 intro A E I ρ env s hR G O
 refine qd (hbase env) (hs env) hline (h1.then hR G O λI1 ρ1 u s1 x1 hu O1 G1=>?_)
 obtain⟨g1,g2,t,rfl⟩:=hu
 refine⟨"str",_,mT,yM,PySem.F.type_str_join,kU _ _ _,(λζ e=>nomatch e),method1_meets yM PySem.F.entry_str_join (h2.then hR G1 O1 λI2 ρ2 y s2 x2 hy O2 G2=>?_)⟩
 obtain⟨a,xs,k,rfl,hr,hlen,hat⟩:=qM G2 hl hy
 obtain⟨lt,rfl,k2,k3⟩:=xF hr hss
 have hjl:wu ((lt.map (·.1)).toArray.foldl (· + ·.length+(S x).length) 0)=false:=by
  rw [k2,StrLaws.joinTotal,aG,ae,dW]
  have:(LL (Str.length∘S) ss)=ss.map bY:=bf λp ζ=>dW p
  rw [this]
  unfold wu
  exact decide_eq_false (dF.mpr (gd hsz))
 have hpost:(joinMade (S x) lt).post (λv s'=>wants (fP H0 I ρ s (.str (cj x ss)) R2) E (.ok (.ret v)) s') s2:=by
  refine post_join lt ⟨joinFit_length hjl,λt' k=>?_⟩
  have e1:Txt.join (S x) (lt.map (·.1))=S (cj x ss):=by
   unfold Txt.join
   rw [StrLaws.glued_eq_join,k2]
   exact xY x ss
  rw [e1]
  exact fP.mono_ G (x1.trans G x2) (qT G2 hsz2 (zt x g2 ss λp hp=>(k3 p hp).2) k)
 rcases hat with hat | hat
 ·exact⟨kU _ _ _,wp _ _,_,meets_str_join_list (S x) t a lt hjl,⟨_,hat,rfl,k,rfl⟩,hpost⟩
 ·exact⟨kU _ _ _,wp _ _,_,meets_str_join_tuple (S x) t a lt hjl,⟨_,k,hat,rfl,rfl⟩,hpost⟩
end
end
end Mine
end
section
open PySem PySem.W PyProof.Rows PySem.Spec
namespace Mine
noncomputable section
theorem KV(P:dX):(Qi.all λx=>kq (KK pw P) (.ref x.1) x.2==some none&&(hasDictIn (KK pw P) x.1&&(plainGet (KK pw P) x.1 "x"&&(kq (KK pw P) (.ref x.1) "__setattr__"==some (some (.builtin "object.__setattr__"))&&(plainOver (KK pw P) x.1&&takerIn (KK pw P) x.1 x.2==some none)))))=true:=∅
theorem oY(P:dX){C:aB}{a:Str}(h:ta C a=true):kq (KK pw P) (.ref C) a=some none/\hasDictIn (KK pw P) C=true/\plainGet (KK pw P) C "x"=true/\kq (KK pw P) (.ref C) "__setattr__"=some (some (.builtin "object.__setattr__"))/\plainOver (KK pw P) C=true /\
  takerIn (KK pw P) C a=some none:=by
 have h:=bu.mp (KV P) (C,a) (cY.mp h)
 simp only [bd,beq_iff_eq]at h
 exact h
section
variable {H0:Bs} {w:bG} {n m:Nat} {sp:Spec} {I I' I'':dB} {ρ ρ' ρ'':dI} {R R' R'' R1 R2 R3:List aN} {cx:Cx} {σ σ' σ1 σ2:br} {env:d7} {A:bD} {E:af->ag->Prop} {s s' s'':ag} {e l r t o:Expr} {v:PV} {f:Fl} {X Y Z:aB->Prop}
theorem sy:∀{fs:List (Str × PV)} {es:List kY},oH I ρ fs es->es.any (·.refKey)=false:=by
 intro fs
 induction fs with
 | nil=>
  intro es h
  cases h;rfl
 | cons xq r ih=>
  obtain⟨x,p⟩:=xq
  intro es h
  obtain⟨hs,t,v,es',rfl,h1,h2⟩:=h
  rw [qB,ih h2]
  rfl
theorem wG{a:Str}:∀{fs:List (Str × PV)} {es:List kY},oH I ρ fs es->(∀v,fs.lookup a=some v->∃e,es.find? (·.key.isStr a)=some e/\cn I ρ v e.val)/\(fs.lookup a=none->es.find? (·.key.isStr a)=none):=by
 intro fs
 induction fs with
 | nil=>
  intro es h
  cases h;exact⟨(λv e=>nomatch e),λζ=>rfl⟩
 | cons xq r ih=>
  obtain⟨x,p⟩:=xq
  intro es h
  obtain⟨hs,t,u,es',rfl,h1,h2⟩:=h
  obtain⟨i1,i2⟩:=ih h2
  have hk:(iF x t).isStr a=(x==a):=rfl
  constructor
  ·intro v e
   rw [ba]at e
   rw [JI]
   show ∃e,(match (iF x t).isStr a with | true=>some _ | false=>_)=some e/\_
   rw [hk]
   by_cases hx:a=x
   ·subst hx
    rw [beq_self_eq_true]at e ⊢
    cases e
    exact⟨_,rfl,h1⟩
   ·rw [beq_eq_false_iff_ne.mpr hx]at e
    rw [beq_eq_false_iff_ne.mpr (dg hx)]
    exact i1 v e
  ·intro e
   rw [ba]at e
   rw [JI]
   show(match (iF x t).isStr a with | true=>some _ | false=>_)=none
   rw [hk]
   by_cases hx:a=x
   ·subst hx
    rw [beq_self_eq_true]at e
    cases e
   ·rw [beq_eq_false_iff_ne.mpr hx]at e
    rw [beq_eq_false_iff_ne.mpr (dg hx)]
    exact i2 e
theorem zA{a:Str}{fs:List (Str × PV)}{es:List kY}{v:PV}(h:oH I ρ fs es)(hv:fs.lookup a=some v):∃u,getL a es=some (some u)/\cn I ρ v u:=by
 obtain⟨e,h1,h2⟩:=(wG (a:=a) h).1 v hv
 refine⟨e.val,?_,h2⟩
 unfold getL
 rw [h1]
theorem ng(G:Gd H0 I ρ R s.heap){k:Nat}{C:aB}{fs:List (Str × PV)}{u:af}(hr:R[k]? = some (.inst C fs))(hu:cn I ρ (.obj k) u) :
  ∃p es j,ρ[k]? = some p/\u = .ref p.1/\p.2≠p.1/\fs.length<=900/\InstAt s.heap p.1 (nH C p.2) C (some (AU es j))/\s.heap.get? p.2=some (AU es j)/\oH I ρ fs es:=by
 obtain⟨p,hp,rfl,h1,h2,h3,es,j,h4,h5⟩:=rN G hr hu
 exact⟨p,es,j,hp,rfl,h1,h3,⟨h2,rfl,rfl,h4⟩,h4,h5⟩
theorem qj{v:PV}{u:af}(h:cn I ρ v u)(hv:∀x,v ≠ .val x):handedIn u=true:=by
 cases v with
 | none=>cases h;rfl
 | bool b=>cases h;rfl
 | int i=>obtain⟨t,rfl⟩:=h;rfl
 | str l=>obtain⟨_,_,t,rfl⟩:=h;rfl
 | list l=>obtain⟨_,a,_,_,rfl,_⟩:=h;rfl
 | tup l=>obtain⟨_,a,_,_,rfl,_⟩:=h;rfl
 | val x=>exact absurd rfl (hv x)
 | obj k=>obtain⟨p,_,rfl⟩:=h;rfl
theorem Ag(B:dC w H0.heap){k:Nat}{C:aB}{fs:List (Str × PV)}{a:Str}{pos:dS}(h1:dP H0 w n cx o σ R (.obj k) R1)(hr:R1[k]? = some (.inst C fs))(hf:ta C a=true)(hv:fs.lookup a=some v)(hnv:∀x,v ≠ .val x)
  (he:∀env:d7,ej (.Attribute o a pos) env=(do
   let x <-ej o env
   nG pos.atName
   let r <-km [x] (vO x a true)
   iY o x r
   b8 r)):dP H0 w n cx (.Attribute o a pos) σ R v R1:=by
 intro A E I ρ env s hR G O
 refine Attribute_any_ (h1.then hR G O λI1 ρ1 u s1 x1 hu O1 G1=>?_) (he env)
 obtain⟨p,es,j,hp,rfl,_,_,Ia,_,hF⟩:=ng G1 hr hu
 obtain⟨y,hy,hry⟩:=zA hF hv
 obtain⟨f1,f2,f3,f4,f5,f6⟩:=oY w.params hf
 refine get_value (G1.baseAt B).k Ia (yJ f3).1 (findObj_own f2 f1 rfl (by rw [yK];exact hy)) (qj hry hnv) ?_
 exact fP.mono_ G x1 (oj G1 hry _)
end
end
end Mine
end
section
open PySem PySem.W PyProof.Rows PySem.Spec
namespace Mine
noncomputable section
section
variable {H0:Bs} {w:bG} {n m:Nat} {sp:Spec} {I I' I'':dB} {ρ ρ' ρ'':dI} {R R' R'' R1 R2 R3:List aN} {cx:Cx} {σ σ' σ1 σ2:br} {env:d7} {A:bD} {E:af->ag->Prop} {s s' s'':ag} {e l r t o:Expr} {v:PV} {f:Fl} {X Y Z:aB->Prop}
noncomputable def BL(h:fv)(L dx:aB):List (aB × jh):=(cM h.objs.size).filterMap λa=>if a=L\/a=dx then none else(h.get? a).map (a,·)
theorem uT{h:fv}{L dx:aB}{p:aB × jh}(hp:p∈BL h L dx):h.get? p.1=some p.2/\p.1≠L/\p.1≠dx:=by
 obtain⟨a,_,ha⟩:=FU.mp hp
 by_cases hc:a=L\/a=dx
 ·rw [if_pos hc]at ha;cases ha
 ·rw [if_neg hc]at ha
  cases hg:h.get? a with
  | none=>rw [hg]at ha;cases ha
  | some o=>
   rw [hg]at ha
   cases ha
   exact⟨hg,λq=>hc (av q),λq=>hc (am q)⟩
theorem BH{h:fv}{L dx a:aB}{o:jh}(hg:h.get? a=some o)(h1:a≠L)(h2:a≠dx):(a,o)∈BL h L dx:=
 FU.mpr ⟨a,ix.mpr (c7 hg),by rw [if_neg (by rintro (q | q);exact h1 q;exact h2 q),hg];rfl⟩
theorem GW{a:Str}{hsh:Int}{t:vR}{u:af}{v:PV}(hu:cn I ρ v u):∀{fs:List (Str × PV)} {es:List kY},oH I ρ fs es->oH I ρ (iG fs a v) (putL a hsh (.str a t) u es):=by
 intro fs
 induction fs with
 | nil=>
  intro es h
  cases h
  show oH I ρ [(a,v)] [⟨hsh,.str a t,u⟩]
  exact⟨hsh,t,u,[],rfl,hu,rfl⟩
 | cons xq r ih=>
  obtain⟨x,p⟩:=xq
  intro es h
  obtain⟨hs,t',z,es',rfl,h1,h2⟩:=h
  have hk:(iF x t').isStr a=(x==a):=rfl
  rw [oa];unfold putL
  show oH I ρ (if(x==a)=true then _ else _) (if(iF x t').isStr a=true then _ else _)
  rw [hk]
  by_cases hx:x=a
  ·subst hx
   rw [if_pos (beq_self_eq_true _),if_pos (beq_self_eq_true _)]
   exact⟨hs,t',u,es',rfl,hu,h2⟩
  ·have hb:¬(x==a)=true:=by rw [beq_eq_false_iff_ne.mpr hx];decide
   rw [if_neg hb,if_neg hb]
   exact⟨hs,t',z,_,rfl,h1,ih h2⟩
theorem GX:∀{fs:List (Str × PV)} {es:List kY},oH I ρ fs es->es.length=fs.length:=by
 intro fs
 induction fs with
 | nil=>
  intro es h
  cases h;rfl
 | cons xq r ih=>
  obtain⟨x,p⟩:=xq
  intro es h
  obtain⟨hs,t',z,es',rfl,h1,h2⟩:=h
  rw [ao,ao,ih h2]
theorem uu(fs:List (Str × PV))(a:Str)(v:PV):(iG fs a v).length<=fs.length+1:=by
 induction fs with
 | nil=>exact aF _
 | cons p r ih=>
  obtain⟨x,q⟩:=p
  rw [oa]
  split
  ·simp
  ·simp only [ao];exact Vr ih
theorem GH(B:dC w H0.heap)(G:Gd H0 I ρ R s.heap)(O:b5 I ρ cx σ env s.heap){k:Nat}{C:aB}{fs:List (Str × PV)}{a:Str}{x u:af}(hr:R[k]? = some (.inst C fs))(hx:cn I ρ (.obj k) x)(hf:ta C a=true)(hl:fs.length<900)(hu:cn I ρ v u) :
  aq (aw pw w) A (setAttr x a u) (vF H0 I ρ s env cx σ (R.set k (.inst C (iG fs a v)))) E s:=by
 obtain⟨p,es,j,hp,rfl,hne,_,Ia,hd,hF⟩:=ng G hr hx
 obtain⟨f1,f2,f3,f4,f5,f6⟩:=oY w.params hf
 obtain⟨m,hns,hbs⟩:=O.ns
 have hLo:¬fK I ρ env.locals:=O.sep _ (av rfl)
 have hLd:p.2≠env.locals:=λq=>hLo (am ⟨p,be hp,am q.symm⟩)
 let h₀:fv:={ s.heap with objs := #[] }
 have e0:∀b o,h₀.get? b=some o->False:=λb o e=>by
  have:=c7 e
  exact absurd this (ji _)
 have en:∀b,h₀.get? b=none:=λb=>by
  cases e:h₀.get? b with
  | none=>rfl
  | some o=>exact(e0 b o e).elim
 have F:Fr h₀ env.locals s.heap m:=⟨hns,λb o e=>(e0 b o e).elim,bp _⟩
 have N:News h₀ env.locals s.heap ([]++(p.2,AU es j)::BL s.heap env.locals p.2):=λq hq=>by
  rcases ay.mp hq with rfl | hq
  ·exact⟨hd,hLd,en _⟩
  ·obtain⟨g1,g2,g3⟩:=uT hq
   exact⟨g1,g2,en _⟩
 have hgl:(lookIn a (AU es j)).isSome=true:=by
  rw [yK]
  unfold getL
  rw [sy hF]
  cases es.find? (·.key.isStr a)<;>rfl
 have hput:=GW (a:=a) (hsh:=oI w.params a) (t:=s.toks+1) hu hF
 have hlen:(putL a (oI w.params a) (.str a (s.toks+1)) u es).length<=900:=by
  rw [GX hput]
  have:=uu fs a v
  exact Vq hl this
 refine set_plain (G.baseAt B).k Ia f4 (osa_dict (s:={ s with toks:=s.toks+1 }) F N (G.baseAt B).k Ia rfl f5 f6 f2 hgl (λζ h=>nomatch h) (λq hq=>(uT hq).2.2) (by rw [putName_dict]) rfl (ah hlen (by decide)) λh' F' N'=>?_)
 have hd':h'.get? p.2=some (AU (putL a (oI w.params a) (.str a (s.toks+1)) u es) (putN a es j)):=(N' _ (aj)).1
 have keep:∀b o,b≠env.locals->b≠p.2->s.heap.get? b=some o->h'.get? b=some o:=λb o h1 h2 e=>(N' _ (an _ (BH e h1 h2))).1
 have hns':=F'.ns
 have hLal:h'.get? env.locals≠none:=by
  obtain⟨o,_,_,g,_⟩:=hns'
  rw [g];exact λh=>nomatch h
 have hp1L:p.1≠env.locals:=λq=>hLo (am ⟨p,be hp,av q.symm⟩)
 have hx1:h'.get? p.1=some (nH C p.2):=keep _ _ hp1L (dg hne) Ia.at_
 obtain⟨d1,d2⟩:=G.dis k p _ hp hr (λh=>nomatch h)
 have own_ne:∀b,fK I ρ b->b≠env.locals:=λb hb q=>hLo (q▸hb)
 generalize hs':({ s with heap:=h',toks:=s.toks+1+1 }:ag)=s'
 have hh:s'.heap=h':=by rw [<-hs']
 have x:a9 H0 (mF env) I ρ s I ρ (R.set k (.inst C (iG fs a v))) s':=by
  refine⟨λζ ζ e=>e,⟨[],(aM _).symm⟩,λb h=>av h,λb o hn e=>?_,λb hb=>?_,⟨λb o e=>?_,G.base,by rw [vJ];exact G.len,λi q r1 h1 h2=>?_,λi q r1 h1 h2 h3=>?_,G.apart,λb hb=>?_⟩,by rw [<-hs'],by rw [<-hs']⟩
  ·rw [hh]
   exact⟨o,keep b o (λq=>hn (am (av q))) (λq=>hn (av ⟨p,be hp,am q⟩)) e,lG.refl o⟩
  ·rw [hh]
   by_cases h1:b=env.locals
   ·rw [h1];exact hLal
   ·by_cases h2:b=p.2
    ·rw [h2,hd'];exact λh=>nomatch h
    ·obtain⟨o,e⟩:=bj.mp hb
     rw [keep b o h1 h2 e];exact λh=>nomatch h
  ·rw [hh]
   refine keep b o (own_ne b (av (by rw [e];exact λh=>nomatch h))) (λq=>?_) (G.imm b o e)
   subst q
   rw [d2]at e;cases e
  ·rw [hh]
   rcases oX h2 with ⟨rfl,rfl⟩ | ⟨hne2,h2⟩
   ·rw [hp]at h1
    cases h1
    refine⟨hne,hx1,?_,_,_,hd',hput⟩
    have:=uu fs a v
    exact Vq hl this
   ·have hap:=G.apart i k q p h1 hp hne2
    have hq:=be h1
    have:=lu.mono (I':=I) (δ:=[]) (hp':=h') (λζ ζ e=>e) (λb o hb e=>keep b o (own_ne b (am ⟨q,hq,hb⟩)) (λz=>by
     subst z
     rcases hb with hb | hb
     ·exact hap.2.1 hb.symm
     ·exact hap.2.2.2 hb.symm) e) (G.recs i q r1 h1 h2)
    rwa [aM]at this
  ·rcases oX h2 with ⟨rfl,rfl⟩ | ⟨hne2,h2⟩
   ·rw [hp]at h1;cases h1;exact⟨d1,d2⟩
   ·exact G.dis i q r1 h1 h2 h3
  ·obtain⟨g1,ob,es',ep,g2,g3⟩:=G.stk b hb
   refine⟨g1,?_⟩
   rw [hh]
   by_cases hbL:b=env.locals
   ·obtain⟨o,es'',ep',q1,q2,_⟩:=hns'
    exact⟨o,es'',ep',by rw [hbL];exact q1,q2⟩
   ·exact⟨ob,es',ep,keep b ob hbL (λq=>g1 (am ⟨p,be hp,am q⟩)) g2,g3⟩
 have cellKeep:∀y c v0,env.cells.lookup y=some c->s.heap.IsCell c v0->s'.heap.IsCell c v0:=λy c v0 hy ⟨o,g1,g2⟩=>by
  refine⟨o,?_,g2⟩
  rw [hh]
  refine keep c o (λq=>?_) (λq=>?_) g1
  ·obtain⟨o1,e1,n1,q1,q2,_⟩:=hns
   rw [q,q1]at g1
   cases g1
   rw [q2]at g2;cases g2
  ·exact O.sep c (am ⟨y,hy⟩) (am ⟨p,be hp,am q⟩)
 refine⟨I,ρ,x,O.kf,O.gle,O.ble,O.glo,O.loc,O.fn,O.cek,λy kk hy hkk=>?_,⟨m,by rw [hh];exact hns',λy pv hy=>?_⟩,O.sep,O.apart,λb hb=>x.alive b (O.alive b hb),O.dbg,O.law⟩
 ·obtain⟨g1,c,v0,g2,g3⟩:=O.cel y kk hy hkk
  exact⟨g1,c,v0,g2,cellKeep y c v0 g2 g3⟩
 ·obtain⟨g1,g2⟩:=hbs y pv hy
  refine⟨g1,?_⟩
  rcases g2 with ⟨g2,u',g3,g4⟩ | ⟨g2,c,u',g3,g4,g5⟩
  ·exact av ⟨g2,u',g3,g4⟩
  ·exact am ⟨g2,c,u',g3,cellKeep y c _ g3 g4,g5⟩
theorem B8(B:dC w H0.heap){k:Nat}{C:aB}{fs:List (Str × PV)}{a:Str}{ap pos:dS}(h1:dP H0 w n cx e σ R v R1)(h2:dP H0 w n cx o σ R1 (.obj k) R2)(hr:R2[k]? = some (.inst C fs))(hf:ta C a=true)(hl:fs.length<900)
  (h3:∀env:d7,ti [.Attribute o a ap] e pos.line env=b8 false)(h4:∀env:d7,tj [.Attribute o a ap] e env=b8 none) :
  yT H0 w n cx (.Assign [.Attribute o a ap] e pos) σ R .next σ (R2.set k (.inst C (iG fs a v))):=by
 intro A E I ρ env s hR G O
 refine sP (h1.then hR G O λI1 ρ1 u s1 x1 hu O1 G1=>?_) (h3 env) (h4 env)
 show aq _ A (assignAll u [iZ (.Attribute o a ap) env]) _ _ s1
 show aq _ A (iZ (.Attribute o a ap) env u) _ _ s1
 rw [arm_assign_Attribute]
 refine aa (aY (h2.then hR G1 O1 λI2 ρ2 y s2 x2 hy O2 G2=>aa (fh (aa (aY ?_)))))
 refine ar (GH B G2 O2 hr hy hf hl (hu.le x2)) (λζ s3 q=>?_) λζ ζ e=>e
 obtain⟨I3,ρ3,x3,O3⟩:=q
 intro Γ p hΓ
 rw [Sem.wp_release]
 exact⟨I3,ρ3,((x1.trans G x2).weaken).trans G x3,O3,rfl⟩
theorem Lb(B:dC w H0.heap)(hsp:dA H0 w n sp){g:Str}{fa:aB}{np pos:dS}{es:List Expr}{vs:List PV}(hg:gl cx g=true)(hgv:ff g=some (.ref fa))(h1:qr H0 w n cx es σ R vs R1)(hc:sp fa vs [] R1=some (v,R2))
  (hfn:∀P,∃o fd,(KK pw P).lookup fa=some o/\o.data = .func fd)(hev:∀env:d7,∃x rest,hU pos (bU es env)=(false,x)::rest):dP H0 w n cx (.Call (.Name g np) es [] pos) σ R v R2:=by
 intro A E I ρ env s hR G O
 refine fe (dw (cH B G O hg hgv ?_) (dm O (O.glo g hg)))
 obtain⟨ob,fd,hl,hd⟩:=hfn w.params
 have fin:∀(us:List af) (s1:ag),I8 H0 I ρ s vs R1 us s1->(s1.heap.get? fa=some ob/\ob.data = .func fd)/\aq (aw pw w) A (call (.ref fa) ([]++us) []) (fP H0 I ρ s v R2) E s1:=by
  rintro us s1 ⟨I1,ρ1,x1,hu⟩
  refine⟨⟨(x1.good.baseAt B).k _ _ hl,hd⟩,?_⟩
  refine fc (gv (hsp fa vs [] R1 v R2 hc A E I1 ρ1 s1 us [] (hR.le (di n)) x1.good hu ⟨rfl,by exact a0.nil⟩) (λr s' q=>?_))
  rcases r with e | (u' | _ | _ | _)<;>first | exact q | exact fP.mono_ G x1 q
 have hh:=h1 A E I ρ env pos s hR G O
 obtain⟨x,rest,hx⟩:=hev env
 rw [hx]
 rw [hx]at hh
 refine rG (o:=ob) (fd:=fd) (evalArgs_kw rfl (ar hh (λus s1 q=>?_) λζ ζ e=>e))
 refine nF ?_
 exact fin us s1 q
section
variable (H0 w A E I ρ R s)
noncomputable def LD(op:cw)(x y:af)(v:PV):Prop:=aq (aw pw w) A (inplaceOp op x y) (fP H0 I ρ s v R) E s
end
set_option tactic.hygienic true in
theorem Lu(G:Gd H0 I ρ R s.heap){op:cw}{i j:Int}{t u:vR}:aA (LD H0 w I ρ R A E s op (.int i t) (.int j u)) (Qv op i j):=by
 cases op
 case Add=>exact aA.some (AutoIntOps.iadd_0 (iW G _))
 case Sub=>exact aA.some (AutoIntOps.isub_0 (iW G _))
 all_goals exact aA.none
set_option tactic.hygienic true in
theorem Ve(G:Gd H0 I ρ R s.heap){op:cw}{a b:PV}{x y:af}(ha:cn I ρ a x):cn I ρ b y->aA (LD H0 w I ρ R A E s op x y) (rt op a b):=by
 cases a
 case int i=>exact nf (C:=λb o=>cn I ρ b y->aA (LD H0 w I ρ R A E s op x y) o) b (λζ ζ=>aA.none) λj hb=>ha.int_el λt=>hb.int_el λu=>Lu G
 case str i=>exact λhb=>aA.grd λh=>ra h (oS (C:=λb o=>cn I ρ b y->aA (LD H0 w I ρ R A E s .Add x y) o) b (λζ ζ=>aA.none) (λj hb=>aA.mkS λhl=>ha.str_el λt l1 q1=>hb.str_el λu l2 q2=>
  SB.iadd (λt' k=>Az i j▸qT G hl (lb q1 q2) _) (by rw [dW,dW];exact ah (cq l1 l2) zm)) hb)
 all_goals exact λζ=>aA.none
theorem IS(G:Gd H0 I ρ R s.heap){op:cw}{a b v:PV}{x y:af}(h:rt op a b=some v)(ha:cn I ρ a x)(hb:cn I ρ b y):aq (aw pw w) A (inplaceOp op x y) (fP H0 I ρ s v R) E s:=Ve G ha hb v h
theorem Ca{x:Str}{xp pos:dS}{op:cw}{a b:PV}(hx:σ.lookup x=some a)(h1:dP H0 w n cx e σ R b R1)(hv:rt op a b=some v)(hs:qL cx σ x v=some σ') :
  yT H0 w n cx (.AugAssign (.Name x xp) op e pos) σ R .next σ' R1:=by
 intro A E I ρ env s hR G O
 refine wpAny_AugAssign_Name (uO O hx λold ho=>h1.then hR G O λI1 ρ1 u s1 x1 hu O1 G1=>ar (IS G1 hv (ho.le x1) hu) (λy s2 q=>?_) λζ ζ e=>e)
 obtain⟨I2,ρ2,x2,hy⟩:=q
 have O2:=O1.step x2
 refine ar (uj x2.good O2 hs hy) (λζ s3 q=>?_) λζ ζ e=>e
 obtain⟨I3,ρ3,x3,O3⟩:=q
 exact⟨I3,ρ3,((x1.trans G x2).weaken).trans G x3,O3,rfl⟩
theorem K5{i:Int}{pos:dS}(h1:dP H0 w n cx e σ R (.int i) R1):dP H0 w n cx (.UnaryOp .USub e pos) σ R (.int (-i)) R1:=by
 intro A E I ρ env s hR G O
 refine wpAny_UnaryOp (h1.then hR G O λI1 ρ1 u s1 x1 hu O1 G1=>?_)
 obtain⟨t,rfl⟩:=hu
 exact neg_int (fP.mono_ G x1 (iW G1 _))
theorem NE(B:dC w H0.heap)(G:Gd H0 I ρ R s.heap){k:Nat}{C:aB}{fs:List (Str × PV)}{a:Str}{x:af}(hr:R[k]? = some (.inst C fs))(hx:cn I ρ (.obj k) x)(hf:ta C a=true)(hv:fs.lookup a=some v)(hnv:∀x,v ≠ .val x){b:Bool} :
  aq (aw pw w) A (vO x a b) (fP H0 I ρ s v R) E s:=by
 obtain⟨p,es,j,hp,rfl,_,_,Ia,_,hF⟩:=ng G hr hx
 obtain⟨y,hy,hry⟩:=zA hF hv
 obtain⟨f1,f2,f3,f4,f5,f6⟩:=oY w.params hf
 exact get_value (G.baseAt B).k Ia (yJ f3).1 (findObj_own f2 f1 rfl (by rw [yK];exact hy)) (qj hry hnv) (oj G hry _)
theorem Cb(B:dC w H0.heap){a:Str}{tp pos:dS}{op:cw}{k:Nat}{C:aB}{fs fs':List (Str × PV)}{x b:PV}(h1:dP H0 w n cx o σ R (.obj k) R1)(hr:R1[k]? = some (.inst C fs))(hf:ta C a=true)(hx:fs.lookup a=some x)
  (h2:dP H0 w n cx e σ R1 b R2)(hr2:R2[k]? = some (.inst C fs'))(hl:fs'.length<900)(hv:rt op x b=some v) :
  yT H0 w n cx (.AugAssign (.Attribute o a tp) op e pos) σ R .next σ (R2.set k (.inst C (iG fs' a v))):=by
 intro A E I ρ env s hR G O
 have hnv:∀z,x ≠ .val z:=λz hz=>by subst hz;cases hv
 refine wpAny_AugAssign_AttributeAny (h1.then hR G O λI1 ρ1 u s1 x1 hu O1 G1=>ar (NE B G1 hr hu hf hx hnv) (λold s2 q=>?_) λζ ζ e=>e)
 obtain⟨I2,ρ2,x2,ho⟩:=q
 have O2:=O1.step x2
 refine h2.then hR x2.good O2 λI3 ρ3 y s3 x3 hy O3 G3=>ar (IS G3 hv (ho.le x3) hy) (λz s4 q=>?_) λζ ζ e=>e
 obtain⟨I4,ρ4,x4,hz⟩:=q
 have O4:=O3.step x4
 refine ar (GH B x4.good O4 hr2 (((hu.le x2).le x3).le x4) hf hl hz) (λζ s5 q=>?_) λζ ζ e=>e
 obtain⟨I5,ρ5,x5,O5⟩:=q
 exact⟨I5,ρ5,((((x1.trans G x2).trans G x3).trans G x4).weaken).trans G x5,O5,rfl⟩
end
end
end Mine
end
section
open PySem PySem.W PyProof.Rows PySem.Spec
namespace Mine
noncomputable section
section
variable {H0:Bs} {w:bG} {n m:Nat} {sp:Spec} {I I' I'':dB} {ρ ρ' ρ'':dI} {R R' R'' R1 R2 R3:List aN} {cx:Cx} {σ σ' σ1 σ2:br} {env:d7} {A:bD} {E:af->ag->Prop} {s s' s'':ag} {e l r t o tgt:Expr} {v:PV} {f:Fl} {X Y Z:aB->Prop}
theorem HH{ls:List PV}(h1:dP H0 w n cx e σ R (.list ls) R1)(hf:∀(env:d7) x,ko e env x=b8 x):FZ H0 w n cx tgt e σ R ls σ R1:=by
 refine⟨hf,λA E I ρ env s hR G O=>h1.then hR G O λI1 ρ1 u s1 x1 hu O1 G1=>?_⟩
 refine ar (wX hR.1 (tgt:=tgt) G1 hu) (λit s2 q=>?_) λζ ζ e=>e
 obtain⟨Z,St,its,st,x2,hz⟩:=q
 exact⟨I1,ρ1,Z,St,its,st,x1.trans G x2,O1.step x2,λa ha=>by
  cases e:s.heap.get? a with
  | none=>rfl
  | some q=>exact absurd (hz a ha) (x1.alive a (by rw [e];exact λh=>nomatch h))⟩
theorem KF{ls:List PV}(h1:dP H0 w n cx e σ R (.tup ls) R1)(hf:∀(env:d7) x,ko e env x=b8 x):FZ H0 w n cx tgt e σ R ls σ R1:=by
 refine⟨hf,λA E I ρ env s hR G O=>h1.then hR G O λI1 ρ1 u s1 x1 hu O1 G1=>?_⟩
 refine ar (HJ hR.1 (tgt:=tgt) G1 hu) (λit s2 q=>?_) λζ ζ e=>e
 obtain⟨Z,St,its,st,x2,hz⟩:=q
 exact⟨I1,ρ1,Z,St,its,st,x1.trans G x2,O1.step x2,λa ha=>by
  cases e:s.heap.get? a with
  | none=>rfl
  | some q=>exact absurd (hz a ha) (x1.alive a (by rw [e];exact λh=>nomatch h))⟩
theorem KG{k:Nat}{ls:List PV}(h1:dP H0 w n cx e σ R (.obj k) R)(hr:R[k]? = some (.lst ls))(hf:∀(env:d7) x,ko e env x=b8 x):FZ H0 w n cx tgt e σ R ls (rf k σ R).1 (rf k σ R).2:=by
 refine⟨hf,λA E I ρ env s hR G O=>h1.then hR G O λI1 ρ1 u s1 x1 hu O1 G1=>?_⟩
 obtain⟨p,hp,rfl,_⟩:=rN G1 hr hu
 obtain⟨I2,x2,O2,hl⟩:=Dv (X:=eg) (k:=k) G1 O1
 refine ar (wX hR.1 (tgt:=tgt) x2.good (hl ls p hr hp)) (λit s2 q=>?_) λζ ζ e=>e
 obtain⟨Z,St,its,st,x3,hz⟩:=q
 exact⟨I2,ρ1,Z,St,its,st,(x1.trans G x2).trans G x3,O2.step x3,λa ha=>by
  cases e:s.heap.get? a with
  | none=>rfl
  | some q=>exact absurd (hz a ha) (x1.alive a (by rw [e];exact λh=>nomatch h))⟩
end
end
end Mine
end
section
open PySem PySem.W PyProof.Rows PySem.Spec
namespace Mine
noncomputable section
theorem Kg(P:dX):(kq (KK pw P) (.ref 872) "punctuation_chars"==some (some (.ref 804))&&specialIn (KK pw P) (.ref 804) "__get__"==some (some (.builtin "property.__get__"))&&takesIn (KK pw P) (.ref 804)==some true&&(recIn (KK pw P) 804 "property").map (·.head?)==some (some (.ref 803))&&(clsIn (KK pw P) 872).isSome)=true:=∅
section
variable {H0:Bs} {w:bG} {n m:Nat} {sp:Spec} {I I' I'':dB} {ρ ρ' ρ'':dI} {R R' R'' R1 R2 R3:List aN} {cx:Cx} {σ σ' σ1 σ2:br} {env:d7} {A:bD} {E:af->ag->Prop} {s s' s'':ag} {e l r t o tgt:Expr} {v:PV} {f:Fl} {X Y Z:aB->Prop}
theorem K6(B:dC w H0.heap)(hsp:dA H0 w n sp){k:Nat}{fs:List (Str × PV)}{pos:dS}(h1:dP H0 w n cx o σ R (.obj k) R1)(hr:R1[k]? = some (.inst 872 fs))(hc:sp 803 [.obj k] [] R1=some (v,R2))(hnv:∀x,v ≠ .val x)
  (he:∀env:d7,ej (.Attribute o "punctuation_chars" pos) env=(do
   let x <-ej o env
   nG pos.atName
   let r <-km [x] (vO x "punctuation_chars" true)
   iY o x r
   b8 r)):dP H0 w n cx (.Attribute o "punctuation_chars" pos) σ R v R2:=by
 intro A E I ρ env s hR G O
 refine Attribute_any_ (h1.then hR G O λI1 ρ1 u s1 x1 hu O1 G1=>?_) (he env)
 have hu0:=hu
 obtain⟨p,es,j,hp,rfl,_,_,Ia,_,hF⟩:=ng G1 hr hu
 have hK:=Kg w.params
 simp only [bd,beq_iff_eq]at hK
 obtain⟨⟨⟨⟨k1,k2⟩,k3⟩,k4⟩,k5⟩:=hK
 have hg:=yJ (oY w.params (C:=872) (a:="token") ∅).2.2.1
 obtain⟨rest,hrec⟩:∃rest,recIn (KK pw w.params) 804 "property"=some (.ref 803::rest):=by
  cases hq:recIn (KK pw w.params) 804 "property" with
  | none=>rw [hq]at k4;cases k4
  | some l=>
   rw [hq]at k4
   cases l with
   | nil=>cases k4
   | cons a q=>
    have:a = .ref 803:=by simpa using k4
    exact⟨q,by rw [this]⟩
 have X1:=(G1.baseAt B).k
 have x2:a9 H0 eg I1 ρ1 s1 I1 ρ1 R1 { s1 with toks:=s1.toks+1 }:=a9.toks G1 m6 _
 refine get_bind X1 Ia hg.1 (findObj_data k5 k1 k2 k3) hg.2 (fc (prop_get (s:={ s1 with toks:=s1.toks+1 }) X1 hrec ?_))
 have hR':cE H0 A.in1 n:=hR.in1
 refine gv (hsp 803 [.obj k] [] R1 v R2 hc _ (λe s'=>aq (aw pw w) A (noteIf true (.ref p.1) (.str "punctuation_chars" s1.toks) e) (λζ s''=>E e s'') E s') I1 ρ1 _ [.ref p.1] [] hR' x2.good ?_ ⟨rfl,a0.nil⟩) (λr s' q=>?_)
 ·exact a0.cons hu0 a0.nil
 ·rcases r with e | (_ | _ | _ | u')<;>first | exact q | skip
  obtain⟨I3,ρ3,x3,hu3⟩:=q
  show aq (aw pw w) A (handedOut u') _ _ _
  rw [handedOut_of (qj hu3 hnv)]
  exact ab ⟨I3,ρ3,(x1.trans G x2).trans G x3,hu3⟩
end
end
end Mine
end
section
open PySem PySem.W PyProof.Rows PySem.Spec
namespace Mine
noncomputable section
theorem wL{C fa:aB}{a:Str}(h:De C a=some fa):(C,a,fa)∈Dd:=by
 obtain⟨⟨y1,y2,y3⟩,hy,e⟩:=ig h
 have hq:=List.find?_some hy
 obtain⟨q1,q2⟩:=eB hq
 cases aJ q1
 cases aJ q2
 cases e
 exact List.mem_of_find?_eq_some hy
theorem BF(P:dX):(Dd.all λx=>kq (KK pw P) (.ref x.1) x.2.1==some (some (.ref x.2.2))&&AO (KK pw P) (.ref x.2.2)==some (.type "function")&&plainGet (KK pw P) x.1 "x")=true:=∅
section
variable {H0:Bs} {w:bG} {n m:Nat} {sp:Spec} {I I' I'':dB} {ρ ρ' ρ'':dI} {R R' R'' R1 R2 R3:List aN} {cx:Cx} {σ σ' σ1 σ2:br} {env:d7} {A:bD} {E:af->ag->Prop} {s s' s'':ag} {e l r t o tgt:Expr} {v:PV} {f:Fl} {X Y Z:aB->Prop}
theorem Af(B:dC w H0.heap)(hsp:dA H0 w n sp){k:Nat}{C fa:aB}{fs:List (Str × PV)}{a:Str}{apos pos:dS}{es:List Expr}{vs:List PV}(h1:dP H0 w n cx o σ R (.obj k) R1)(hr:R1[k]? = some (.inst C fs))(hm:De C a=some fa)(hno:fs.lookup a=none)
  (h2:qr H0 w n cx es σ R1 vs R2)(hc:sp fa (.obj k::vs) [] R2=some (v,R3))(hfn:∀P,∃ob fd,(KK pw P).lookup fa=some ob/\ob.data = .func fd)
  (hbase:∀env:d7,fI o a env (ej o env)=ej o env)(hform:∀env:d7,mQ (es.length+0) (hU pos (bU es env)) []=true)(hline:(apos.endLine==pos.line)=true)
  (hev:∀env:d7,(hU pos (bU es env)=[]/\es=[]) \/ ∃x rest,hU pos (bU es env)=(false,x)::rest)(hnil:es=[]->vs=[]/\R2=R1) :
  dP H0 w n cx (.Call (.Attribute o a apos) es [] pos) σ R v R3:=by
 intro A E I ρ env s hR G O
 rw [arm_eval_Call,hbase env]
 refine aa (h1.then hR G O λI1 ρ1 u s1 x1 hu O1 G1=>aa (fh ?_))
 have hu0:=hu
 obtain⟨p,es',j,hp,rfl,_,_,Ia,_,hF⟩:=ng G1 hr hu
 have hK:=bu.mp (BF w.params) _ (wL hm)
 simp only [bd,beq_iff_eq]at hK
 obtain⟨⟨k1,k2⟩,k3⟩:=hK
 have hg:=yJ k3
 have hget:getL a es'=some none:=by
  unfold getL
  rw [(wG (a:=a) hF).2 hno,sy hF]
  rfl
 have hpos:lv true o env apos pos=b8 pos:=by unfold lv;simp [hline]
 obtain⟨ob,fd,hl,hd⟩:=hfn w.params
 unfold methodCall
 show aq _ A (do
  let (f,first) <-km [j2 p.1] (calleeOf (mQ (es.length+0) (hU pos (bU es env)) []) o env (.ref p.1) a)
  let callPos <-lv (mQ (es.length+0) (hU pos (bU es env)) []) o env apos pos
  JC callPos f first (hU pos (bU es env)) []) _ E s1
 rw [hform env]
 refine aa (aY (method_fn (G1.baseAt B).k Ia hg.1 hg.2 k1 k2 (by show(lookIn a (AU es' j)).map _=_;rw [yK,hget];rfl) ?_))
 refine aa (cF hpos ?_)
 have fin:∀(us:List af) (s2:ag),I8 H0 I1 ρ1 s1 vs R2 us s2->(s2.heap.get? fa=some ob/\ob.data = .func fd)/\aq (aw pw w) A (call (.ref fa) ([.ref p.1]++us) []) (fP H0 I ρ s v R3) E s2:=by
  rintro us s2 ⟨I2,ρ2,x2,hus⟩
  refine⟨⟨(x2.good.baseAt B).k _ _ hl,hd⟩,fc (gv (hsp fa (.obj k::vs) [] R2 v R3 hc A E I2 ρ2 s2 (.ref p.1::us) [] (hR.le (di n)) x2.good ?_ ⟨rfl,by exact a0.nil⟩) (λr s' q=>?_))⟩
  ·exact⟨_,us,rfl,hu0.le x2,hus⟩
  ·rcases r with e | (u' | _ | _ | _)<;>first | exact q | exact fP.mono_ G (x1.trans G x2) q
 have hh:=h2 A E I1 ρ1 env pos s1 hR G1 O1
 rcases hev env with ⟨hx,he⟩ | ⟨x,rest,hx⟩
 ·rw [hx]
  obtain⟨rfl,rfl⟩:=hnil he
  refine rG (o:=ob) (fd:=fd) (CM ?_)
  exact fin [] s1 ⟨I1,ρ1,a9.self G1 m6,a0.nil⟩
 ·rw [hx]
  rw [hx]at hh
  refine rG (o:=ob) (fd:=fd) (evalArgs_kw rfl (ar hh (λus s2 q=>?_) λζ ζ e=>e))
  exact nF (fin us s2 q)
end
end
end Mine
end
section
open PySem PySem.W PyProof.Rows PySem.Spec
namespace Mine
noncomputable section
section
variable {H0:Bs} {w:bG} {n m:Nat} {sp:Spec} {I I' I'':dB} {ρ ρ' ρ'':dI} {R R' R'' R1 R2 R3:List aN} {cx:Cx} {σ σ' σ1 σ2:br} {env:d7} {A:bD} {E:af->ag->Prop} {s s' s'':ag} {e l r t o tgt:Expr} {v:PV} {f:Fl} {X Y Z:aB->Prop}
theorem Oc(G:Gd H0 I ρ R s.heap){i:Int}{u:af}(hu:cn I ρ (.int i) u):aq (aw pw w) A (call (.builtin "abs") [u]) (fP H0 I ρ s (.int i.natAbs) R) E s:=by
 obtain⟨t,rfl⟩:=hu
 refine call_abs_int λu tk=>?_
 have:(if i<0 then-i else i)=(i.natAbs:Int):=by
  by_cases h:i<0
  ·rw [if_pos h,Int.ofNat_natAbs_of_nonpos (sV h)]
  ·rw [if_neg h,DY (nW.mp h)]
 rw [this]
 exact iW G _
theorem BK(G:Gd H0 I ρ R s.heap){x:PV}{k:Nat}{u:af}(hu:cn I ρ x u)(h:q8 R x=some k):aq (aw pw w) A (call (.builtin "len") [u]) (fP H0 I ρ s (.int k) R) E s:=by
 have seq:∀l,lJ R x=some l->l.length=k->aq (aw pw w) A (call (.builtin "len") [u]) (fP H0 I ρ s (.int k) R) E s:=by
  intro l hl hk
  obtain⟨a,xs,j,rfl,hr,hlen,hat⟩:=qM G hl hu
  have hx:(xs.toArray.size:Int)=(k:Int):=by rw [aT,hr.length,hk]
  have hf:(xs.toArray.size:Int)<2 ^ 63:=by rw [aT,hr.length];exact JV hlen
  rcases hat with hat | hat
  ·exact PyProof.Rows.len_list ⟨_,hat,rfl,j,rfl⟩ hf (by rw [hx];exact iW G _)
  ·exact P.len_tuple hat (by exact Ub hf) (by rw [hx];exact iW G _)
 cases x with
 | str l=>
  obtain⟨g1,g2,t,rfl⟩:=hu
  cases h
  refine P.len_str (by rw [dW];have:=JV g1;exact Ub this) ?_
  rw [dW]
  exact iW G _
 | list l=>exact seq l rfl (by cases h;rfl)
 | tup l=>exact seq l rfl (by cases h;rfl)
 | obj j=>
  replace h:(lJ R (.obj j)).map bY=some k:=h
  cases hq:lJ R (.obj j)with
  | none=>rw [hq]at h;cases h
  | some l=>rw [hq]at h;cases h;exact seq l hq rfl
 | _=>cases h
theorem NZ(B:dC w H0.heap){g:Str}{T:String}{np pos:dS}{x:PV}(hg:gl cx g=true)(hgv:ff g=some (.type T))(h1:dP H0 w n cx e σ R x R1)(hs:∀env:d7,bU [e] env=[(false,ej e env)])
  (hb:∀(A:bD) (E:af->ag->Prop) I ρ s u,cE H0 A n->Gd H0 I ρ R1 s.heap->cn I ρ x u->aq (aw pw w) A (call (.type T) [u]) (fP H0 I ρ s v R1) E s):dP H0 w n cx (.Call (.Name g np) [e] [] pos) σ R v R1:=by
 intro A E I ρ env s hR G O
 refine qc (hs env) (dw (cH B G O hg hgv ?_) (dm O (O.glo g hg)))
 exact callWith_type1 (h1.then hR G O λI1 ρ1 u s1 x1 hu O1 G1=>ar (hb A E I1 ρ1 s1 u (hR.le (di n)) G1 hu) (λu' s' q=>fP.mono_ G x1 q) λζ ζ e=>e)
theorem sF(B:dC w H0.heap){g:Str}{id:String}{np pos:dS}{es:List Expr}{vs:List PV}(hg:gl cx g=true)(hgv:ff g=some (.builtin id))(h1:qr H0 w n cx es σ R vs R1)
  (hev:∀env:d7,(hU pos (bU es env)).any (·.1)=false /\ ∃x rest,hU pos (bU es env)=(false,x)::rest)
  (hb:∀(A:bD) (E:af->ag->Prop) I ρ s us,cE H0 A n->Gd H0 I ρ R1 s.heap->a0 I ρ vs us->aq (aw pw w) A (call (.builtin id) us) (fP H0 I ρ s v R1) E s):dP H0 w n cx (.Call (.Name g np) es [] pos) σ R v R1:=by
 intro A E I ρ env s hR G O
 refine fe (dw (cH B G O hg hgv ?_) (dm O (O.glo g hg)))
 obtain⟨h2,x,rest,hx⟩:=hev env
 have hh:=h1 A E I ρ env pos s hR G O
 rw [hx]at hh h2 ⊢
 refine y6 h2 (kt (ar hh (λus s1 q=>?_) λζ ζ e=>e))
 obtain⟨I1,ρ1,x1,hu⟩:=q
 exact ar (hb A E I1 ρ1 s1 us (hR.le (di n)) x1.good hu) (λu' s' q=>fP.mono_ G x1 q) λζ ζ e=>e
theorem Nx(G:Gd H0 I ρ R s.heap){i:Int}{u:af}(hu:cn I ρ (.int i) u):aq (aw pw w) A (call (.type "int") [u]) (fP H0 I ρ s (.int i) R) E s:=by
 obtain⟨t,rfl⟩:=hu
 exact call_int_int (d8 G tF)
theorem Nw(G:Gd H0 I ρ R s.heap){x:PV}{T:String}{b:Bool}{u y:af}(hT:T="str"\/T="bytes"\/T="tuple")(h:BM x T=some b)(hu:cn I ρ x u)(hy:cn I ρ (.val (.type T)) y) :
  aq (aw pw w) A (call (.builtin "isinstance") [u,y]) (fP H0 I ρ s (.bool b) R) E s:=by
 cases hy
 have o0:∀c:Bool,fP H0 I ρ s (.bool c) R (.bool c) s:=λc=>d8 G jr
 have o1:∀(c:Bool) t,fP H0 I ρ s (.bool c) R (.bool c) { s with toks:=t }:=λc t=>oj G jr t
 cases x with
 | str l=>
  obtain⟨_,_,t,rfl⟩:=hu
  rcases hT with rfl | rfl | rfl<;>cases h
  ·exact IsiPair.str_str (o0 _)
  ·exact IsiPair.str_bytes (o1 _ _)
  ·exact IsiPair.str_tuple (o1 _ _)
 | tup l=>
  obtain⟨_,a,xs,k,rfl,ha,_⟩:=hu
  have hat:=G.imm _ _ ha
  rcases hT with rfl | rfl | rfl<;>cases h
  ·exact IsiPair.tuple_str hat rfl (o1 _ _)
  ·exact IsiPair.tuple_bytes hat rfl (o1 _ _)
  ·exact IsiPair.tuple_tuple hat rfl (o0 _)
 | list l=>
  obtain⟨_,a,xs,k,rfl,ha,_⟩:=hu
  have hat:=G.imm _ _ ha
  rcases hT with rfl | rfl | rfl<;>cases h
  ·exact IsiPair.list_str hat rfl (o1 _ _)
  ·exact IsiPair.list_bytes hat rfl (o1 _ _)
  ·exact IsiPair.list_tuple hat rfl (o1 _ _)
 | _=>cases h
theorem zd(G:Gd H0 I ρ R s.heap){i:Int}{u:af}(hu:cn I ρ (.int i) u):aq (aw pw w) A (call (.type "type") [u]) (fP H0 I ρ s (.val (.type "int")) R) E s:=by
 obtain⟨t,rfl⟩:=hu
 exact call_type_of (typeIs_int _ _ _) (by decide) (d8 G rfl)
theorem zc(G:Gd H0 I ρ R s.heap){l:LS}{u:af}(hu:cn I ρ (.str l) u):aq (aw pw w) A (call (.type "type") [u]) (fP H0 I ρ s (.val (.type "str")) R) E s:=by
 obtain⟨_,_,t,rfl⟩:=hu
 exact call_type_of (kU _ _ _) (by decide) (d8 G rfl)
end
end
end Mine
end
section
open PySem PySem.W PyProof.Rows PySem.Spec
namespace Mine
noncomputable section
section
variable {H0:Bs} {w:bG} {n m:Nat} {I:dB} {ρ:dI} {R:List aN} {A:bD} {E:af->ag->Prop} {s:ag}
theorem ya:mH (.type "str") (.type "str")=b8 true:=∅
theorem x8:mH (.type "tuple") (.type "tuple")=b8 true:=∅
theorem BR:F4 (.type "str")=b8 true:=∅
end
end
end Mine
end
section
open PySem PySem.W PyProof.Rows PySem.Spec
namespace Mine
noncomputable section
section
variable {H0:Bs} {w:bG} {n m:Nat} {sp:Spec} {I I' I'':dB} {ρ ρ' ρ'':dI} {R R' R'' R1 R2 R3:List aN} {cx:Cx} {σ σ' σ1 σ2:br} {env:d7} {A:bD} {E:af->ag->Prop} {s s' s'':ag} {e l r t o tgt:Expr} {v:PV} {f:Fl} {X Y Z:aB->Prop}
theorem HE:builtinKind "issubclass.nested"=none:=by decide+kernel
theorem Ev:plainId "issubclass.nested"=true:=by decide+kernel
theorem IV(a b c:af):lY "issubclass.nested" ⟨[a,b,c],[]⟩:=by unfold lY;kernel_rfl
theorem EJ{dep:Int}{tk:vR}:A2 (Builtin.«issubclass.nested» ⟨[.type "str",.type "str",.int dep tk],[]⟩) (λζ R s=>R (.ok (.ret (.bool true))) s):=by
 intro prog w A R s hs
 have h1:=ya
 have h2:=BR
 have hm:typeOf (.type "str")=b8 (.type "type"):=∅
 unfold Builtin.«issubclass.nested»
 dsimp only
 refine aa (cF hm ?_)
 rw [if_pos (by decide)]
 refine aa ?_
 refine aa (cF (a:=true) ?_ (ab (ab hs)))
 kernel_rfl
theorem E0{prog:eE}{a:aB}{k:Nat}{Q:pH->ag->Prop}(ha:s.heap.get? a=some (mY #[.type "str",.type "bytes"] k))(hq:Q (.done (.ret (.bool true))) s) :
  aq (aw prog w) A (Builtin.«issubclass.nested» ⟨[.type "str",.ref a,gD 0],[]⟩) Q E s:=by
 have hT:s.TypeIs (.ref a) "tuple":=⟨_,ha,rfl⟩
 unfold Builtin.«issubclass.nested»
 show aq _ A (typeOf (.ref a)>>=_) _ _ _
 refine aa (ki hT ?_)
 rw [if_neg (by decide)]
 refine aa (m:=LQ (.ref a)) (aa (ki hT ?_))
 rw [if_neg (by decide)]
 refine ab ?_
 refine aa (kR hT x8 ?_)
 rw [if_pos rfl]
 show aq _ A (if(0:Int)≥LR then _ else _) _ _ _
 rw [if_neg (by decide)]
 show aq _ A (jf (.ref a)>>=_) _ _ _
 refine aa (cZ ha rfl ?_)
 refine aa ?_
 rw [<-lF]
 show aq _ A (nI [lE "str",lE "bytes"] _ _) _ _ _
 rw [ey]
 refine aa (aa (call_function_meets HE Ev PySem.F.entry_issubclass_nested (IV _ _ _) EJ ?_))
 dsimp only [wants]
 refine aa (gu ?_)
 rw [if_pos rfl]
 exact aa (ab (ab (ab (ab hq))))
theorem HL(G:Gd H0 I ρ R s.heap){u:af}(hu:cn I ρ (.tup [.val (.type "str"),.val (.type "bytes")]) u):aq (aw pw w) A (call (.builtin "issubclass") [.type "str",u]) (fP H0 I ρ s (.bool true) R) E s:=by
 obtain⟨_,a,xs,k,rfl,ha,v1,r1,rfl,rfl,v2,r2,rfl,rfl,rfl⟩:=hu
 have hg:=G.imm _ _ ha
 have g:A2 (Builtin.«issubclass» ⟨[.type "str",.ref a],[]⟩) (λζ R s=>s.heap.get? a=some (mY #[.type "str",.type "bytes"] k)/\R (.ok (.ret (.bool true))) s):=
  λζ ζ ζ ζ ζ hs=>issubclass_outer (E0 hs.1 hs.2)
 exact call_issubclass g ⟨hg,d8 G jr⟩
theorem Ig{a b:Expr}{pos:dS}{x:PV}(DT:vG)(h1:dP H0 w n cx a σ R x R1){c:Bool}(hc:qh R1 x=some c)(h2:if c then v=x/\R2=R1 else dP H0 w n cx b σ R1 v R2):dP H0 w n cx (.BoolOp .Or [a,b] pos) σ R v R2:=by
 intro A E I ρ env s hR G O
 refine BoolOp_or (h1.then hR G O λI1 ρ1 u s1 x1 hu O1 G1=>ar (zg DT G1 hc hu) (λd s2 q=>?_) λζ ζ e=>e)
 obtain⟨I2,ρ2,x2,rfl⟩:=q
 cases d with
 | true=>
  obtain⟨rfl,rfl⟩:=h2
  exact⟨I2,ρ2,x1.trans G x2,hu.le x2⟩
 | false=>
  exact BoolOp_one (ar (h2 A E I2 ρ2 env s2 hR x2.good (O1.step x2)) (λu' s' q=>fP.mono_ G (x1.trans G x2) q) λζ ζ e=>e)
theorem MX(k:Nat)(b x:LS):Txt.replace (S x) ⟨#[k]⟩ (S b)=S (dN k b x):=by
 rw [StrLaws.replace_one,xH,xY,Bv]
theorem Cd{a c b x:Str}{px p0 p1 p2 apos pos bpos:dS}{k0 k1 k2 k:Nat}{y:LS}(hx:σ.lookup x=some (.str y))(hc:ls c=[k])(hb:(ls b).length<=14)(hne:(c==b)=false)(ha:jb (ls a)=true)(hbs:jb (ls b)=true)(hal:(ls a).length<=SZ)
  (hline:(apos.endLine==pos.line)=true)(hv:mkS (ls a++dN k (ls b) y)=some v) :
  dP H0 w n cx (.BinOp (.Constant (.str a) k0 p0) .Add (.Call (.Attribute (.Name x px) "replace" apos) [.Constant (.str c) k1 p1,.Constant (.str b) k2 p2] [] pos) bpos) σ R v R:=by
 intro A E I ρ env s hR G O
 obtain⟨kk,hk⟩:=zD O hx
 refine wpAny_BinOp (mL (Call_method2 rfl rfl hline (dw (uO (s:={ s with toks:=s.toks+1 }) O hx λu hu=>?_) (dm O hk))))
 obtain⟨g1,g2,t,rfl⟩:=hu
 refine⟨"str",_,mT,PySem.F.slot_str_replace,PySem.F.type_str_replace,kU _ _ _,(λζ e=>nomatch e),?_⟩
 refine y6 rfl (kt (fG (mL (fG (mL (hO ?_))))))
 show aq (aw pw w) A (call (.builtin "str.replace") [.str (S y) t,.str c (s.toks+1),.str b (s.toks+1+1)] []) _ E { s with toks:=s.toks+1+1+1 }
 refine SC.replaceW (tX _) (tX _) (dU (dy _)) hne (by rw [dW];exact ah g1 (by decide)) (by rw [<-wk b,dW];exact hb) (λt' j=>?_)
 have e1:Txt.replace (S y) c b=S (dN k (ls b) y):=by
  have ec:c=⟨#[k]⟩:=by rw [<-wk c,hc]
  rw [<-MX,wk,ec]
 rw [e1]
 have hl:=(ou hv).1
 have hb2:Cu .Add (.str (ls a)) (.str (dN k (ls b) y))=some v:=hv
 have st:a9 H0 eg I ρ s I ρ R { s with toks:=j }:=a9.toks G m6 _
 refine ar (As (s:={ s with toks:=j }) st.good hb2 ?_ (oU (ah (by rw [ai];exact gZ _ _) hl) ?_)) (λu' s' q=>fP.mono_ G st q) λζ ζ e=>e
 ·have:=oU (I:=I) (ρ:=ρ) (t:=s.toks) hal ha
  rwa [wk]at this
 ·refine xL (b:=y++ls b) (λz hz=>?_) (lb g2 hbs)
  unfold dN at hz
  obtain⟨q,hq,hz⟩:=tr.mp hz
  split at hz
  ·exact cf _ hz
  ·rw [aC.mp hz];exact fY _ hq
theorem NB(tgt:Expr)(it:af)(i:Int)(t:vR):c0 tgt it (.int i t)=b8 ():=by
 rcases B1 tgt with e | ⟨_,e⟩
 ·exact e _ _
 ·exact(e _ _).trans (by cases it<;>rfl)
theorem zB(N:Int)(i:Nat){x:PV}{r:List PV}(h:x::r=(iH N).drop i):i<N.toNat/\x = .int (i:Int)/\r=(iH N).drop (i+1):=by
 have hi:i<(iH N).length:=by
  rcases eY i (iH N).length with h1 | h1
  ·exact h1
  ·rw [fC h1]at h;cases h
 rw [bZ hi]at h
 injection h with h1 h2
 have hl:(iH N).length=N.toNat:=by unfold iH;simp
 refine⟨by exact Vp hi hl,?_,h2⟩
 have h3:(iH N)[i]? = some (.int (i:Int)):=by
  unfold iH
  rw [jG,List.getElem?_range (by exact Vp hi hl)]
  rfl
 rw [bQ hi,<-h1]at h3
 exact aW h3
theorem BQ(hh:A.handled=none){tgt:Expr}{rr:aB}{N:Int}{t0 t1 t2:vR}(G:Gd H0 I ρ R s.heap)(hr:IsRange s.heap rr 0 N 1 t0 t1 t2)(hlo : -1000000<=N)(hhi:N<=1000000) :
  aq (aw pw w) A (mP (.ref rr)) (λit s'=>∃Z St,Jb H0 w A tgt it Z St/\St (iH N) I ρ s'/\a9 H0 eg I ρ s I ρ R s' /\ ∀a,Z a->s.heap.get? a=none) E s:=by
 refine wpAny_pyIter_range hr (small_one (by decide) (by decide) (iN (by decide) hlo) (Gi hhi (by decide))) ?_
 generalize hJ:s.heap.objs.size=J
 have hJn:s.heap.get? J=none:=hJ▸ct _
 have hsz:so 0 N 1=(N.toNat:Int):=by
  rw [rangeSize_one]
  by_cases h:0<N
  ·rw [if_pos h,qC (sV h),Int.sub_zero]
  ·rw [if_neg h,FV (nW.mp h)];rfl
 refine⟨λa=>a=J,λl I ρ s=>∃i:Nat,IsRangeIter s.heap J (i:Int) ((N.toNat:Int)-(i:Int)) 1/\l=(iH N).drop i/\i<=N.toNat /\ ¬fK I ρ J,⟨?_,?_,?_,λl I ρ s Q E ⟨i,h1,_⟩ hq=>wpAny_pyIter_rangeiter h1 hq,?_⟩,?_,?_,λa ha=>ha▸hJn⟩
 ·rintro l I ρ s ⟨i,h1,h3,h4,h5⟩ a rfl
  exact⟨h5,by rw [show s.heap.get? a=_ from h1];exact λh=>nomatch h⟩
 ·rintro l I ρ R s I' ρ' R' s' X0 Z0 G ⟨i,h1,h3,h4,h5⟩ x hz
  obtain⟨z1,z2⟩:=hz J rfl
  refine⟨i,x.kept h1 (bK rfl) (λq=>h5 (am q)) z1 z2,h3,h4,λq=>?_⟩
  ·rcases x.new J q with q | q | q
   ·exact h5 q
   ·rw [show s.heap.get? J=_ from h1]at q;cases q
   ·exact z2 q
 ·rintro x r I ρ R s E G ⟨i,h1,h3,h4,h5⟩
  obtain⟨h6,rfl,rfl⟩:=zB N i h3
  refine wpAny_pyNext_range_item h1 (by exact Wu h6) λh' hit' hs'=>?_
  refine⟨_,rfl,cF (NB tgt _ _ _) ⟨I,ρ,aR.quiet G (λa ha=>ha▸h5) (λa o ha e=>(hs'.2 a ha).trans e) rfl rfl (λa ha=>ha▸G.notStk h1 (bK rfl)),tF,i+1,?_,rfl,h6,h5⟩⟩
  have e1:((i+1:Nat):Int)=(i:Int)+1:=by exact Wt
  have e2:(N.toNat:Int)-((i+1:Nat):Int)=(N.toNat:Int)-(i:Int)-1:=by exact Ws
  rw [e1,<-e1,e2,e1]
  exact hit'
 ·rintro I ρ R s E G ⟨i,h1,h3,h4,h5⟩
  have hl:(iH N).length=N.toNat:=by unfold iH;simp
  have hi:N.toNat<=i:=by
   rw [<-hl]
   exact CV.mp h3.symm
  refine wpAny_pyNext_range_end hh h1 (by exact Wr hi) λh' he=>?_
  exact⟨rfl,I,ρ,aR.quiet G (λa ha=>ha▸h5) (λa o ha e=>he a o ha e) rfl rfl (λa ha=>ha▸G.notStk h1 (bK rfl))⟩
 ·refine⟨0,?_,rfl,bp _,bA G hJn⟩
  have e2:((N.toNat:Int)-((0:Nat):Int))=so 0 N 1:=by rw [hsz];simp
  rw [e2,<-hJ]
  exact aU _ rfl
 ·exact a9.quiet G m6 (λa o ζ e=>au _ e) (λa ha=>ha.elim) rfl rfl
theorem EX(B:dC w H0.heap){g:Str}{np pos:dS}{N:Int}(hg:gl cx g=true)(hgv:ff g=some (.type "range"))(h1:dP H0 w n cx e σ R (.int N) R1)(hlo : -1000000<=N)(hhi:N<=1000000)
  (hs:∀env:d7,bU [e] env=[(false,ej e env)]):FZ H0 w n cx tgt (.Call (.Name g np) [e] [] pos) σ R (iH N) σ R1:=by
 refine⟨λenv x=>rfl,λA E I ρ env s hR G O=>?_⟩
 refine qc (hs env) (dw (cH B G O hg hgv ?_) (dm O (O.glo g hg)))
 refine callWith_type1 (h1.then hR G O λI1 ρ1 u s1 x1 hu O1 G1=>?_)
 obtain⟨t,rfl⟩:=hu
 refine call_range_1 ?_
 have st:a9 H0 eg I1 ρ1 s1 I1 ρ1 R1 { s1 with heap:=s1.heap.push { cls:=.type "range",data:=.fields #[.int 0 s1.toks,.int N t,.int 1 (s1.toks+1)] },toks:=s1.toks+1+1 }:=
  a9.quiet G1 m6 (λa o ζ e=>au _ e) (λa ha=>ha.elim) rfl rfl
 refine ar (BQ hR.1 (tgt:=tgt) st.good (IsRange.new ..) hlo hhi) (λit s2 q=>?_) λζ ζ e=>e
 obtain⟨Z,St,its,st',x2,hz⟩:=q
 exact⟨I1,ρ1,Z,St,its,st',(x1.trans G st).trans G x2,(O1.step st).step x2,λa ha=>by
  cases e:s.heap.get? a with
  | none=>rfl
  | some q=>exact absurd (hz a ha) (st.alive a (x1.alive a (by rw [e];exact λh=>nomatch h)))⟩
theorem aR.addfresh(x:aR H0 X Z I ρ s I' ρ' R' s'){D:aB}{o:jh}(hz:s.heap.get? D=none)(hd:s'.heap.get? D=some o)(hn:¬fK I' ρ' D)(hs:D ∉ H0.stk):aR H0 X Z I ρ s (jY I' D o) ρ' R' s':=by
 have hI:I' D=none:=by
  cases e:I' D with
  | none=>rfl
  | some o=>exact absurd (av (by rw [e];exact λh=>nomatch h)) hn
 refine⟨λa o' e=>nl hI a o' (x.le a o' e),x.pre,λa h=>?_,x.keep,x.alive,x.good.addfact hd hn hs,x.os,x.gens⟩
 by_cases ha:a=D
 ·subst ha;exact am (av hz)
 ·rcases h with h | h
  ·unfold jY at h
   rw [if_neg ha]at h
   exact x.new a (av h)
  ·exact x.new a (am h)
inductive Ir(J K ax:aB)(xs:List af)(k:Nat)(l:List PV)(I:dB)(ρ:dI)(s:ag):Prop
 | mk (i:Nat) (old:af) (r:List PV) (o:jh) (e:l=mz i r) (pK:Pv I ρ s K { cls:=.type "enumerate",dict:=none,data:=.fields #[.none,.bool false,.ref J,gD (i:Int),.none,old],slots := #[] }) (pJ:Pv I ρ s J o) (c:o.cls = .type "list_iterator") (d:o.data = .fields #[.ref ax,.int i 0]) (h:I ax=some (cD xs.toArray k)) (r':a0 I ρ r (xs.drop i)):Ir J K ax xs k l I ρ s
theorem EZ(hh:A.handled=none){tgt:Expr}(htg:fy tgt=true){l:List PV}{ax J K:aB}{xs:List af}{k:Nat}(G:Gd H0 I ρ R s.heap)(hax:I ax=some (cD xs.toArray k))(hr:a0 I ρ l xs)
  (hK:IsEnum s.heap K J 0 .none)(hJ:s.heap.IsListIter J ax 0)(hJo:¬fK I ρ J)(hKo:¬fK I ρ K)(hne:K≠J) :
  aq (aw pw w) A (mP (.ref K)) (λit s'=>s'=s /\ ∃St,Jb H0 w A tgt it (λa=>a=J\/a=K) St/\St (mz 0 l) I ρ s') E s:=by
 refine wpAny_pyIter_enum hK ?_
 obtain⟨oJ,eJ,cJ,dJ⟩:=hJ
 refine⟨rfl,Ir J K ax xs k,⟨λl I ρ s h=>?_,λl I ρ R s I' ρ' R' s' X0 Z0 G h x hz=>?_,λx rest I ρ R s E G h=>?_,λl I ρ s Q E h hq=>?_,λI ρ R s E G h=>?_⟩,0,.none,l,oJ,rfl,⟨hK,bK rfl,hKo⟩,⟨eJ,bK dJ,hJo⟩,cJ,dJ,hax,hr⟩
 ·obtain⟨i,old,r,o,h0,pK,pJ,c,d,h3,h4⟩:=h
  exact Og (P:=λa=>¬fK I ρ a/\s.heap.get? a≠none) pJ.own pK.own
 ·obtain⟨i,old,r,o,h0,pK,pJ,c,d,h3,h4⟩:=h
  exact⟨i,old,r,o,h0,pK.keep x (hz K (am rfl)),pJ.keep x (hz J (av rfl)),c,d,x.le _ _ h3,h4.leZ x⟩
 ·obtain⟨i,old,r,o,h0,pK,pJ,c,d,h3,h4⟩:=h
  cases r with
  | nil=>cases h0
  | cons y r=>
   injection h0 with h0 h0'
   subst h0;subst h0'
   obtain⟨v,h7,h8,h9⟩:=h4.get rfl
   have hT:s.heap.get? s.heap.objs.size=none:=ct _
   refine wpAny_pyNext_enum_item pK.at_ ⟨o,pJ.at_,c,d⟩ ⟨_,G.imm _ _ h3,rfl,k,rfl⟩ (x:=v) (by rw [bV];exact h7) hne λh' ho hit' htup hsz hk=>?_
   refine⟨_,rfl,?_⟩
   cases tgt with
   | Tuple elts x1 tp=>
    refine wpAny_letOwnedTupleGo_enum ho λh'' he' hs'=>?_
    have hTK:s.heap.objs.size≠K:=λq=>pK.own.2 (q▸hT)
    have hTo:¬fK I ρ s.heap.objs.size:=bA G hT
    have htup':h''.get? s.heap.objs.size=some (mY #[.int (i:Int) s.toks,v] 0):=(hs'.2 _ hTK).trans htup
    have q0:aR H0 eg (λa=>a=J\/a=K) I ρ s I ρ R { s with heap:=h'',toks:=s.toks+1 }:=aR.quiet G (Og (P:=λa=>¬fK I ρ a) pJ.no pK.no)
     (λa o ha e=>(hs'.2 a (λq=>ha (am q))).trans (hk a o (λq=>ha (am q)) (λq=>ha (av q)) e)) rfl rfl (Og (P:=λa=>a ∉ H0.stk) (pJ.stk G) (pK.stk G))
    have q1:=q0.addfresh hT htup' hTo (G.freshStk hT)
    have no:∀a,s.heap.get? a≠none->¬fK I ρ a->¬fK (jY I s.heap.objs.size (mY #[.int (i:Int) s.toks,v] 0)) ρ a:=λa ha hn q=>q.elim (λq=>q ((if_neg λ(hb:a=s.heap.objs.size)=>ha (hb.symm▸hT)).trans (kJ hn))) λq=>hn (am q)
    obtain⟨o',e1,c',d'⟩:=hit'.extBut hs'.extBut (dg hne)
    exact⟨_,ρ,q1,⟨by show 2<=SZ;decide,_,[.int (i:Int) s.toks,v],0,rfl,if_pos rfl,a0.cons ⟨_,rfl⟩ (a0.cons (h8.leZ q1) a0.nil)⟩,i+1,v,r,o',rfl,⟨he',bK rfl,no K pK.own.2 pK.no⟩,⟨e1,bK d',no J pJ.own.2 pJ.no⟩,c',d',q1.le _ _ h3,h9.leZ q1⟩
   | _=>cases htg
 ·obtain⟨i,old,r,o,h0,pK,_⟩:=h
  exact wpAny_pyIter_enum pK.at_ hq
 ·obtain⟨i,old,r,o,h0,pK,pJ,c,d,h3,h4⟩:=h
  cases r with
  | cons y r=>cases h0
  | nil=>
   refine wpAny_pyNext_enum_end hh pK.at_ ⟨o,pJ.at_,c,d⟩ ⟨_,G.imm _ _ h3,rfl,k,rfl⟩ h4.none_ λh' he=>?_
   exact⟨rfl,I,ρ,aR.quiet G (Og (P:=λa=>¬fK I ρ a) pJ.no pK.no) (λa o ha e=>he a o (λq=>ha (av q)) e) rfl rfl (Og (P:=λa=>a ∉ H0.stk) (pJ.stk G) (pK.stk G))⟩
theorem HI(B:dC w H0.heap)(htg:fy tgt=true){g:Str}{np pos:dS}{l:List PV}(hg:gl cx g=true)(hgv:ff g=some (.type "enumerate"))(h1:dP H0 w n cx e σ R (.list l) R1)
  (hs:∀env:d7,bU [e] env=[(false,ej e env)]):FZ H0 w n cx tgt (.Call (.Name g np) [e] [] pos) σ R (mz 0 l) σ R1:=by
 refine⟨λenv x=>rfl,λA E I ρ env s hR G O=>?_⟩
 refine qc (hs env) (dw (cH B G O hg hgv ?_) (dm O (O.glo g hg)))
 refine callWith_type1 (h1.then hR G O λI1 ρ1 u s1 x1 hu O1 G1=>?_)
 obtain⟨hl,ax,xs,k,rfl,hax,hr⟩:=hu
 refine call_enumerate_1 (G1.imm _ _ hax) λh' he hit hsz hk=>?_
 have st:a9 H0 eg I1 ρ1 s1 I1 ρ1 R1 { s1 with heap:=h' }:=a9.quiet G1 m6 (λa o ζ e=>hk a o e) (λa ha=>ha.elim) rfl rfl
 have f1:s1.heap.get? s1.heap.objs.size=none:=ct _
 have f2:s1.heap.get? (s1.heap.objs.size+1)=none:=pL (di _)
 have back:∀a,s1.heap.get? a=none->s.heap.get? a=none:=λa ha=>by
  cases e:s.heap.get? a with
  | none=>rfl
  | some q=>exact absurd ha (x1.alive a (by rw [e];exact λh=>nomatch h))
 refine ar (EZ (s:={ s1 with heap:=h' }) hR.1 htg st.good hax hr he hit (bA G1 f1) (bA G1 f2) (JG _)) (λit s2 q=>?_) λζ ζ e=>e
 obtain⟨rfl,St,its,st'⟩:=q
 exact⟨I1,ρ1,_,St,its,st',x1.trans G st,O1.step st,λa ha=>ha.elim (λq=>q▸back _ f1) (λq=>q▸back _ f2)⟩
theorem kI:Slot "collections.deque" "__len__" "collections.deque.__len__":=
 .of (owner:="collections.deque") (n:="__len__") (by rw [d4,cg];kernel_rfl) (by decide+kernel) (by decide+kernel) (by decide+kernel)
  (by first | exact .inl (by decide+kernel) | exact .inr (by decide+kernel)) (by rw [fR];kernel_rfl)
theorem v4:Slot "collections.deque" "__init__" "collections.deque.__init__":=
 .of (owner:="collections.deque") (n:="__init__") (by rw [d4,cg];kernel_rfl) (by decide+kernel) (by decide+kernel) (by decide+kernel)
  (by first | exact .inl (by decide+kernel) | exact .inr (by decide+kernel)) (by rw [fR];kernel_rfl)
theorem wd:mR AP "collections.deque.__len__"=some Builtin.«collections.deque.__len__»:=gP ∅
theorem vl:mR AP "collections.deque.__init__"=some Builtin.«collections.deque.__init__»:=gP ∅
theorem wc:mR AP "collections.deque.__new__"=some Builtin.«collections.deque.__new__»:=gP ∅
theorem yE(a:af):lY "collections.deque.__len__" ⟨[a],[]⟩:=by unfold lY;kernel_rfl
theorem wg(a:af):lY "collections.deque.__init__" ⟨[a],[]⟩:=by unfold lY;kernel_rfl
theorem uF:mM (.type "collections.deque") "__bool__"=b8 none:=by rw [d4,cg];kernel_rfl
theorem Dc:mroOf (.type "collections.deque")=b8 [.type "collections.deque",.type "object"]:=by rw [mroOf_type];kernel_rfl
theorem uN:mM (.type "collections.deque") "__new__"=b8 (some (.builtin "collections.deque.__new__")):=by rw [d4,cg];kernel_rfl
theorem vw:TypeCalled "collections.deque" "collections.deque.__new__" "collections.deque.__init__":=
 ⟨by decide+kernel,by decide+kernel,⟨_,_,Dc⟩,madeBy_type Dc uN (by decide+kernel),by decide+kernel,by rw [fR];kernel_rfl,v4⟩
theorem xA:checkTypeCall "collections.deque" ⟨[],[]⟩=b8 ():=∅
theorem zI:pA "collections.deque.__new__" ⟨[.type "collections.deque"],[]⟩=b8 ():=∅
noncomputable abbrev Ak:jh:={ cls:=.type "collections.deque",data:=.fields #[.none,gD 0] }
theorem BU:F4 (.type "collections.deque")=b8 true:=∅
theorem Iw:typeHasDict (.type "collections.deque")=false:=by decide+kernel
theorem v8:A2 (Builtin.«collections.deque.__new__» ⟨[.type "collections.deque"],[]⟩) (λζ R s=>R (.ok (.ret (.ref s.heap.objs.size))) { s with heap:=s.heap.push Ak }):=by
 intro prog w A R s h
 have hsub:=vw.sub
 unfold Builtin.«collections.deque.__new__» Builtin.Deque.newArgs
 dsimp only
 refine aa (aa (cF BU ?_))
 simp only [qF,a8,if_false]
 refine aa (cF hsub ?_)
 simp only [qF,a8,if_false]
 refine ab ?_
 dsimp only
 refine aa ?_
 unfold Builtin.Deque.new
 rw [if_neg (by decide)]
 rw [Iw]
 simp only [a8,if_false]
 refine aa (ab (ce ?_))
 exact ab h
theorem rY{M:rI}{a:aB}{o:jh}{vs:Array af}{Q:Array af->ag->Prop}(ho:s.heap.get? a=some o)(hd:o.data = .fields vs)(h:Q vs s):aq M A (fieldsOf (.ref a)) Q E s:=by
 unfold fieldsOf
 dsimp only
 refine aa (pV ho ?_)
 rw [hd]
 exact ab h
theorem uH(a:aB):A2 (Builtin.«collections.deque.__init__» ⟨[.ref a],[]⟩) (λζ R s=>s.heap.get? a=some Ak /\ ∀h',h'.get? a=some Ak->sm a s.heap h'->R (.ok (.ret .none)) { s with heap:=h' }):=by
 intro prog w A R s h
 unfold Builtin.«collections.deque.__init__»
 dsimp only
 rw [if_neg (by decide)]
 show aq _ _ (b8 ()>>=_) _ _ _
 refine aa (ab ?_)
 refine aa (m:=nI [] DR _) (ab ?_)
 show aq _ _ (setField (.ref a) 0 .none>>=_) _ _ _
 refine aa (wpAny_setField_rec h.1 (by decide) λh' hd hs=>?_)
 replace hd:h'.get? a=some Ak:=hd
 unfold Builtin.Deque.clear Builtin.Deque.items
 refine aa (aa (aa (rY (s:={ s with heap:=h' }) hd rfl (ab ?_))))
 rw [if_neg (by decide)]
 exact ab (ab (h.2 h' hd hs))
theorem vo:vG:=by
 intro w A E s a Q hd hq
 obtain⟨o,ho,hc,hdd,x,y,hda⟩:=hd
 have hT:s.TypeIs (.ref a) "collections.deque":=⟨o,ho,hc⟩
 have key:aq (aw pw w) A (runValue (.builtin "len" ⟨[.ref a],[]⟩)) (λr s'=>r = .int 0 (s.toks+1)/\Q false s') E s:=by
  refine wpAny_runValue (bB entry_len ?_)
  rw [bh plain_len _]
  unfold Builtin.«len»
  refine aa (m:=oneArg "len" _) (ab ?_)
  refine aa (m:=callSpecial? (.ref a) (em "__len__")) (gN (name:=em "__len__") hT kI (ei kI hT wd ?_ (yE _)))
  show aq _ _ (vV (.ref a)>>=_) _ _ s
  unfold vV
  refine aa (aa (rY ho hda (ab ?_)))
  refine aa (wpAny_mkInt (ab ⟨_,rfl,?_⟩))
  refine aa (aY (ab ?_))
  refine aa (dR ?_)
  show aq _ _ (if(0:Int)<0 then _ else _) _ _ _
  rw [if_neg (by decide)]
  show aq _ _ (if(0:Int)≥2 ^ 63 then _ else _) _ _ _
  rw [if_neg (by decide)]
  exact aa (wpAny_mkInt (ab ⟨rfl,hq _⟩))
 unfold F1
 first
  | refine aa (FJ (name:=em "__bool__") hT uF ?_)
  | refine aa (ab (aa (FJ (name:=em "__bool__") hT uF ?_)))
 first
  | refine aa (gn (name:=em "__len__") hT kI.lookup ?_)
  | refine aa (ab (aa (gn (name:=em "__len__") hT kI.lookup ?_)))
 first
  | exact aa (ar key (λr s' h'=>by obtain⟨rfl,hq⟩:=h';exact ab hq) λζ ζ e=>e)
  | exact aa (ab (aa (ar key (λr s' h'=>by obtain⟨rfl,hq⟩:=h';exact ab hq) λζ ζ e=>e)))
theorem Iy(G:Gd H0 I ρ R s.heap):aq (aw pw w) A (call (.type "collections.deque") []) (fP H0 I ρ s (.obj R.length) (R++[.deq])) E s:=by
 have hn:s.heap.get? s.heap.objs.size=none:=ct _
 refine callType_meets (Q₁:=λu s1=>u = .ref s.heap.objs.size/\s1={ s with heap:=s.heap.push Ak }) vw xA zI wc vl v8 ⟨rfl,rfl⟩ ?_
 rintro obj s1 ⟨rfl,rfl⟩
 have hat:(s.heap.push Ak).get? s.heap.objs.size=some Ak:=aU _ rfl
 refine⟨⟨_,hat,rfl⟩,wg _,_,uH _,hat,λh' hd hs=>⟨rfl,?_⟩⟩
 have st:a9 H0 eg I ρ s I (ρ++[(s.heap.objs.size,s.heap.objs.size)]) (R++[.deq]) { s with heap:=h' }:=by
  refine a9.recd (p:=(s.heap.objs.size,s.heap.objs.size)) G hn hn (λb o e=>?_) ⟨rfl,Ak,hd,rfl,rfl,_,_,rfl⟩ rfl rfl
  exact(hs.2 b (λq=>by subst q;rw [hn]at e;cases e)).trans (au _ e)
 refine⟨I,_,st,?_⟩
 exact⟨_,by rw [<-G.len,bI (aF _),eX];rfl,rfl⟩
theorem Ij(B:dC w H0.heap){g:Str}{np pos:dS}(hg:gl cx g=true)(hgv:ff g=some (.type "collections.deque")):dP H0 w n cx (.Call (.Name g np) [] [] pos) σ R (.obj R.length) (R++[.deq]):=by
 intro A E I ρ env s hR G O
 refine fe (dw (cH B G O hg hgv ?_) (dm O (O.glo g hg)))
 exact CN rfl (CM (Iy G))
end
end
end Mine
end
section
namespace Mine
open PySem.Sre
noncomputable def ef:Array Nat := #[14,17,4,1,1,21,9,0,604043296,1,0,0,0,0,0,8,4,0,13,14,21,9,0,604043296,1,0,0,0,0,0,8,4,0,1]
noncomputable def Eh(c:Nat):Bool:=c<256&&((ef.getD (7+c / 32) 0).testBit (c % 32))
theorem xy:∀c:Fin 256,cU c.val = !(Eh c.val||isWord c.val):=by decide+kernel
theorem wx(c:Nat):cU c = !(Eh c||isWord c):=by
 by_cases h:c<256
 ·exact xy ⟨c,h⟩
 ·have h1:Eh c=false:=by unfold Eh;simp [h]
  rw [h1]
  unfold cU isWord isDigit
  have e:∀k:Nat,k<256->(c==k)=false:=λk hk=>beq_eq_false_iff_ne.mpr (by exact Wq h hk)
  have e2:∀k:Nat,k<256->decide (c<=k)=false:=λk hk=>decide_eq_false (by exact Wp h hk)
  simp only [e _ (by decide:95<256),e _ (by decide:64<256),e _ (by decide:37<256),e _ (by decide:43<256),e _ (by decide:61<256),e _ (by decide:58<256),e _ (by decide:44<256),e _ (by decide:46<256),e _ (by decide:47<256),e _ (by decide:45<256),
   e2 _ (by decide:57<256),e2 _ (by decide:90<256),e2 _ (by decide:122<256),jK,Bool.or_false]
theorem Fy(c:Nat):(ef.getD (21+(1+c / 32)) 0).testBit (c % 32)=(ef.getD (6+(1+c / 32)) 0).testBit (c % 32)\/256<=c:=by
 by_cases h:c<256
 ·left
  have:∀c:Fin 256,(ef.getD (21+(1+c.val / 32)) 0).testBit (c.val % 32)=(ef.getD (6+(1+c.val / 32)) 0).testBit (c.val % 32):=by decide+kernel
  exact this ⟨c,h⟩
 ·exact am (b9 h)
theorem C5(c:Nat):Eh c=(decide (c<256)&&(ef.getD (6+(1+c / 32)) 0).testBit (c % 32)):=by
 unfold Eh
 rw [show 7+c / 32=6+(1+c / 32) by exact Wo]
theorem IL(c:Nat):category 4 c = .ok (isWord c):=by
 show Except.ok (bne _ _)=_
 exact congrArg Except.ok (Bool.bne_false _)
theorem uY(c n i:Nat)(hi:i=15\/i=30)(seen:sQ):∃s',inSet ef c (n+2) i false seen = .ok (!isWord c,s'):=by
 have h:inSet ef c (n+2) i false seen=(do
   if <-category 4 c then b8 (false,(seen.add 8).add 59)else inSet ef c (n+1) (i+2) false ((seen.add 8).add 59)):=by
  rcases hi with rfl | rfl<;>rfl
 rw [h,IL]
 cases hw:isWord c with
 | true=>exact⟨_,rfl⟩
 | false=>
  rcases hi with rfl | rfl<;>exact⟨_,rfl⟩
theorem E2(c:Nat)(seen:sQ):∃s',inSet ef c ef.size 5 true seen = .ok (cU c,s'):=by
 rw [wx,C5]
 have h:inSet ef c ef.size 5 true seen=(if(decide (c<256)&&(ef.getD (6+(1+c / 32)) 0).testBit (c % 32))=true then .ok (false,(seen.add 21).add 9)else inSet ef c 32 15 false ((seen.add 21).add 9)):=rfl
 rw [h]
 cases hc:(decide (c<256)&&(ef.getD (6+(1+c / 32)) 0).testBit (c % 32))with
 | true=>rw [if_pos rfl];exact⟨_,rfl⟩
 | false=>
  rw [if_neg aX,yP]
  exact uY c 30 15 (av rfl) _
theorem BZ(c:Nat)(seen:sQ):∃s',inSet ef c ef.size 20 true seen = .ok (cU c,s'):=by
 rw [wx,C5]
 have h:inSet ef c ef.size 20 true seen=(if(decide (c<256)&&(ef.getD (21+(1+c / 32)) 0).testBit (c % 32))=true then .ok (false,(seen.add 21).add 9)else inSet ef c 32 30 false ((seen.add 21).add 9)):=rfl
 have e:(decide (c<256)&&(ef.getD (21+(1+c / 32)) 0).testBit (c % 32))=(decide (c<256)&&(ef.getD (6+(1+c / 32)) 0).testBit (c % 32)):=by
  rcases Fy c with q | q
  ·rw [q]
  ·rw [decide_eq_false (dF.mpr q)];rfl
 rw [h,e]
 cases hc:(decide (c<256)&&(ef.getD (6+(1+c / 32)) 0).testBit (c % 32))with
 | true=>rw [if_pos rfl];exact⟨_,rfl⟩
 | false=>
  rw [if_neg aX,yP]
  exact uY c 30 30 (am rfl) _
theorem wh(m:l5)(fuel s:Nat)(seen:sQ):m.admitted (fuel+1) s seen=if s≥m.lim then .ok (none,seen)else match inSet m.code (m.text.getD s 0) m.code.size 5 true seen with | .ok (true,seen)=>.ok (some s,seen) | .ok (false,seen)=>m.admitted fuel (s+1) seen | .error why=>.error why:=rfl
theorem wi(m:l5)(hc:m.code=ef)(l:LS)(ht:m.text=l.toArray)(hl:m.lim=l.length):∀(fuel s:Nat) (seen:sQ),s<=l.length->l.length+1-s<=fuel ->
  (((l.drop s).any cU=false /\ ∃s',m.admitted fuel s seen = .ok (none,s'))\/((l.drop s).any cU=true /\ ∃i s',i<l.length/\cU (l.getD i 0)=true/\m.admitted fuel s seen = .ok (some i,s'))):=by
 intro fuel
 induction fuel with
 | zero=>
  intro s seen h1 h2
  exact absurd h2 (eT (sS (sT h1)))
 | succ fuel ih=>
  intro s seen h1 h2
  rw [wh]
  by_cases h:s≥m.lim
  ·rw [if_pos h]
   left
   rw [fC (by exact Wn hl h)]
   exact⟨rfl,_,rfl⟩
  ·rw [if_neg h]
   have hs:s<l.length:=by exact Wm hl h
   have hd:l.drop s=l[s]::l.drop (s+1):=bZ hs
   have hg:m.text.getD s 0=l[s]:=by rw [ht];simp [Array.getD,hs]
   have hgd:l.getD s 0=l[s]:=by simp [List.getD,hs]
   obtain⟨s',hi⟩:=E2 l[s] seen
   rw [hg,hc,hi,hd,qB]
   cases hu:cU l[s]with
   | true=>right;exact⟨rfl,s,s',hs,by rw [hgd];exact hu,rfl⟩
   | false=>
    dsimp only
    rw [yP]
    exact ih (s+1) s' hs (by exact Wl h2)
noncomputable def m0(l:LS):l5:={ code:=ef,text:=l.toArray,lim:=l.length,start:=0,pc:=18,pos:=0,handed:=0,marks:=Array.replicate (2*0) none,mustAdvance:=false,seen:=({}:sQ).add 14 }
theorem yf(l:LS):forSearch ef l.toArray 0 0 l.length false=if(decide (0>l.length)||decide (l.length-0<1))=true then(m0 l).say false else FM { m0 l with lastStart:=l.length } 0 true:=rfl
noncomputable def wn(m:l5)(b:Bool):Prop:=m.outcome=some (if b then .matched else .failed)
theorem GQ(m:l5)(h1:m.outcome=none)(h2:m.answer=some false)(h3:m.frames=[])(n:Nat):wn (m.runFor (n+1)) false:=by
 have e:m.step={ m with outcome:=some .failed }:=by
  unfold Sre.M.step
  rw [h1,h2,h3]
  rfl
 show wn (if m.outcome.isSome=true then m else m.step.runFor n) false
 rw [h1,e]
 show wn (yV n { m with outcome:=some .failed }) false
 cases n with
 | zero=>rfl
 | succ n=>rfl
theorem KZ(m:l5)(c:Nat)(hc:m.code=ef)(hp:m.pc=18)(hlt:¬m.pos≥m.lim)(hg:m.text.getD m.pos 0=c)(hu:cU c=true):∃seen,m.exec={ m with seen,pc:=33,pos:=m.pos+1 }:=by
 obtain⟨s',hs⟩:=BZ c (m.seen.add 13)
 rw [hu]at hs
 refine⟨s',?_⟩
 obtain⟨code,text,lim,start,lastStart,wholeText,mustAdvance,pc,pos,handed,outermost,marks,lastmark,lastindex,loops,inner,frames,weight,answer,seen,outcome⟩:=m
 subst hc hp hg
 show(if pos≥lim then _ else match accepts ef 18 (text.getD pos 0) (seen.add 13)with | .error why=>_ | .ok (false,seen)=>_ | .ok (true,seen)=>_)=_
 rw [if_neg hlt]
 have ha:accepts ef 18 (text.getD pos 0) (seen.add 13)=inSet ef (text.getD pos 0) ef.size 20 true (seen.add 13):=rfl
 rw [ha,hs]
 rfl
theorem J8(m:l5)(i c:Nat)(hc:m.code=ef)(hp:m.pc=18)(h1:m.outcome=none)(h2:m.answer=none)(h3:m.frames=[])(hw:m.weight=0)(hwt:m.wholeText=false)(hlt:¬i≥m.lim)(hg:m.text.getD i 0=c)(hu:cU c=true) :
  wn (yV 4 ({ m with mustAdvance:=false }.attemptAt i true)) true:=by
 obtain⟨code,text,lim,start,lastStart,wholeText,mustAdvance,pc,pos,handed,outermost,marks,lastmark,lastindex,loops,inner,frames,weight,answer,seen,outcome⟩:=m
 simp only at hc hp h1 h2 h3 hw hwt hlt hg
 subst hc hp h1 h2 h3 hw hwt
 generalize hm1:Sre.M.attemptAt (JF ef text lim start lastStart false false 18 pos handed outermost marks lastmark lastindex loops inner [] 0 none seen none) i true=m1
 have e1:m1=JF ef text lim i lastStart false false 18 i i true marks (-1) (-1) loops inner [{ wait:=.nextStart,pc:=18,pos:=i,outermost:=true }] 1 none seen none:=by rw [<-hm1];rfl
 have s1:m1.step=m1.exec:=by rw [e1];rfl
 obtain⟨sn,e2⟩:=KZ m1 c (by rw [e1]) (by rw [e1]) (by rw [e1];exact hlt) (by rw [e1];exact hg) hu
 have e2':m1.step=JF ef text lim i lastStart false false 33 (i+1) i true marks (-1) (-1) loops inner [{ wait:=.nextStart,pc:=18,pos:=i,outermost:=true }] 1 none sn none:=by rw [s1,e2,e1]
 have o1:m1.outcome.isSome=false:=by rw [e1];rfl
 show wn (if m1.outcome.isSome=true then m1 else yV 3 m1.step) true
 rw [o1,if_neg aX,e2']
 rfl
end Mine
end
section
open PySem PySem.W PyProof.Rows PySem.Spec
namespace Mine
noncomputable section
section
variable {H0:Bs} {w:bG} {n m:Nat} {sp:Spec} {I I' I'':dB} {ρ ρ' ρ'':dI} {R R' R'' R1 R2 R3:List aN} {cx:Cx} {σ σ' σ1 σ2:br} {env:d7} {A:bD} {E:af->ag->Prop} {s s' s'':ag} {e l r t o tgt:Expr} {v:PV} {f:Fl} {X Y Z:aB->Prop}
theorem lP{α:Type}{M:rI}{A:bD}{E:af->ag->Prop}{s:ag}{c:Bool}{a b:tn α}{Q:α->ag->Prop}(hc:c=false)(h:aq M A b Q E s):aq M A (if c=true then a else b) Q E s:=by
 subst hc
 exact h
open PySem.Builtin in
theorem Iv{M:rI}{m:l5}{b:Bool}{Q:l5->ag->Prop}(hd:wn (m.runFor 4) b)(hq:Q (m.runFor 4) s):aq M A (Re.reDrive (2 ^ 64) m) Q E s:=by
 obtain⟨k,hk⟩:∃k,(2:Nat) ^ 64=k+1:=⟨2 ^ 64-1,by decide+kernel⟩
 rw [hk]
 have:(m.runFor Re.reTurnSteps).outcome.isSome=true:=by
  show(m.runFor 4).outcome.isSome=true
  unfold wn at hd
  rw [hd];rfl
 show aq M A (if(m.runFor Re.reTurnSteps).outcome.isSome=true then b8 (m.runFor Re.reTurnSteps)else _) Q E s
 rw [if_pos this]
 exact ab hq
open PySem.Builtin in
theorem Gs{M:rI}{m:l5}{b:Bool}{Q:Option l5->ag->Prop}(hd:wn (m.runFor 4) b)(hq:∀m,Q (if b then some m else none) s):aq M A (Re.reRunToEnd m) Q E s:=by
 unfold Re.reRunToEnd
 refine aa (Iv hd ?_)
 refine aa (wpAny_forIn_list _ (λζ ζ s'=>s'=s) _ (λx rest b s' hs=>?_) (λζ s' hs=>?_) _ _ rfl)
 ·subst hs
  split
  ·exact aa (iX (ab rfl))
  ·exact ab rfl
 ·subst hs
  unfold wn at hd
  rw [hd]
  cases b with
  | true=>exact ab (hq (m.runFor 4))
  | false=>exact ab (hq (m.runFor 4))
theorem zv(l:LS):wn ((Sre.forSearch ef l.toArray 0 0 l.length false).runFor 4) (l.any cU):=by
 rw [yf]
 cases l with
 | nil=>exact GQ _ rfl rfl rfl 3
 | cons x r=>
  rw [if_neg (by simp)]
  unfold FM
  have hf:Sre.M.hasFirstSet { m0 (x::r)with lastStart:=(x::r).length }=true:=rfl
  rw [hf]
  simp only [qF,a8,if_false]
  rcases wi { m0 (x::r)with lastStart:=(x::r).length } rfl (x::r) rfl rfl ((x::r).length+1-0) 0 (m0 (x::r)).seen (bp _) (aF _)with ⟨h1,s',h2⟩ | ⟨h1,i,s',h3,h4,h2⟩
  ·rw [jI]at h1
   rw [h1]
   have h2':vS { m0 (x::r)with lastStart:=(x::r).length } ({ m0 (x::r)with lastStart:=(x::r).length }:l5).lim.succ 0 ({ m0 (x::r)with lastStart:=(x::r).length }:l5).seen = .ok (none,s'):=h2
   have h2'':vS { m0 (x::r)with lastStart:=(x::r).length } (({ m0 (x::r)with lastStart:=(x::r).length }:l5).lim+1-0) 0 ({ m0 (x::r)with lastStart:=(x::r).length }:l5).seen = .ok (none,s'):=h2
   rw [h2'']
   exact GQ _ rfl rfl rfl 3
  ·rw [jI]at h1
   rw [h1]
   have h2'':vS { m0 (x::r)with lastStart:=(x::r).length } (({ m0 (x::r)with lastStart:=(x::r).length }:l5).lim+1-0) 0 ({ m0 (x::r)with lastStart:=(x::r).length }:l5).seen = .ok (some i,s'):=h2
   rw [h2'']
   refine J8 { m0 (x::r)with lastStart:=(x::r).length,seen:=s' } i ((x::r).getD i 0) rfl rfl rfl rfl rfl rfl rfl ?_ ?_ h4
   ·show ¬i≥(x::r).length
    exact Wk h3
   ·show(x::r).toArray.getD i 0=_
    have hi:i<r.length+1:=h3
    simp [Array.getD,List.getD,hi]
theorem IE:∀P,(KK pw P).lookup 188=some ⟨.type "tuple",none,.seq #[.int 14 0,.int 17 0,.int 4 0,.int 1 0,.int 1 0,.int 21 0,.int 9 0,.int 0 0,.int 604043296 0,.int 1 0,.int 0 0,.int 0 0,.int 0 0,.int 0 0,.int 0 0,.int 8 0,.int 4 0,.int 0 0,.int 13 0,.int 14 0,.int 21 0,.int 9 0,.int 0 0,.int 604043296 0,.int 1 0,.int 0 0,.int 0 0,.int 0 0,.int 0 0,.int 0 0,.int 8 0,.int 4 0,.int 0 0,.int 1 0] 0,#[]⟩:=λP=>∅
theorem G9:∀P,(KK pw P).lookup 189=some ⟨.type "re.Pattern",none,.fields #[.str "[^\\w@%+=:,./-]" 532,.int 256 569,.int 0 0,.none,.none,.ref 188,.int 0 0],#[]⟩:=λP=>∅
theorem Aq:∀P,(KK pw P).lookup 885=some ⟨.type "builtin_function_or_method",none,.fields #[.builtin "re.Pattern.search",.ref 189],#[]⟩:=λP=>∅
theorem yk:mR AP "re.Pattern.search"=some Builtin.«re.Pattern.search»:=gP ∅
theorem xO{as:Args}:(Code.builtin "re.Pattern.search" as).quiet=true:=rC _ (by decide+kernel)
theorem zu(B:dC w H0.heap)(G:Gd H0 I ρ R s.heap){l:LS}{t:vR}{A':bD}{P:pH->ag->Prop}{E':af->ag->Prop}(hl:l.length<=SZ)(h0:l.any cU=false->P (.done (.ret .none)) s)
  (h1:l.any cU=true->∀a h',(∀b o,s.heap.get? b=some o->h'.get? b=some o)->P (.done (.ret (.ref a))) { s with heap:=h' }) :
  aq (aw pw w) A' (Builtin.«re.Pattern.search» ⟨[.ref 189,.str (S l) t],[]⟩) P E' s:=by
 have B':=G.baseAt B
 unfold Builtin.«re.Pattern.search»
 refine aa ?_
 unfold Builtin.Re.reTarget
 dsimp only
 refine aa (cF (a:=[some (.str (S l) t),none,none]) ∅ ?_)
 refine aa (ab ?_)
 refine aa (ab ?_)
 refine aa (rY (B'.k _ _ (G9 _)) rfl ?_)
 refine aa (aa (ab ?_))
 refine ab ?_
 refine lP rfl ?_
 refine lP rfl ?_
 refine aa (m:=qe (.str (S l) t) 0) ?_
 unfold qe
 refine lP rfl (ab ?_)
 have hlim:yU (2 ^ 63-1:Int).toNat (S l).cps.size=l.length:=by
  have e1:(S l).cps.size=l.length:=by simp
  have e2:l.length<=1000000:=hl
  rw [e1]
  have e3:(2 ^ 63-1:Int).toNat=9223372036854775807:=by decide
  rw [e3]
  exact Wj e2
 have key:∀tt:Builtin.Re.ReTarget,tt.code=ef->tt.text=l.toArray->tt.groups=0->tt.pos=0->tt.lim=l.length ->
   aq (aw pw w) A' (xu tt (Sre.forSearch tt.code tt.text tt.groups tt.pos tt.lim false)) P E' s:=by
  intro tt q1 q2 q3 q4 q5
  rw [q1,q2,q3,q4,q5]
  unfold xu
  refine aa (Gs (zv l) λm=>?_)
  cases hu:l.any cU with
  | false=>exact ab (h0 hu)
  | true=>
   refine aa ?_
   unfold Builtin.Re.reNewMatch
   rw [q3]
   refine lP rfl ?_
   show aq _ A' (newTuple [gD m.start,gD m.handed]>>=λd=>newFields "re.Match" [tt.string,tt.pattern,gD tt.pos,gD tt.lim,gD m.lastindex,d]) _ E' s
   refine aa (rD ?_)
   unfold newFields
   refine ce (ab (h1 hu _ _ λb o e=>au _ (au _ e)))
 refine aa ?_
 unfold Builtin.Re.reRawItems
 refine aa (cZ (B'.k _ _ (IE _)) rfl (ab (ab (key _ ?_ rfl rfl ?_ ?_))))
 ·kernel_rfl
 ·exact Nat.zero_min _
 ·exact hlim
theorem uh:mH (.type "re.Pattern") (.type "module")=b8 false:=by rw [fR];kernel_rfl
theorem zS:builtinKind "re.Pattern.search"=some .method:=by decide+kernel
theorem D2:Manifest.varargsMethods.contains "re.Pattern.search"=false:=by decide+kernel
theorem Ax(l:LS)(t:vR):(match yZ "re.Pattern.search" with | some sig=>Bind.checkArgs "re.Pattern.search" { sig with full:=s!"{Bind.lastOf "re.Pattern"}.{Bind.lastOf "re.Pattern.search"}" } ⟨[.ref 189,.str (S l) t],[]⟩ | none=>b8 ())=b8 ():=∅
theorem yy{M:rI}{l:LS}{t:vR}{Q:Unit->ag->Prop}{vs:Array af}(ho:s.heap.get? 189=some ⟨.type "re.Pattern",none,.fields vs,#[]⟩)(hq:Q () s):aq M A (checkBoundCall "re.Pattern.search" ⟨[.ref 189,.str (S l) t],[]⟩) Q E s:=by
 have ha:=Ax l t
 have hT:s.TypeIs (.ref 189) "re.Pattern":=⟨_,ho,rfl⟩
 unfold checkBoundCall
 cases hs:yZ "re.Pattern.search" with
 | none=>exact ab hq
 | some sig=>
  rw [hs]at ha
  dsimp only at ha
  rw [zS]
  dsimp only
  refine lP (by decide) ?_
  refine aa (kR hT uh ?_)
  rw [D2]
  refine lP rfl ?_
  refine aa (m:=F4 (.ref 189)) ?_
  refine aa (m:=loadHead 189) (aE ho (ab ?_))
  refine lP rfl ?_
  refine aa (ki hT ?_)
  dsimp only
  exact cF ha hq
theorem Ap(B:dC w H0.heap)(G:Gd H0 I ρ R s.heap){l:LS}{t:vR}{Q:af->ag->Prop}(hl:l.length<=SZ)(h0:l.any cU=false->Q .none s)
  (h1:l.any cU=true->∀a h',(∀b o,s.heap.get? b=some o->h'.get? b=some o)->Q (.ref a) { s with heap:=h' }):aq (aw pw w) A (call (.ref 885) [.str (S l) t]) Q E s:=by
 have B':=G.baseAt B
 refine fc (qt ?_)
 show aq _ A.in1 (callAny (.ref 885) ⟨[.str (S l) t],[]⟩) _ _ s
 refine aa (m:=load 885) (pV (B'.k _ _ (Aq _)) ?_)
 dsimp only
 rw [if_pos (by decide)]
 show aq _ _ (if(lE "builtin_function_or_method" != lE "method")=true then _ else _) _ _ _
 rw [if_pos (by decide)]
 refine aa (yy (B'.k _ _ (G9 _)) ?_)
 refine aa (ab (ab ?_))
 exact⟨xO,bB yk (zu B G hl h0 h1)⟩
theorem te{pos:dS}{u:aB}{args:List (Bool × tn af)}{Q:af->ag->Prop}(hplain:args.any (·.1)=false)
  (h:aq (aw pw w) A (evalArgs (.ref u) true args []) (λx s₁=>(∃vs,s₁.heap.get? u=some ⟨.type "builtin_function_or_method",none,.fields vs,#[]⟩)/\aq (aw pw w) A (call (.ref u) ([]++x.pos) x.kw) Q E s₁) E s):aq (aw pw w) A (JC pos (.ref u) [] args []) Q E s:=by
 unfold JC
 refine aa (aY (ar h (λx s₁ h₁=>aa (fh ?_)) λζ ζ x=>x))
 obtain⟨⟨vs,ho⟩,hcall⟩:=h₁
 rw [hplain]
 refine aa (m:=keeperOf (.ref u)) ?_
 refine aa (m:=load u) (pV ho ?_)
 refine ab (a:=Keeper.machine) ?_
 exact aa (ar hcall (λr s₂ hr=>aa (aY (wpAny_point (ab hr)))) λζ ζ x=>x)
theorem Fp(B:dC w H0.heap){g:Str}{np pos cp:dS}{ck:Nat}{l:LS}(hg:gl cx g=true)(hgv:ff g=some (.ref 885))(h1:dP H0 w n cx e σ R (.str l) R1)(hs:∀env:d7,bU [e] env=[(false,ej e env)]) :
  Oo H0 w n cx (.Call (.Name g np) [e] [] pos) .Is (.Constant .none ck cp) σ R (!l.any cU) R1:=by
 refine⟨rfl,λA E I ρ env s hR G O=>?_⟩
 refine qc (hs env) (dw (cH B G O hg hgv ?_) (dm O (O.glo g hg)))
 refine te rfl (kt (fG (ar (h1.then hR G O λI1 ρ1 u s1 x1 hu O1 G1=>?_) (λζ ζ h₁=>hO h₁) λζ ζ e=>e)))
 obtain⟨g1,g2,t,rfl⟩:=hu
 refine⟨⟨_,(G1.baseAt B).k _ _ (Aq _)⟩,Ap B G1 g1 (λhu=>?_) λhu a h' hk=>?_⟩
 ·refine sO (ar (IH (hR.le (di n)) G1 (op:=.Is) (a:=.none) (b:=.none) (c:=true) rfl oi oi) (λu' s' q=>?_) λζ ζ e=>e)
  rw [hu]
  exact fP.mono_ G x1 q
 ·have st:a9 H0 eg I1 ρ1 s1 I1 ρ1 R1 { s1 with heap:=h' }:=a9.quiet G1 m6 (λa o ζ e=>hk a o e) (λa ha=>ha.elim) rfl rfl
  refine sO ?_
  have hsame:xn (.ref a) .none=b8 false:=rfl
  rw [hu]
  show aq _ A (do return dT (<-xn (.ref a) .none)) _ E _
  rw [hsame]
  exact aa (ab (ab (fP.mono_ G (x1.trans G st) (d8 st.good jr))))
inductive rz{τ:Type}(step:τ->Option PV->τ->Prop):τ->List PV->τ->Prop
 | done {t t':τ}:step t none t'->rz step t [] t'
 | item {t t1 t':τ} {v:PV} {l:List PV}:step t (some v) t1->rz step t1 l t'->rz step t (v::l) t'
structure Vg(H0:Bs)(w:bG)(A:bD)(it:af)(Z:aB->Prop){τ:Type}(rc:τ->List aN)(step:τ->Option PV->τ->Prop)(St:τ->dB->dI->ag->Prop):Prop where
 own:∀t I ρ s,St t I ρ s->∀a,Z a->¬fK I ρ a/\s.heap.get? a≠none
 keep:∀t I ρ s I' ρ' R' s' X0 Z0,Gd H0 I ρ (rc t) s.heap->St t I ρ s->aR H0 X0 Z0 I ρ s I' ρ' R' s'->(∀a,Z a->¬X0 a /\ ¬Z0 a)->St t I' ρ' s'
 next:∀t v t' I ρ s E,step t v t'->Gd H0 I ρ (rc t) s.heap->St t I ρ s->aq (aw pw w) A (fQ it) (λo s1=>∃I' ρ',aR H0 eg Z I ρ s I' ρ' (rc t') s1/\(match v with
  | some x=>∃u,o=some u/\cn I' ρ' x u/\St t' I' ρ' s1
  | none=>o=none)) E s
theorem aR.noZ(x:aR H0 X Z I ρ s I' ρ' R' s'){D:aB}{o:jh}(hD:s.heap.get? D=some o)(ho:¬fK I ρ D)(hz:¬Z D):¬fK I' ρ' D:=λq=>by
 rcases x.new D q with q | q | q
 ·exact ho q
 ·rw [hD]at q;cases q
 ·exact hz q
theorem xa{it:af}{τ:Type}{rc:τ->List aN}{step:τ->Option PV->τ->Prop}{St:τ->dB->dI->ag->Prop}(Dr:Vg H0 w A.in1 it Z rc step St){D:aB}(hDZ:¬Z D){res:af}{RR:fS->ag->Prop}{t t':τ}{l:List PV}(dr:rz step t l t') :
  ∀(I:dB) (ρ:dI) (s:ag) (xs:List af) (c:Nat) (l0:List PV),Gd H0 I ρ (rc t) s.heap->St t I ρ s->s.heap.get? D=some (cD xs.toArray c)->¬fK I ρ D->a0 I ρ l0 xs->(l0++l).length<=SZ ->
  (∀I' ρ' s' ys c',aR H0 eg (λa=>Z a\/a=D) I ρ s I' ρ' (rc t') s'->s'.heap.get? D=some (cD (bk ys) c')->¬fK I' ρ' D->a0 I' ρ' (l0++l) ys->RR (.ok (.ret res)) s') ->
  cA (aw pw w) A (.builtin "list.extend.loop" ⟨[.ref D,it,res],[]⟩) RR s:=by
 induction dr with
 | done hs=>
  intro I ρ s xs c l0 G st hD ho hr hsz hR
  refine bB Js ?_
  rw [bh jg _]
  show aq _ A.in1 (fQ it>>=_) _ _ s
  refine aa (ar (Dr.next _ _ _ I ρ s _ hs G st) (λo s1 q=>?_) λζ ζ e=>e)
  obtain⟨I',ρ',x,rfl⟩:=q
  refine ab (hR I' ρ' s1 xs c (x.moreZ λa h=>av h) (x.kept hD (bM rfl) (λq=>ho (am q)) id hDZ) (x.noZ hD ho hDZ) ?_)
  ·rw [aM];exact hr.leZ x
 | @item t t1 t' v l hs _ ih=>
  intro I ρ s xs c l0 G st hD ho hr hsz hR
  refine bB Js ?_
  rw [bh jg _]
  show aq _ A.in1 (fQ it>>=_) _ _ s
  refine aa (ar (Dr.next _ _ _ I ρ s _ hs G st) (λo s1 q=>?_) λζ ζ e=>e)
  obtain⟨I1,ρ1,x,u,rfl,hu,st1⟩:=q
  have hD1:s1.heap.get? D=some (cD xs.toArray c):=x.kept hD (bM rfl) (λq=>ho (am q)) id hDZ
  have ho1:=x.noZ hD ho hDZ
  show aq _ A.in1 (jZ D (·.push u)>>=_) _ _ _
  have hlen:xs.length+1<=SZ:=by
   have:=hr.length
   rw [ai,ao]at hsz
   exact Wi hsz this
  refine aa (cu hD1 rfl ?_ (by rw [aT];exact gd (sU hlen)) (by rw [Jw,aT];exact ah (gd hlen) (di _)))
  have hD2:=eO (c:="list") (xs:=xs.toArray) (n:=c) hD1 (·.push u)
  have y:aR H0 eg (λa=>a=D) I1 ρ1 s1 I1 ρ1 (rc t1) { s1 with heap:=s1.heap.update D (bC (·.push u)) }:=
   aR.quiet x.good (λa ha=>ha▸ho1) (λa o ha e=>(aD _ _ (λq=>ha q.symm)).trans e) rfl rfl (λa ha=>ha▸x.good.notStk hD1 (bM rfl))
  have st2:=Dr.keep t1 I1 ρ1 s1 I1 ρ1 (rc t1) _ eg _ x.good st1 y (λa ha=>⟨λq=>q,λq=>hDZ (q▸ha)⟩)
  refine ab ⟨bT jg _,ih I1 ρ1 _ (xs++[u]) _ (l0++[v]) y.good st2 (by
   show(s1.heap.update D (bC (·.push u))).get? D=_
   rw [hD2,show xs.toArray.push u=(xs++[u]).toArray by simp]) ho1 ((hr.leZ x).append (by exact⟨u,[],rfl,hu,rfl⟩)) (by rw [aP];exact hsz) λI' ρ' s' ys c' z hDz hoz hrz=>?_⟩
  refine hR I' ρ' s' ys c' ?_ hDz hoz (by rw [aP]at hrz;exact hrz)
  exact aR.trans G ((x.moreZ λa h=>av h):aR H0 eg (λa=>Z a\/a=D) I ρ s I1 ρ1 (rc t1) s1) (aR.trans x.good (y.moreZ λa h=>am h) z)
theorem pO:Slot "map" "__iter__" "map.__iter__":=
 .of (owner:="map") (n:="__iter__") (by rw [d4,cg];kernel_rfl) (by decide+kernel) (by decide+kernel) (by decide+kernel)
  (by first | exact .inl (by decide+kernel) | exact .inr (by decide+kernel)) (by rw [fR];kernel_rfl)
theorem ma:Slot "map" "__next__" "map.__next__":=
 .of (owner:="map") (n:="__next__") (by rw [d4,cg];kernel_rfl) (by decide+kernel) (by decide+kernel) (by decide+kernel)
  (by first | exact .inl (by decide+kernel) | exact .inr (by decide+kernel)) (by rw [fR];kernel_rfl)
theorem vZ:Slot "map" "__init__" "object.__init__":=
 .of (owner:="object") (n:="__init__") (by rw [d4,cg];kernel_rfl) (by decide+kernel) (by decide+kernel) (by decide+kernel)
  (by first | exact .inl (by decide+kernel) | exact .inr (by decide+kernel)) (by rw [fR];kernel_rfl)
theorem vk:mR AP "map.__next__"=some Builtin.«map.__next__»:=gP ∅
theorem wb:mR AP "map.__new__"=some Builtin.«map.__new__»:=gP ∅
theorem we(a:af):lY "map.__next__" ⟨[a],[]⟩:=by unfold lY;kernel_rfl
theorem wf(a:af):lY "map.__iter__" ⟨[a],[]⟩:=by unfold lY;kernel_rfl
theorem EE:mM (.type "map") "__len__"=b8 none:=by rw [d4,cg];kernel_rfl
theorem BC:mM (.type "map") "__length_hint__"=b8 none:=by rw [d4,cg];kernel_rfl
theorem Db:mroOf (.type "map")=b8 [.type "map",.type "object"]:=by rw [mroOf_type];kernel_rfl
theorem uM:mM (.type "map") "__new__"=b8 (some (.builtin "map.__new__")):=by rw [d4,cg];kernel_rfl
theorem vv:TypeCalled "map" "map.__new__" "object.__init__":=
 ⟨by decide+kernel,by decide+kernel,⟨_,_,Db⟩,madeBy_type Db uM (by decide+kernel),by decide+kernel,by rw [fR];kernel_rfl,vZ⟩
theorem xz(a b:af):checkTypeCall "map" ⟨[a,b],[]⟩=b8 ():=∅
theorem zH(a b:af):pA "map.__new__" ⟨[.type "map",a,b],[]⟩=b8 ():=∅
noncomputable abbrev zK(T fa:aB):jh:={ cls:=.type "map",data:=.fields #[.ref T,.ref fa] }
theorem BS:F4 (.type "map")=b8 true:=∅
theorem IN{fa ax:aB}{xs:List af}{k:Nat}{Q:af->ag->Prop}(hl:s.heap.get? ax=some (cD xs.toArray k))
  (hq:∀J T M h',s.heap.get? J=none->s.heap.get? T=none->s.heap.get? M=none->J≠T->J≠M->T≠M->h'.IsListIter J ax 0->h'.get? T=some (mY #[.ref J] 0)->h'.get? M=some (zK T fa)->(∀b o,s.heap.get? b=some o->h'.get? b=some o)->Q (.ref M) { s with heap:=h' }) :
  aq (aw pw w) A (call (.type "map") [.ref fa,.ref ax]) Q E s:=by
 have hsub:=vv.sub
 have g:A2 (Builtin.«map.__new__» ⟨[.type "map",.ref fa,.ref ax],[]⟩) (λζ R s=>s.heap.get? ax=some (cD xs.toArray k) /\
   R (.ok (.ret (.ref (s.heap.objs.size+2)))) { s with heap:=((s.heap.push { cls:=.type "list_iterator",data:=.fields #[.ref ax,.int 0 0] }).push (mY #[.ref s.heap.objs.size] 0)).push (zK (s.heap.objs.size+1) fa) }):=by
  intro prog w A R s h
  obtain⟨hl,h⟩:=h
  unfold Builtin.«map.__new__» Jv
  dsimp only
  refine aa (aa (cF BS ?_))
  refine lP rfl ?_
  refine aa (cF hsub ?_)
  refine lP rfl ?_
  refine ab ?_
  dsimp only
  refine aa (m:=Jt "map" (.type "map") ⟨[.type "map",.ref fa,.ref ax],[]⟩) (ab ?_)
  show aq _ _ (if 2<2 then _ else _) _ _ _
  rw [if_neg (by decide)]
  refine aa (m:=oN [.ref ax]) ?_
  unfold oN
  dsimp only
  rw [ey]
  refine aa (aa (aa (aY (kj ⟨_,hl,rfl,k,rfl⟩ (ab ?_)))))
  dsimp only
  rw [wr]
  refine ab (ab ?_)
  refine aa (rD ?_ (show 1<=mO by rw [sizeLine_eq];decide))
  unfold Ju
  dsimp only
  refine aa (ce ?_)
  refine ab ?_
  have e1:(s.heap.push { cls:=.type "list_iterator",data:=.fields #[.ref ax,.int 0 0] }).objs.size=s.heap.objs.size+1:=iB ..
  have e2:((s.heap.push { cls:=.type "list_iterator",data:=.fields #[.ref ax,.int 0 0] }).push (mY #[.ref s.heap.objs.size] 0)).objs.size=s.heap.objs.size+2:=by rw [iB,e1]
  rw [<-e2,<-e1]at h
  exact h
 refine callType_new vv (by decide) (xz _ _) (zH _ _) (λobj=>PySem.F.args_object_init_3 obj _ _) wb g ⟨hl,?_⟩
 generalize hh:((s.heap.push { cls:=.type "list_iterator",data:=.fields #[.ref ax,.int 0 0] }).push (mY #[.ref s.heap.objs.size] 0)).push (zK (s.heap.objs.size+1) fa)=h'
 have e1:(s.heap.push { cls:=.type "list_iterator",data:=.fields #[.ref ax,.int 0 0] }).objs.size=s.heap.objs.size+1:=iB ..
 have e2:((s.heap.push { cls:=.type "list_iterator",data:=.fields #[.ref ax,.int 0 0] }).push (mY #[.ref s.heap.objs.size] 0)).objs.size=s.heap.objs.size+2:=by rw [iB,e1]
 have hM:h'.get? (s.heap.objs.size+2)=some (zK (s.heap.objs.size+1) fa):=by rw [<-hh,<-e2];exact aU _ rfl
 have hT:h'.get? (s.heap.objs.size+1)=some (mY #[.ref s.heap.objs.size] 0):=by
  rw [<-hh]
  refine au _ ?_
  rw [<-e1]
  exact aU _ rfl
 have hJ:h'.IsListIter s.heap.objs.size ax 0:=⟨{ cls:=.type "list_iterator",data:=.fields #[.ref ax,.int 0 0] },by
  rw [<-hh]
  exact au _ (au _ (aU _ rfl)),rfl,rfl⟩
 exact⟨⟨_,hM,rfl⟩,hq s.heap.objs.size (s.heap.objs.size+1) (s.heap.objs.size+2) h' (ct _) (pL (di _)) (pL (dz _ _)) (dU (dy _)) (dU (AG (by decide))) (dU (dy _)) hJ hT hM
  λb o e=>by rw [<-hh];exact au _ (au _ (au _ e))⟩
noncomputable def tI(sp:Spec)(fa:aB)(t:List PV × List aN)(v:Option PV)(t':List PV × List aN):Prop:=match t.1,v with
 | x::r,some y=>t'.1=r/\sp fa [x] [] t.2=some (y,t'.2)
 | [],none=>t'=t
 | _,_=>False
inductive uJ(J T M ax fa:aB)(xs:List af)(k:Nat)(t:List PV × List aN)(I:dB)(ρ:dI)(s:ag):Prop
 | mk (i:Nat) (o:jh) (hJ:Pv I ρ s J o) (c:o.cls = .type "list_iterator") (d:o.data = .fields #[.ref ax,.int i 0]) (hT:Pv I ρ s T (mY #[.ref J] 0)) (hM:Pv I ρ s M (zK T fa)) (h:I ax=some (cD xs.toArray k)) (r:a0 I ρ t.1 (xs.drop i)):uJ J T M ax fa xs k t I ρ s
theorem uJ.pm{J T M ax fa:aB}{xs:List af}{k:Nat}{t:List PV × List aN}(h:uJ J T M ax fa xs k t I ρ s):Pv I ρ s M (zK T fa):=h.casesOn λζ ζ ζ ζ ζ ζ q ζ ζ=>q
theorem Le(hsp:dA H0 w n sp)(hR:cE H0 A.in1 n){J T M ax fa:aB}{xs:List af}{k:Nat}(hJT:J≠T)(hJM:J≠M):Vg H0 w A (.ref M) (λa=>a=J\/a=T\/a=M) Prod.snd (tI sp fa) (uJ J T M ax fa xs k) where
 own:=λt I ρ s h=>by
  obtain⟨i,o,hJ,c,d,hT,hM,_,_⟩:=h
  exact OH (P:=λa=>¬fK I ρ a/\s.heap.get? a≠none) hJ.own hT.own hM.own
 keep:=λt I ρ s I' ρ' R' s' X0 Z0 G h x hz=>by
  obtain⟨i,o,hJ,c,d,hT,hM,h7,h8⟩:=h
  exact⟨i,o,hJ.keep x (hz J (av rfl)),c,d,hT.keep x (hz T (am (av rfl))),hM.keep x (hz M (am (am rfl))),x.le _ _ h7,h8.leZ x⟩
 next:=by
  rintro ⟨l,R⟩ v ⟨l',R'⟩ I ρ s E hs G h
  obtain⟨i,o,hJ,c,d,hT,hM,h7,h8⟩:=h
  have hTM:s.TypeIs (.ref M) "map":=⟨_,hM.at_,rfl⟩
  have hno:=OH (P:=λa=>¬fK I ρ a) hJ.no hT.no hM.no
  have hZs:=OH (P:=λa=>a ∉ H0.stk) (hJ.stk G) (hT.stk G) (hM.stk G)
  have h1:s.heap.IsListIter J ax i:=⟨o,hJ.at_,c,d⟩
  have hl:s.heap.IsList ax xs.toArray:=⟨_,G.imm _ _ h7,rfl,k,rfl⟩
  refine aa (nR (gN (name:=em "__next__") hTM ma (ei ma hTM vk ?_ (we _))))
  show aq _ _ (field (.ref M) 0>>=_) _ _ s
  refine aa (rE hM.at_ rfl (x:=.ref T) rfl ?_)
  refine aa (cZ hT.at_ rfl ?_)
  dsimp only
  refine aa ?_
  rw [<-lF]
  show aq _ _ (nI [j2 J] _ _) _ _ _
  rw [ey]
  refine aa (aa (aY ?_))
  cases l with
  | nil=>
   cases v with
   | some y=>exact hs.elim
   | none=>
    cases hs
    refine wpAny_nextOf_list_end hR.1 h1 hl h8.none_ λh' e he hx=>?_
    obtain⟨o,ho,hc⟩:=hx
    refine aa (kR (T:="StopIteration") (b:=true) ⟨o,ho,hc⟩ AT ?_)
    exact ab ⟨I,ρ,aR.quiet G hno (λa o ha e=>he a o (λq=>ha (av q)) e) rfl rfl hZs,rfl⟩
  | cons x r=>
   cases v with
   | none=>exact hs.elim
   | some y=>
    obtain⟨e1,hs⟩:l'=r/\sp fa [x] [] R=some (y,R'):=hs
    subst e1
    obtain⟨u,h9,h10,h11⟩:=h8.get rfl
    refine wpAny_nextOf_list_item h1 hl (x:=u) (by rw [bV];exact h9) λh' hit' hs'=>?_
    refine ab ?_
    dsimp only
    rw [wr]
    refine ab ?_
    obtain⟨o',e1,c',d'⟩:=hit'
    generalize hs2:({ s with heap:=h' }:ag)=s1
    have e1:s1.heap.get? J=some o':=hs2▸e1
    have same:∀a,a≠J->s1.heap.get? a=s.heap.get? a:=hs2▸hs'.2
    have x0:aR H0 eg (λa=>a=J\/a=T\/a=M) I ρ s I ρ R s1:=aR.quiet G hno (λa o ha e=>(same a (λq=>ha (av q))).trans e) (hs2▸rfl) (hs2▸rfl) hZs
    have pJ:Pv I ρ s1 J o':=⟨e1,bK d',hJ.no⟩
    have pM:Pv I ρ s1 M (zK T fa):=⟨(same M hJM.symm).trans hM.at_,hM.nd,hM.no⟩
    have pT:Pv I ρ s1 T (mY #[.ref J] 0):=⟨(same T hJT.symm).trans hT.at_,hT.nd,hT.no⟩
    refine aa (rE pM.at_ rfl (x:=.ref fa) rfl ?_)
    refine aa (aY (fc (gv (hsp fa [x] [] R y R' hs A.in1 (λζ ζ=>False) I ρ _ [u] [] hR x0.good (a0.cons h10 a0.nil) ⟨rfl,a0.nil⟩) (λr s2 q=>?_))))
    rcases r with e | (_ | _ | _ | u')
    ·exact ny q
    ·exact ny q
    ·exact ny q
    ·exact ny q
    ·obtain⟨I2,ρ2,x2,hu'⟩:=q
     exact aa (dR (ab ⟨_,rfl,ab ⟨I2,ρ2,aR.trans G x0 x2.z,u',rfl,hu',i+1,o',pJ.step x2,c',d',pT.step x2,pM.step x2,x2.le _ _ h7,h11.le x2⟩⟩))
theorem HO{α:Type}{M:rI}{A:bD}{E:af->ag->Prop}{s:ag}{c:Bool}{a b:tn α}{Q:α->ag->Prop}(hc:c=true)(h:aq M A a Q E s):aq M A (if c=true then a else b) Q E s:=by
 subst hc
 exact h
theorem ym{fa:aB}{l:List PV}:∀(R:List aN) {ys:List PV} {R':List aN},mf (Ho sp fa) l R=some (ys,R')->rz (tI sp fa) (l,R) ys ([],R'):=by
 induction l with
 | nil=>
  intro R ys R' h
  cases h
  exact .done rfl
 | cons x r ih=>
  intro R ys R' h
  obtain⟨o,R1,e1,h⟩:=gH h
  obtain⟨y,R2,e,h'⟩:=gH e1
  cases h'
  obtain⟨zs,R3,e2,h⟩:=gH h
  cases h
  exact .item (t1:=(r,R1)) ⟨rfl,e⟩ (ih R1 e2)
theorem yl:mR AP "map.__iter__"=some Builtin.«dict_keyiterator.__iter__»:=
 entryFor_alias (id':="dict_keyiterator.__iter__") ∅ (by first | rfl | decide+kernel | (unfold String.splitOn;simp+decide [String.splitOnAux])) (by decide+kernel) ∅
theorem Bx{M T fa:aB}{Q:af->ag->Prop}(hM:s.heap.get? M=some (zK T fa))(h:Q (.ref M) s):aq (aw pw w) A (mP (.ref M)) Q E s:=by
 have hT:s.TypeIs (.ref M) "map":=⟨_,hM,rfl⟩
 refine wpAny_pyIter_slot hT pO (ei pO hT yl ?_ (wf _))
 show aq _ _ (ret (.ref M)) _ _ s
 exact ab ⟨_,rfl,"map",_,hT,ma.lookup,h⟩
theorem Am(hsp:dA H0 w n sp)(hR:cE H0 A.in1.in1 n){J T M ax fa:aB}{xs:List af}{k:Nat}(hJT:J≠T)(hJM:J≠M){l ys:List PV}(dr:rz (tI sp fa) (l,R) ys ([],R'))(hys:ys.length<=SZ)
  (G:Gd H0 I ρ R s.heap)(st:uJ J T M ax fa xs k (l,R) I ρ s){Q:List af->ag->Prop}
  (hQ:∀I' ρ' s' vs D,s.heap.get? D=none->aR H0 eg (λa=>(a=J\/a=T\/a=M)\/a=D) I ρ s I' ρ' R' s'->a0 I' ρ' ys vs->Q vs s'):aq (aw pw w) A (collect (.ref M)) Q E s:=by
 have hM:=st.pm.at_
 unfold collect
 refine aa (wpAny_runValue (bB F.entry_proto_collect ?_))
 rw [bh F.plain_proto_collect _]
 show aq _ A.in1 (newList []>>=λl=>again (.builtin "list.__iadd__" ⟨[l,.ref M],[]⟩)) _ _ s
 refine aa (ce ?_)
 refine ab ⟨bT LP _,bB F.entry_list_iadd ?_⟩
 rw [bh LP _]
 have hn:=ct s.heap
 generalize hDe:s.heap.objs.size=D at hn ⊢
 have ho:¬fK I ρ D:=bA G hn
 have hDM:M≠D:=λq=>by subst q;rw [hn]at hM;cases hM
 have hpd:(s.heap.push { cls:=.type "list",data:=.seq #[] }).get? D=some (cD #[] 0):=by rw [<-hDe];exact aU _ rfl
 have hpk:∀b o,s.heap.get? b=some o->(s.heap.push { cls:=.type "list",data:=.seq #[] }).get? b=some o:=λb o e=>au _ e
 generalize s.heap.push { cls:=.type "list",data:=.seq #[] }=h1 at hpd hpk ⊢
 have hM1:=hpk _ _ hM
 have hTM:Shared.TypeIs { s with heap:=h1 } (.ref M) "map":=⟨_,hM1,rfl⟩
 show aq _ A.in1 (dM (.ref D) (.ref M) (.ref D)) _ _ _
 unfold dM
 refine aa (ki hTM ?_)
 have h2:sq (.ref D) (.ref M)=false:=beq_eq_false_iff_ne.mpr hDM.symm
 rw [if_neg (by rw [h2];decide)]
 refine aa (Bx hM1 ?_)
 refine aa (aY ?_)
 unfold qE
 refine aa (gn hTM EE ?_)
 dsimp only
 refine lP rfl ?_
 refine lP rfl ?_
 refine aa (gn hTM BC ?_)
 dsimp only
 refine ab ?_
 refine HO rfl ?_
 refine aa (iX ?_)
 refine aa ?_
 unfold tz
 refine aa (m:=jZ D (·.push .none)) (cu hpd rfl ?_ (by rw [sizeLine_eq];decide) (by rw [sizeLine_eq];decide))
 have hp2:=eO (c:="list") (xs := #[]) (n:=0) hpd (·.push .none)
 refine cu (s:={ s with heap:=h1.update D (bC (·.push .none)) }) hp2 rfl ?_ (by rw [sizeLine_eq];decide) (by rw [sizeLine_eq];decide)
 have hp3:=eO (c:="list") hp2 (·.pop)
 generalize hh2:(h1.update D (bC (·.push .none))).update D (bC (·.pop))=h2 at hp3 ⊢
 have hk2:∀b o,b≠D->s.heap.get? b=some o->h2.get? b=some o:=λb o hb e=>by
  rw [<-hh2]
  exact(aD _ _ hb.symm).trans ((aD _ _ hb.symm).trans (hpk b o e))
 obtain⟨c3,hp3⟩:∃c3,h2.get? D=some (cD (bk []) c3):=⟨_,hp3⟩
 have z:aR H0 eg (λa=>a=D) I ρ s I ρ R { s with heap:=h2 }:=aR.quiet G (λa ha=>ha▸ho) (λa o ha e=>hk2 a o ha e) rfl rfl (λa ha=>ha▸G.freshStk hn)
 obtain⟨hdJ,hdT,hdM⟩:D≠J/\D≠T/\D≠M:=by
  obtain⟨_,o,q1,_,_,q2,q3,_,_⟩:=st
  exact⟨λq=>q1.own.2 (q▸hn),λq=>q2.own.2 (q▸hn),λq=>q3.own.2 (q▸hn)⟩
 have hZ:=OH (P:=λa=>a≠D) hdJ.symm hdT.symm hdM.symm
 have Dr:=Le (H0:=H0) (w:=w) hsp (A:=A.in1) hR (J:=J) (T:=T) (M:=M) (ax:=ax) (fa:=fa) (xs:=xs) (k:=k) hJT hJM
 have st2:=Dr.keep (l,R) I ρ s I ρ R { s with heap:=h2 } eg (λa=>a=D) G st z (λa ha=>⟨λq=>q,hZ a ha⟩)
 refine ab ⟨bT jg _,xa (D:=D) Dr (λq=>hZ D q rfl) dr I ρ { s with heap:=h2 } [] c3 [] z.good st2 hp3 ho a0.nil (by simpa using hys) (λI' ρ' s' zs c' y hD' hoD hr=>?_)⟩
 show aq _ A (load D>>=_) _ _ s'
 refine aa (pV hD' ?_)
 refine ab ?_
 rw [qw]
 exact hQ I' ρ' s' zs D hn (aR.trans G (z.moreZ λa h=>am h) y) (by simpa using hr)
theorem v5(hsp:dA H0 w n sp)(hR:cE H0 A.in1.in1.in1 n){J T M ax fa:aB}{xs:List af}{k:Nat}(hJT:J≠T)(hJM:J≠M){l ys:List PV}(dr:rz (tI sp fa) (l,R) ys ([],R'))(hys:ys.length<=SZ)
  (G:Gd H0 I ρ R s.heap)(st:uJ J T M ax fa xs k (l,R) I ρ s){Q₁:af->ag->Prop}
  (hQ:∀I' ρ' s' vs D,s.heap.get? D=none->aR H0 eg (λa=>(a=J\/a=T\/a=M)\/a=D) I ρ s I' ρ' R' s'->a0 I' ρ' ys vs->Q₁ (.ref s'.heap.objs.size) { s' with heap:=s'.heap.push { cls:=.type "tuple",data:=.seq vs.toArray } }) :
  cA (aw pw w) A (.call (.builtin "tuple.__new__") ⟨[.type "tuple",.ref M],[]⟩) (wants Q₁ E) s:=by
 have hM:=st.pm.at_
 refine qt ?_
 show aq _ A.in1 (do pA "tuple.__new__" ⟨[.type "tuple",.ref M],[]⟩;again (.builtin "tuple.__new__" ⟨[.type "tuple",.ref M],[]⟩)) _ _ s
 refine aa (cF (F.newCall_tuple_1 _) (ab ⟨bT LN _,bB F.entry_tuple_new ?_⟩))
 rw [bh LN _]
 have hsub:=sub_tuple_self
 have hinit:=init_tuple_lookup
 have hmh:=madeHere_tuple
 have hTI:s.TypeIs (.ref M) "map":=⟨_,hM,rfl⟩
 wp_walk using ki hTI,Am (k:=k) hsp hR hJT hJM dr hys G st
 intro I' ρ' s' vs D hD z hr
 show aq _ _ (ib vs.toArray>>=λv=>ret v) _ _ _
 unfold ib
 refine aa (ce ?_ (by show vs.toArray.size<=mO;rw [aT,hr.length];exact gd hys))
 refine ab ?_
 exact hQ I' ρ' s' vs D hD z hr
theorem r5(B:dC w H0.heap)(hsp:dA H0 w n sp){g g2 h:Str}{np np2 hp pos p:dS}{fa:aB}{l ys:List PV}(hg:gl cx g=true)(hgv:ff g=some (.type "tuple"))(hg2:gl cx g2=true)(hgv2:ff g2=some (.type "map"))
  (h1:qr H0 w n cx [.Name h hp,e] σ R [.val (.ref fa),.list l] R1)(hm:mf (Ho sp fa) l R1=some (ys,R2))(hys:mkT ys=some v)
  (hev:∀env:d7,(hU p (bU [.Name h hp,e] env)).any (·.1)=false /\ ∃x rest,hU p (bU [.Name h hp,e] env)=(false,x)::rest) :
  dP H0 w n cx (.Call (.Name g np) [.Call (.Name g2 np2) [.Name h hp,e] [] p] [] pos) σ R v R2:=by
 intro A E I ρ env s hR G O
 obtain⟨hyl,rfl⟩:=oq hys
 refine qc rfl (dw (cH B G O hg hgv ?_) (dm O (O.glo g hg)))
 refine callWith_type1 ?_
 refine fe (dw (cH B G O hg2 hgv2 ?_) (dm O (O.glo g2 hg2)))
 obtain⟨h2,x,rest,hx⟩:=hev env
 have hh:=h1 A E I ρ env p s hR G O
 rw [hx]at hh h2 ⊢
 refine CN h2 (kt (ar hh (λus s1 q=>?_) λζ ζ e=>e))
 obtain⟨I1,ρ1,x1,hu⟩:=q
 obtain⟨u1,r1,rfl,rfl,u2,r2,rfl,⟨hl,ax,xs,k,rfl,hax,hr⟩,rfl⟩:=hu
 have G1:=x1.good
 refine IN (G1.imm _ _ hax) λJ T M h' nJ nT nM hJT hJM hTM hJ hT hM hk=>?_
 have st:a9 H0 eg I1 ρ1 s1 I1 ρ1 R1 { s1 with heap:=h' }:=a9.quiet G1 m6 (λa o ζ e=>hk a o e) (λa ha=>ha.elim) rfl rfl
 have st0:uJ J T M ax fa xs k (l,R1) I1 ρ1 { s1 with heap:=h' }:=hJ.elim λo q=>⟨0,o,⟨q.1,bK q.2.2,bA G1 nJ⟩,q.2.1,q.2.2,⟨hT,bM rfl,bA G1 nT⟩,⟨hM,bK rfl,bA G1 nM⟩,hax,hr⟩
 have dr:=ym R1 hm
 have hRoom:cE H0 A.in1.in1.in1.in1 n:=⟨hR.1,by have:=hR.2.1;show A.depth+_<=_;exact o3 this,by have:=hR.2.2.1;show A.units+1+1+1+1+_<=_;exact Wh this,hR.2.2.2⟩
 refine callType_codes (Q₁:=λobj s₁=>s₁.TypeIs obj "tuple"/\fP H0 I ρ s (.tup ys) R2 obj s₁) y5 (F.typeCall_tuple_1 _) F.entry_object_init
  (v5 hsp hRoom hJT hJM dr hyl st.good st0 λI' ρ' s' vs D hD z hr'=>⟨⟨_,aU _ rfl,rfl⟩,?_⟩) λobj s₁ h₁=>?_
 ·have zz:a9 H0 eg I1 ρ1 s1 I' ρ' R2 s':=aR.close G1 st z (λa ha=>by
   rcases ha with ha | rfl
   ·exact OH (P:=λa=>s1.heap.get? a=none) nJ nT nM a ha
   ·cases e:s1.heap.get? a with
    | none=>rfl
    | some q=>rw [show({ s1 with heap:=h' }:ag).heap.get? a=_ from hk a q e]at hD;cases hD)
  exact fP.mono_ G (x1.trans G zz) (ju (s:=s') zz.good hr' hyl s'.toks)
 ·exact⟨h₁.1,F.args_object_init_2 obj _,object_init_meets y5.init.lookup y5.made (by decide) pw w A.in1 _ s₁ ⟨h₁.1,rfl,h₁.2⟩⟩
noncomputable def hide(h:fv):List aB->fv
 | []=>h
 | a::r=>hide (h.update a λo=>{ o with data:=.freed }) r
theorem E3(h:fv)(a:aB)(r:List aB):hide h (a::r)=hide (h.update a λo=>{ o with data:=.freed }) r:=rfl
theorem my:∀(l:List aB) (h:fv) (b:aB),(b∈l->(hide h l).get? b=none)/\(b ∉ l->(hide h l).get? b=h.get? b):=by
 intro l
 induction l with
 | nil=>
  intro h b
  exact⟨(λq=>nomatch q),λζ=>rfl⟩
 | cons a r ih=>
  intro h b
  have ih:=ih (h.update a λo=>{ o with data:=.freed }) b
  by_cases hr:b∈r
  ·exact⟨λζ=>ih.1 hr,λq=>absurd (an _ hr) q⟩
  ·rw [E3,ih.2 hr]
   by_cases hb:b=a
   ·subst hb
    refine⟨λζ=>?_,λq=>absurd aj q⟩
    obtain⟨⟨objs⟩,life⟩:=h
    cases e:((Heap.mk ⟨objs⟩ life).update b λo=>{ o with data:=.freed }).get? b with
    | none=>rfl
    | some o=>
     exfalso
     obtain⟨e1,e2⟩:=Heap.get?_some_iff.mp e
     simp only [Heap.update,Array.getElem?_modify,if_true,jC]at e1
     obtain⟨o',_,rfl⟩:=e1
     simp [Obj.isFreed]at e2
   ·refine⟨λq=>?_,λζ=>aD _ _ (dg hb)⟩
    rcases ay.mp q with q | q
    ·exact absurd q hb
    ·exact absurd q hr
theorem Bj{l:List d7}(hl:l.map (·.frame)=H0.stk.map some)(hk:∀e∈l,e.scope.kind ≠ .module)(G:Gd H0 I ρ R s.heap){h:fv}(hh:∀a o,s.heap.get? a=some o->h.get? a=some o):h.FunFrames (hide s.heap H0.stk) l:=by
 have key:∀(l:List d7) (st:List aB),l.map (·.frame)=st.map some->(∀a∈st,a∈H0.stk)->(∀e∈l,e.scope.kind ≠ .module)->h.FunFrames (hide s.heap H0.stk) l:=by
  intro l
  induction l with
  | nil=>intro st _ _ _;trivial
  | cons e r ih=>
   intro st h1 h2 h3
   cases st with
   | nil=>cases h1
   | cons a st=>
    simp only [aK,dG]at h1
    have ha:=h2 a aj
    obtain⟨_,o,es,ep,g1,g2⟩:=G.stk a ha
    refine⟨h3 e aj,⟨a,o,h1.1,(my _ _ _).1 ha,hh a o g1,λvs=>by rw [g2];exact λq=>nomatch q⟩,ih st h1.2 (λb hb=>h2 b (an _ hb)) λe he=>h3 e (an _ he)⟩
 exact key l H0.stk hl (λa ha=>ha) hk
theorem Hs{outer:List d7}{L x:aB}{X:String}{h1:fv}(hfr:A.frames=some (env::outer))(hl:(env::outer).map (·.frame)=H0.stk.map some)(hk:∀e∈env::outer,e.scope.kind ≠ .module)(hf:env.frame=some L)(G:Gd H0 I ρ R s.heap)
  (hm:Heap.MadeExc s.heap h1 x X []){Q:Unit->ag->Prop}(hq:∀h',a9 H0 eg I ρ s I ρ R { s with heap:=h' }->({ s with heap:=h' }:ag).TypeIs (.ref x) X->Q () { s with heap:=h' }) :
  aq (aw pw w) A (leaving env (.ref x)) Q E { s with heap:=h1 }:=by
 obtain⟨t,hx,_,_⟩:=hm.there
 have hbase:(hide s.heap H0.stk).StaysIn h1:=λb o e=>by
  by_cases hb:b∈H0.stk
  ·rw [(my _ _ _).1 hb]at e;cases e
  ·rw [(my _ _ _).2 hb]at e;exact hm.keeps b o e
 have hxn:(hide s.heap H0.stk).get? x=none:=by
  by_cases hb:x∈H0.stk
  ·exact(my _ _ _).1 hb
  ·rw [(my _ _ _).2 hb];exact hm.new
 refine wpAny_leaving_first (s:={ s with heap:=h1 }) (base:=hide s.heap H0.stk) hfr (Bj hl hk G hm.keeps) hf hx hbase hxn rfl rfl λh' left=>?_
 obtain⟨k1,k2,⟨oe,vs,T,oT,ts,q1,q2,_⟩,k4⟩:=left
 have kept:∀a o,a ∉ H0.stk->s.heap.get? a=some o->h'.get? a=some o:=λa o ha e=>k1 a o (by rw [(my _ _ _).2 ha];exact e)
 have slots:∀a∈H0.stk,∀o,s.heap.get? a=some o->(∃es ep,o.data = .dict es ep) /\ ∃sl,h'.get? a=some { o with slots:=sl }:=λa ha o e=>by
  obtain⟨_,o',es,ep,g1,g2⟩:=G.stk a ha
  rw [e]at g1
  cases g1
  exact⟨⟨es,ep,g2⟩,k4 a o (hm.keeps a o e) λvs=>by rw [g2];exact λq=>nomatch q⟩
 refine hq h' ⟨λζ ζ e=>e,⟨[],(aM _).symm⟩,λζ h=>av h,λa o ζ e=>?_,λa ha=>?_,G.keeps (λa o ho e=>kept a o (λq=>(G.stk a q).1 ho) e) (λa ha ⟨o,es,ep,e,d⟩=>?_),rfl,rfl⟩ ⟨oe,q1,q2⟩
 ·by_cases ha:a∈H0.stk
  ·obtain⟨d,sl,e'⟩:=slots a ha o e
   exact⟨_,e',am ⟨d,sl,rfl⟩⟩
  ·exact⟨o,kept a o ha e,lG.refl o⟩
 ·obtain⟨o,e⟩:=bj.mp ha
  show h'.get? a≠none
  by_cases ha:a∈H0.stk
  ·obtain⟨d,sl,e'⟩:=slots a ha o e
   rw [e'];exact λh=>nomatch h
  ·rw [kept a o ha e];exact λh=>nomatch h
 ·obtain⟨_,sl,e'⟩:=slots a ha o e
  exact⟨_,es,ep,e',d⟩
theorem Mf{op:mU}{a b:PV}{c:Bool}(h1:dP H0 w n cx l σ R a R1)(h2:dP H0 w n cx r σ R1 b R2)(hc:td R2 op a b=some c)(hm:nU op r=false):Oo H0 w n cx l op r σ R c R2:=by
 refine⟨hm,λA E I ρ env s hR G O=>?_⟩
 refine h1.then hR G O λI1 ρ1 u1 s1 x1 hu1 O1 G1=>h2.then hR G1 O1 λI2 ρ2 u2 s2 x2 hu2 O2 G2=>?_
 exact ar (IH (hR.le (di n)) G2 hc (hu1.le x2) hu2) (λu s' q=>fP.mono_ G (x1.trans G x2) q) λζ ζ e=>e
theorem Vc:∃p1 p2,(bv (bL pw 46 9)).body=[.Return (some (.Name "self" p1)) p2]:=⟨_,_,rfl⟩
theorem Vb:∃p1 p2 apos pos p3 p4 p5 p6 p7 p8 p9 p10 p11 p12,(bv (bL pw 46 10)).body=[.Assign [.Name "token" p1] (.Call (.Attribute (.Name "self" p2) "get_token" apos) [] [] pos) p3,.If (.Compare (.Name "token" p4) [.Eq] [.Attribute (.Name "self" p5) "eof" p6] p7) [.Raise (some (.Name "StopIteration" p8)) none p9] [] p10,.Return (some (.Name "token" p11)) p12]/\apos.endLine=pos.line:=⟨_,_,_,_,_,_,_,_,_,_,_,_,_,_,rfl,rfl⟩
theorem U1(k:PV):vA (bv (bL pw 46 9)).params [] [k] []=some [(("self":Str),k)]:=∅
theorem U0(k:PV):vA (bv (bL pw 46 10)).params [] [k] []=some [(("self":Str),k)]:=∅
theorem UQ(b:Nat):gl ⟨(bv (bL pw 46 10)).scope.names,b⟩ "self"=false/\gl ⟨(bv (bL pw 46 10)).scope.names,b⟩ "token"=false/\gl ⟨(bv (bL pw 46 10)).scope.names,b⟩ "StopIteration"=true/\QE ⟨(bv (bL pw 46 10)).scope.names,b⟩ "token"=true:=by
 refine⟨?_,?_,?_,?_⟩<;>kernel_rfl
theorem U8(B:dC w H0.heap)(hR:cE H0 A (n+2))(G:Gd H0 I ρ R s.heap){x:PV}{u:af}(hu:cn I ρ x u){RR:fS->ag->Prop}(h:∀v s',fP H0 I ρ s x R v s'->RR (.ok (.ret v)) s') :
  cA (aw pw w) A (.call (.ref 862) ⟨[u],[]⟩) RR s:=by
 refine vc B (f:=862) rfl (U1 x) hR G (by exact⟨u,[],rfl,hu,rfl⟩) ⟨rfl,by exact a0.nil⟩ λI1 ρ1 env s2 O2 G2 hR2 ζ hfr x02=>?_
 obtain⟨p1,p2,hb⟩:=Vc
 generalize (bv (bL pw 46 9)).body=body at hb ⊢
 subst hb
 ·have hv:f8 ("self":Str) [(("self":Str),x)]=some x:=by simp
  have ev1:dP ⟨H0.heap,env.locals::H0.stk⟩ w n ⟨(bv (bL pw 46 9)).scope.names,R.length⟩ (.Name "self" p1) [("self",x)] R x R:=ni hv
  have ex1:=rh (ss:=[]) (pe (pos:=p2) (ks:=[]) ev1) (λq=>nomatch q)
  refine ar (ex1 _ (λζ ζ=>False) I1 ρ1 env s2 hR2 G2 O2) (λg s3 q=>?_) λζ ζ e=>e.elim
  obtain⟨I3,ρ3,x3,O3,hfl⟩:=q
  obtain⟨u',rfl,hu'⟩:=hfl
  exact h u' s3 ⟨I3,ρ3,a9.back G x02 x3 hfr,hu'⟩
theorem Iq{a b:PV}{c:Bool}(h:AL a b=some c):∀x,b ≠ .val x:=λx q=>by
 subst q
 unfold AL at h
 have:uD 6 (.val x)=false:=rfl
 rw [this,jK]at h
 cases h
theorem Ck{a b:PV}{c:Bool}(h:td R .Eq a b=some c):∀x,b ≠ .val x:=Iq (nh (o:=AL a b) h).2
theorem Qg:∀P,∃ob fd,(KK pw P).lookup 833=some ob/\ob.data = .func fd:=λP=>by
 obtain⟨q,dV,pm,cd,h,_⟩:=rg P (f:=833) rfl
 exact⟨_,_,h,rfl⟩
inductive Mo(sp:Spec)(k:Nat)(R:List aN)(ov:Option PV)(R':List aN):Prop
 | mk (gs fs:List (Str × PV)) (v ee:PV) (c:Bool) (hr0:R[k]? = some (.inst 872 gs)) (hgt:(gs.lookup ("get_token":Str)).isNone=true) (hs:sp 833 [.obj k] [] R=some (v,R')) (hr1:R'[k]? = some (.inst 872 fs)) (he:fs.lookup ("eof":Str)=some ee) (hcm:td R' .Eq v ee=some c) (e:ov=bif c then none else some v):Mo sp k R ov R'
theorem wK{k:Nat}{ov:Option PV}(hn:lM sp k R=some (ov,R')):Mo sp k R ov R':=by
 obtain⟨D,gs,hr0,h1⟩:=zV hn
 obtain⟨q,h2⟩:=nh h1
 obtain⟨q,hgt⟩:=eB q
 obtain⟨v,R1,hs,h3⟩:=gH h2
 obtain⟨C,fs,hr1,h4⟩:=zV h3
 obtain⟨q',h5⟩:=nh h4
 obtain⟨ee,he,h6⟩:=ig h5
 obtain⟨c,hcm,h7⟩:=ig h6
 cases h7
 cases of_decide_eq_true q
 cases of_decide_eq_true q'
 exact⟨gs,fs,v,ee,c,hr0,hgt,hs,hr1,he,hcm,rfl⟩
theorem U7(B:dC w H0.heap)(hsp:∀L,dA ⟨H0.heap,L::H0.stk⟩ w n sp)(hR:cE H0 A (n+2))(G:Gd H0 I ρ R s.heap){k:Nat}{u:af}(hu:cn I ρ (.obj k) u){ov:Option PV}(hn:lM sp k R=some (ov,R')){RR:fS->ag->Prop}
  (h1:∀v,ov=some v->∀u' s',fP H0 I ρ s v R' u' s'->RR (.ok (.ret u')) s')
  (h2:ov=none->∀x s' I' ρ',a9 H0 eg I ρ s I' ρ' R' s'->s'.TypeIs (.ref x) "StopIteration"->RR (.error (.ref x)) s') :
  cA (aw pw w) A (.call (.ref 869) ⟨[u],[]⟩) RR s:=by
 refine vc B (f:=869) rfl (U0 (.obj k)) hR G (by exact⟨u,[],rfl,hu,rfl⟩) ⟨rfl,by exact a0.nil⟩ λI1 ρ1 env s2 O2 G2 hR2 hfm hfr x02=>?_
 obtain⟨p1,p2,apos,pos,p3,p4,p5,p6,p7,p8,p9,p10,p11,p12,hb,hline⟩:=Vb
 obtain⟨m1,m2,m3,m4⟩:=UQ R.length
 generalize (bv (bL pw 46 10)).body=body at hb ⊢
 generalize hcx:Cx.mk (bv (bL pw 46 10)).scope.names R.length=cx at O2 m1 m2 m3 m4
 subst hb
 obtain⟨gs,fs,v,ee,c,hr0,hgt,hs,hr1,he,hcm,rfl⟩:=wK hn
 have hv0:f8 ("self":Str) [(("self":Str),PV.obj k)]=some (.obj k):=by simp
 have eself:∀p,dP ⟨H0.heap,env.locals::H0.stk⟩ w n cx (.Name "self" p) [("self",.obj k)] R (.obj k) R:=λp=>ni hv0
 have e1:dP ⟨H0.heap,env.locals::H0.stk⟩ w n cx (.Call (.Attribute (.Name "self" p2) "get_token" apos) [] [] pos) [("self",.obj k)] R v R':=
  Af (H0:=⟨H0.heap,env.locals::H0.stk⟩) B (hsp env.locals) (eself p2) hr0 (fa:=833) rfl (cK.mp hgt) tO hs Qg (λζ=>rfl) (λζ=>rfl) (beq_iff_eq.mpr hline) (λζ=>av ⟨rfl,rfl⟩) (λζ=>⟨rfl,rfl⟩)
 have hset:qL cx [(("self":Str),PV.obj k)] "token" v=some (jR [(("self":Str),PV.obj k)] "token" v):=by unfold qL;rw [m4];rfl
 have x1:yT ⟨H0.heap,env.locals::H0.stk⟩ w n cx (.Assign [.Name "token" p1] (.Call (.Attribute (.Name "self" p2) "get_token" apos) [] [] pos) p3) [("self",.obj k)] R .next (jR [("self",.obj k)] "token" v) R':=
  r4 e1 hset (λζ=>rfl) (λζ=>rfl) (λζ=>rfl)
 have hl1:(jR [(("self":Str),PV.obj k)] "token" v).lookup ("self":Str)=some (.obj k):=by
  unfold jR;rw [iQ,if_neg (by decide)];exact hv0
 have hl2:(jR [(("self":Str),PV.obj k)] "token" v).lookup ("token":Str)=some v:=by
  unfold jR;rw [iQ,if_pos rfl]
 have etok:∀p,dP ⟨H0.heap,env.locals::H0.stk⟩ w n cx (.Name "token" p) (jR [("self",.obj k)] "token" v) R' v R':=λp=>ni hl2
 have eself2:dP ⟨H0.heap,env.locals::H0.stk⟩ w n cx (.Name "self" p5) (jR [("self",.obj k)] "token" v) R' (.obj k) R':=ni hl1
 have eeof:dP ⟨H0.heap,env.locals::H0.stk⟩ w n cx (.Attribute (.Name "self" p5) "eof" p6) (jR [("self",.obj k)] "token" v) R' ee R':=
  Ag (H0:=⟨H0.heap,env.locals::H0.stk⟩) B eself2 hr1 rfl he (Ck hcm) (λζ=>rfl)
 have tt:=ja (pos:=p7) (Mf (etok p4) eeof hcm rfl)
 refine kT (ar (x1 _ _ I1 ρ1 env s2 hR2 G2 O2) (λfl s3 q=>?_) λζ ζ e=>e)
 obtain⟨I3,ρ3,x3,O3,hfl⟩:=q
 have hfl:fl = .next:=hfl
 subst hfl
 refine kT (wpAny_If (tt.then hR2 x3.good O3 λI4 ρ4 s4 x4 O4 G4=>?_))
 have xb:=a9.back G x02 (x3.trans G2 x4.weaken) hfr
 cases c with
 | false=>
  rw [if_neg aX]
  refine lV ?_
  have x5:=rh (ss:=[]) (pe (pos:=p12) (ks:=[]) (etok p11)) (λq=>nomatch q)
  refine ar (x5 _ _ I4 ρ4 env s4 hR2 G4 O4) (λg s5 q=>?_) λζ ζ e=>e
  obtain⟨I5,ρ5,x6,O6,hfl⟩:=q
  obtain⟨u',rfl,hu'⟩:=hfl
  exact h1 v rfl u' s5 ⟨I5,ρ5,a9.back G x02 ((x3.trans G2 x4.weaken).trans G2 x6) hfr,hu'⟩
 | true=>
  rw [if_pos rfl]
  refine kT (owsi_raiseC hR2.1 ?_ λh' x hm=>?_)
  ·exact dw (cH (H0:=⟨H0.heap,env.locals::H0.stk⟩) B G4 O4 m3 rfl ⟨rfl,rfl⟩) (dm O4 (O4.glo _ m3))
  ·obtain⟨l,q1,q2,q3⟩:=hR2.2.2.2
   obtain⟨outer,_,hl0⟩:∃outer,A.frames=some outer/\env::outer=l:=by
    have q1':A.frames.map (env :: ·)=some l:=q1
    cases hA:A.frames with
    | none=>rw [hA]at q1';cases q1'
    | some outer=>rw [hA]at q1';cases q1';exact⟨outer,rfl,rfl⟩
   subst hl0
   refine Hs (H0:=⟨H0.heap,env.locals::H0.stk⟩) q1 q2 q3 hfm G4 hm λh'' st hT=>?_
   exact h2 rfl x _ I4 ρ4 (a9.back G x02 ((x3.trans G2 x4.weaken).trans G2 st.weaken) hfr) hT
theorem wR(P:dX):(kq (KK pw P) (.ref 872) "__iter__"==some (some (.ref 862))&&AO (KK pw P) (.ref 862)==some (.type "function")&&kq (KK pw P) (.ref 872) "__next__"==some (some (.ref 869))&&AO (KK pw P) (.ref 869)==some (.type "function") &&
  kq (KK pw P) (.ref 872) "__len__"==some none&&kq (KK pw P) (.ref 872) "__length_hint__"==some none)=true:=∅
theorem jo{K:Frag}{x C:aB}{ox:jh}{od:Option jh}{name:Str}{r:Option af}{Q:Option af->ag->Prop}(X:K.In s.heap)(I:InstAt s.heap x ox C od)(hs:kq K (.ref C) name=some r)(h:Q r s):aq (aw pw w) A (pr (.ref x) name) Q E s:=by
 unfold pr
 exact aa (I.type.here ((F3 X hs).here h))
theorem EY{K:Frag}{x C f:aB}{ox:jh}{od:Option jh}{Q:af->ag->Prop}(X:K.In s.heap)(I:InstAt s.heap x ox C od)(hs:kq K (.ref C) "__iter__"=some (some (.ref f)))(hf:AO K (.ref f)=some (.type "function"))
  (h:aq (aw pw w) A (call (.ref f) [.ref x]) (λv s'=>aq (aw pw w) A (pr v "__next__") (λr s2=>(∃g,r=some g)/\Q v s2) E s') E s):aq (aw pw w) A (mP (.ref x)) Q E s:=by
 have mid:∀(t:tn af),aq (aw pw w) A (if(j2 f==Value.none)=true then(do return some (<-t))else(do return some (<-call (.ref f) [.ref x]))) (λr s'=>∃v,r=some v/\aq (aw pw w) A (pr v "__next__") (λr s2=>(∃g,r=some g)/\Q v s2) E s') E s:=λt=>by
  refine lP rfl ?_
  exact aa (ar h (λv s' q=>ab ⟨v,rfl,q⟩) λζ ζ e=>e)
 have bound:aq (aw pw w) A (lD (.ref x) "__iter__" (do rule "iter.none";raiseError "TypeError" s!"'{← typeNameOf (.ref x)}' object is not iterable"))
   (λr s'=>∃v,r=some v/\aq (aw pw w) A (pr v "__next__") (λr s2=>(∃g,r=some g)/\Q v s2) E s') E s:=by
  unfold lD bindSpecialIfBound?
  refine aY (aa (aa (jo X I hs ?_)))
  dsimp only
  refine aa (gO (wpAny_ite ?_))
  split
  ·exact aa ((bind_fn X _ hf).here (ab (mid _)))
  ·exact cI (aa ((bind_fn X _ hf).here (ab (mid _))))
 unfold mP
 refine aa (jo X I hs ?_)
 dsimp only
 refine aa (ar bound (λr s' q=>?_) λζ ζ e=>e)
 obtain⟨v,rfl,q⟩:=q
 dsimp only
 refine aa (ar q (λr s2 q=>?_) λζ ζ e=>e)
 obtain⟨⟨g,rfl⟩,q⟩:=q
 exact ab q
noncomputable def xW(sp:Spec)(k:Nat)(R:List aN)(v:Option PV)(R':List aN):Prop:=lM sp k R=some (v,R')
theorem BD{k:Nat}{y:Option PV × List aN}(h:lM sp k R=some y):∃gs,R[k]? = some (.inst 872 gs):=by
 obtain⟨gs,_,_,_,_,hr0,_⟩:=wK (ov:=y.1) (R':=y.2) h
 exact⟨gs,hr0⟩
theorem Lf(B:dC w H0.heap)(hsp:∀L,dA ⟨H0.heap,L::H0.stk⟩ w n sp)(hR:cE H0 A (n+2)){k:Nat}{x:aB}:Vg H0 w A (.ref x) (λζ=>False) id (xW sp k) (λζ I ρ ζ=>cn I ρ (.obj k) (.ref x)) where
 own:=λζ ζ ζ ζ ζ ζ h=>h.elim
 keep:=λζ ζ ζ ζ ζ ζ ζ ζ ζ ζ ζ h x ζ=>h.leZ x
 next:=by
  intro R v R' I ρ s E hs G hx
  have hs:lM sp k R=some (v,R'):=hs
  obtain⟨gs,hr⟩:=BD hs
  obtain⟨p,es,j,hp,hxp,_,_,Ia,_,hF⟩:=ng G hr hx
  cases hxp
  have hf:=wR w.params
  simp only [bd,beq_iff_eq]at hf
  obtain⟨⟨⟨⟨⟨f1,f2⟩,f3⟩,f4⟩,f5⟩,f6⟩:=hf
  unfold fQ
  refine aa (nR (special_fn (name:="__next__") (args:=[]) (G.baseAt B).k Ia f3 f4 (fc (U7 B hsp hR G hx hs (λy hy u' s' q=>?_) λhy e s' I' ρ' st hT=>?_))))
  ·subst hy
   obtain⟨I',ρ',st,hu⟩:=q
   exact ab ⟨I',ρ',st.z,u',rfl,hu,hx.le st⟩
  ·subst hy
   refine aa (kR hT AT ?_)
   exact ab ⟨I',ρ',st.z,rfl⟩
theorem yo{k:Nat}(m:Nat):∀(R:List aN) {ys:List PV} {R':List aN},kz (λR=>lM sp k R) m R=some (ys,R')->rz (xW sp k) R ys R':=by
 induction m with
 | zero=>exact λR ζ ζ h=>nomatch h
 | succ m ih=>
  intro R ys R' h
  obtain⟨v,R1,e,h⟩:=gH h
  cases v with
  | none=>
   cases h
   exact .done e
  | some v=>
   obtain⟨zs,R2,e2,h⟩:=gH (x:=kz (λR=>lM sp k R) m R1) (k:=λys R''=>some (v::ys,R'')) h
   cases h
   exact .item e (ih R1 e2)
theorem a9.addfresh(x:a9 H0 X I ρ s I' ρ' R' s'){D:aB}{o:jh}(hz:s.heap.get? D=none)(hd:s'.heap.get? D=some o)(hn:¬fK I' ρ' D)(hs:D ∉ H0.stk):a9 H0 X I ρ s (jY I' D o) ρ' R' s':=by
 have hI:I' D=none:=by
  cases e:I' D with
  | none=>rfl
  | some o=>exact absurd (av (by rw [e];exact λh=>nomatch h)) hn
 refine⟨λa o' e=>nl hI a o' (x.le a o' e),x.pre,λa h=>?_,x.keep,x.alive,x.good.addfact hd hn hs,x.os,x.gens⟩
 by_cases ha:a=D
 ·subst ha;exact am hz
 ·rcases h with h | h
  ·unfold jY at h
   rw [if_neg ha]at h
   exact x.new a (av h)
  ·exact x.new a (am h)
theorem a0.addle{D:aB}{o:jh}{l:List PV}{xs:List af}(hn:¬fK I ρ D)(h:a0 I ρ l xs):a0 (jY I D o) ρ l xs:=by
 have hI:I D=none:=by
  cases e:I D with
  | none=>rfl
  | some o=>exact absurd (av (by rw [e];exact λh=>nomatch h)) hn
 have:=a0.mono (δ:=[]) (nl (o:=o) hI) l xs h
 rwa [aM]at this
theorem Kl{k:Nat}{u v:af}(h:cn I ρ (.obj k) u)(h':cn I ρ (.obj k) v):u=v:=by
 obtain⟨p,h1,rfl⟩:=h
 obtain⟨q,h2,rfl⟩:=h'
 rw [h1]at h2
 cases h2
 rfl
theorem B7(B:dC w H0.heap)(hsp:∀L,dA ⟨H0.heap,L::H0.stk⟩ w n sp)(hR:cE H0 A.in1 (n+2)){k:Nat}{x D:aB}{c:Nat}{res:af}{ys:List PV}{gs:List (Str × PV)}(G:Gd H0 I ρ R s.heap)(hx:cn I ρ (.obj k) (.ref x))(hr:R[k]? = some (.inst 872 gs))
  (hD:s.heap.get? D=some (cD #[] c))(ho:¬fK I ρ D)(dr:rz (xW sp k) R ys R')(hys:ys.length<=SZ){RR:fS->ag->Prop}
  (hQ:∀I' ρ' s' vs c',aR H0 eg (λa=>a=D) I ρ s I' ρ' R' s'->s'.heap.get? D=some (cD (bk vs) c')->¬fK I' ρ' D->a0 I' ρ' ys vs->RR (.ok (.ret res)) s') :
  aq (aw pw w) A.in1 (dM (.ref D) (.ref x) res) (λfin s'=>match fin with | .done f=>RR (.ok f) s' | .again c'=>c'.quiet=true/\cA (aw pw w) A c' RR s') (λe s'=>RR (.error e) s') s:=by
 obtain⟨p,es,j,hp,hxp,_,_,Ia,_,hF⟩:=ng G hr hx
 cases hxp
 have hf:=wR w.params
 simp only [bd,beq_iff_eq]at hf
 obtain⟨⟨⟨⟨⟨f1,f2⟩,f3⟩,f4⟩,f5⟩,f6⟩:=hf
 have hDx:D≠p.1:=λq=>ho (am ⟨p,be hp,av q⟩)
 unfold dM
 refine aa (Ia.type.here ?_)
 have h2:sq (.ref D) (.ref p.1)=false:=beq_eq_false_iff_ne.mpr hDx
 rw [if_neg (by rw [h2];decide)]
 refine aa (EY (G.baseAt B).k Ia f1 f2 (fc (U8 B hR G hx λv s1 q=>?_)))
 obtain⟨I1,ρ1,x1,hv⟩:=q
 have hx1:=hx.le x1
 cases Kl hx1 hv
 obtain⟨p1,es1,j1,hp1,hxp1,_,_,Ia1,_,hF1⟩:=ng x1.good hr hx1
 injection hxp1 with hxp1
 rw [<-hxp1]at Ia1
 have G1:=x1.good
 have hD1:=x1.kept hD (bM rfl) (λq=>ho (am q)) id
 have ho1:¬fK I1 ρ1 D:=λq=>(x1.new D q).elim ho (λq=>by rw [hD]at q;cases q)
 refine jo (G1.baseAt B).k Ia1 f3 ⟨⟨_,rfl⟩,?_⟩
 refine aa (aY ?_)
 unfold qE
 refine aa (jo (G1.baseAt B).k Ia1 f5 ?_)
 dsimp only
 refine lP rfl ?_
 refine lP rfl ?_
 refine aa (jo (G1.baseAt B).k Ia1 f6 ?_)
 dsimp only
 refine ab ?_
 refine HO rfl ?_
 refine aa (iX ?_)
 refine aa ?_
 unfold tz
 refine aa (m:=jZ D (·.push .none)) (cu hD1 rfl ?_ (by rw [sizeLine_eq];decide) (by rw [sizeLine_eq];decide))
 have hp2:=eO (c:="list") (xs := #[]) hD1 (·.push .none)
 refine cu (s:={ s1 with heap:=s1.heap.update D (bC (·.push .none)) }) hp2 rfl ?_ (by rw [sizeLine_eq];decide) (by rw [sizeLine_eq];decide)
 have hp3:=eO (c:="list") hp2 (·.pop)
 generalize hh2:(s1.heap.update D (bC (·.push .none))).update D (bC (·.pop))=h2 at hp3 ⊢
 have hk2:∀b o,b≠D->s1.heap.get? b=some o->h2.get? b=some o:=λb o hb e=>by
  rw [<-hh2]
  exact(aD _ _ hb.symm).trans ((aD _ _ hb.symm).trans e)
 obtain⟨c3,hp3⟩:∃c3,h2.get? D=some (cD (bk []) c3):=⟨_,hp3⟩
 have z:aR H0 eg (λa=>a=D) I1 ρ1 s1 I1 ρ1 R { s1 with heap:=h2 }:=aR.quiet G1 (λa ha=>ha▸ho1) (λa o ha e=>hk2 a o ha e) rfl rfl (λa ha=>ha▸G1.notStk hD1 (bM rfl))
 have Dr:=Lf (A:=A.in1) B hsp hR (k:=k) (x:=p.1)
 refine ab ⟨bT jg _,xa (D:=D) Dr id dr I1 ρ1 { s1 with heap:=h2 } [] c3 [] z.good (hx1.leZ z) hp3 ho1 a0.nil (by simpa using hys) (λI' ρ' s' zs c' y hD' hoD hr'=>?_)⟩
 exact hQ I' ρ' s' zs c' (aR.trans G x1.z (aR.trans G1 z (y.moreZ λa h=>h.elim ny id))) hD' hoD (by simpa using hr')
theorem Fj(B:dC w H0.heap){n0:Nat}(hn0:n0+2<=n)(hsp:∀L,dA ⟨H0.heap,L::H0.stk⟩ w n0 sp){g:Str}{np pos:dS}{k m:Nat}{gs:List (Str × PV)}{ys:List PV}(hg:gl cx g=true)(hgv:ff g=some (.type "list"))(h1:dP H0 w n cx e σ R (.obj k) R1)(hr:R1[k]? = some (.inst 872 gs))
  (hs:∀env:d7,bU [e] env=[(false,ej e env)])(hd:kz (λR=>lM sp k R) m R1=some (ys,R2))(hv:mkL ys=some v):dP H0 w n cx (.Call (.Name g np) [e] [] pos) σ R v R2:=by
 intro A E I ρ env s hR G O
 obtain⟨hyl,rfl⟩:=ow hv
 refine qc (hs env) (dw (cH B G O hg hgv ?_) (dm O (O.glo g hg)))
 refine callWith_type1 (h1.then hR G O λI1 ρ1 u s1 x1 hu O1 G1=>?_)
 have hu0:=hu
 obtain⟨p,hp,rfl⟩:=hu
 have hRoom:cE H0 A.in1.in1 (n0+2):=⟨hR.1,by have:=hR.2.1;show A.depth+_<=_;exact Wg hn0 this,by have:=hR.2.2.1;show A.units+1+1+_<=_;exact Wf hn0 this,hR.2.2.2⟩
 have hn:=ct s1.heap
 have hno:=bA G1 hn
 refine callType_codes (Q₁:=λobj s₁=>obj = .ref s1.heap.objs.size/\s₁={ s1 with heap:=s1.heap.push { cls:=.type "list",data:=.seq #[] } }) F.called_list (F.typeCall_list_1 _) F.entry_list_init
  (code_list_new _ ⟨rfl,rfl⟩) λobj s₂ h₁=>?_
 obtain⟨rfl,rfl⟩:=h₁
 have hS:(s1.heap.push { cls:=.type "list",data:=.seq #[] }).get? s1.heap.objs.size=some (cD #[] 0):=aU _ rfl
 generalize s1.heap.objs.size=D at hn hno hS ⊢
 have hk:∀b o,s1.heap.get? b=some o->(s1.heap.push { cls:=.type "list",data:=.seq #[] }).get? b=some o:=λb o e=>au _ e
 generalize s1.heap.push { cls:=.type "list",data:=.seq #[] }=h2 at hS hk ⊢
 refine⟨⟨_,hS,rfl⟩,F.args_list_init_2 _ _,?_⟩
 have st:a9 H0 eg I1 ρ1 s1 I1 ρ1 R1 { s1 with heap:=h2 }:=a9.quiet G1 m6 (λa o ζ e=>hk a o e) (λa ha=>ha.elim) rfl rfl
 show aq _ A.in1.in1 (do let old <-tA (.ref D);sX (.ref D) (λζ => #[]);letGo old.toList.reverse;dM (.ref D) (.ref p.1) .none) _ _ _
 refine aa ?_
 unfold tA
 refine aa (cZ hS rfl (ab ?_))
 show aq _ A.in1.in1 (jZ D (λζ => #[])>>=λζ=>letGo (#[]:Array af).toList.reverse>>=λζ=>dM (.ref D) (.ref p.1) .none) _ _ _
 refine aa (cu hS rfl ?_ (by rw [sizeLine_eq];decide) (by rw [sizeLine_eq];decide))
 have hS2:=eO (c:="list") (xs := #[]) (n:=0) hS (λζ=>(#[]:Array af))
 refine aa (dR ?_)
 obtain⟨c2,hS2⟩:∃c2,(h2.update D (bC λζ=>(#[]:Array af))).get? D=some (cD #[] c2):=⟨_,hS2⟩
 have z:aR H0 eg (λa=>a=D) I1 ρ1 { s1 with heap:=h2 } I1 ρ1 R1 { s1 with heap:=h2.update D (bC λζ=>(#[]:Array af)) }:=
  aR.quiet st.good (λa ha=>ha▸hno) (λa o ha e=>(aD _ _ (λq=>ha q.symm)).trans e) rfl rfl (λa ha=>ha▸st.good.notStk hS (bM rfl))
 refine B7 (A:=A.in1) (s:={ s1 with heap:=h2.update D (bC λζ=>(#[]:Array af)) }) (RR:=wants (λr s₂=>r = .none/\fP H0 I ρ s (.list ys) R2 (.ref D) s₂) E) B hsp hRoom z.good hu0 hr hS2 hno (yo m R1 hd) hyl λI' ρ' s' vs c' y hD' hoD hrr=>⟨rfl,?_⟩
 have zz:a9 H0 eg I1 ρ1 s1 I' ρ' R2 s':=aR.close G1 st (aR.trans st.good z y) (λa ha=>ha▸hn)
 have x2:a9 H0 eg I ρ s I' ρ' R2 s':=x1.trans G zz
 have hDs:s.heap.get? D=none:=by
  cases e:s.heap.get? D with
  | none=>rfl
  | some q=>exact absurd hn (x1.alive D (by rw [e];exact λh=>nomatch h))
 have x3:=x2.addfresh hDs hD' hoD (zz.good.notStk hD' (bM rfl))
 refine⟨_,ρ',x3,?_⟩
 exact⟨hyl,D,vs,c',rfl,by unfold jY;rw [if_pos rfl],hrr.addle hoD⟩
theorem Kt(P:dX):peek (KK pw P) ⟨pw,P⟩ (Bind.madeBy (.ref 737))=some none:=∅
theorem KO(P:dX):peek (KK pw P) ⟨pw,P⟩ (ML "object.__new__" (.ref 737))=some ():=∅
theorem Hi(P:dX):peek (KK pw P) ⟨pw,P⟩ (mroOf (.ref 737))=some [.ref 737,.ref 260,.ref 233,.type "object"]:=∅
theorem E1(P:dX):peek (KK pw P) ⟨pw,P⟩ (F4 (.ref 737))=some true:=∅
theorem Gx(P:dX):peek (KK pw P) ⟨pw,P⟩ (mH (.ref 737) (.ref 737))=some true:=∅
theorem MS(P:dX):peek (KK pw P) ⟨pw,P⟩ (mH (.ref 737) (.type "object"))=some true:=∅
theorem rb(P:dX):(kq (KK pw P) (.ref 737) "__init__"==some (some (.ref 507))&&AO (KK pw P) (.ref 507)==some (.type "function")&&AO (KK pw P) (.ref 737)==some (.type "type")&&(recIn (KK pw P) 234 "staticmethod").map (·.head?)==some (some (.ref 230))
 && specialIn (KK pw P) (.ref 737) "__call__"==some (some (.builtin "type.__call__"))&&instIn (KK pw P) (.ref 737) (.type "type")==some true&&keepIn (KK pw P) (.ref 737))=true:=∅
theorem Nc(P:dX):findCls (KK pw P) (.ref 737) (.type "type") "__new__"=some (.get (.builtin "staticmethod.__get__") (.ref 234) .none (.ref 737)):=∅
theorem Dg(P:dX):(makesIn (KK pw P) 872&&kq (KK pw P) (.ref 872) "__init__"==some (some (.ref 796))&&AO (KK pw P) (.ref 796)==some (.type "function")&&keepIn (KK pw P) (.ref 872))=true:=∅
theorem N4(P:dX):peek (KK pw P) ⟨pw,P⟩ (pA "object.__new__" ⟨[.ref 737],[]⟩)=some ():=∅
theorem yw(P:dX):((KK pw P).lookup 737).any (λo=>match o.data with | .cls cd =>!cd.abstract && !cd.hasDel && !cd.mro.isEmpty | _=>false)=true:=∅
theorem EG(B:dC w s.heap){RR:fS->ag->Prop}(hq:RR (.ok (.ret (.ref (s.heap.objs.size+1)))) { s with heap:=(s.heap.push gQ).push (nH 737 s.heap.objs.size) }) :
  cA (aw pw w) A (.call (.builtin "object.__new__") ⟨[.ref 737],[]⟩) RR s:=by
 obtain⟨h,g,d,t,os⟩:=s
 have X:=B.k
 have F:=PySem.F.objNew
 have here:qv (aw pw w) h (ML "object.__new__" (.ref 737)) ():=fB X (KO _)
 have mro:qv (aw pw w) h (mroOf (.ref 737)) _:=fB X (Hi _)
 have typ:qv (aw pw w) h (F4 (.ref 737)) true:=fB X (E1 _)
 have self:qv (aw pw w) h (mH (.ref 737) (.ref 737)) true:=fB X (Gx _)
 have top:qv (aw pw w) h (mH (.ref 737) (.type "object")) true:=fB X (MS _)
 have hi:=rb w.params
 simp only [bd,beq_iff_eq]at hi
 have typ2:qv (aw pw w) h (My (.ref 737) (.type "type")) true:=looks_instIn X hi.1.2
 obtain⟨o,ho,hc⟩:=AW (yw w.params)
 obtain⟨oc,od,dat,sl⟩:=o
 cases dat with
 | cls cd=>
  simp only [bd,cG]at hc
  obtain⟨⟨e1,e2⟩,e4⟩:=hc
  have hC:=X _ _ ho
  refine codeAny_call_builtin_code (rC _ F.quiet) ?_
  refine(fB (M:=aw pw w) X (N4 _)).here ?_
  refine bB F.entry ?_
  unfold Builtin.«object.__new__»
  have fin:∀A',aq (aw pw w) A' (do
    let d <-if typeHasDict (.ref 737)then some <$> alloc { cls:=.type "dict",data:=.dict #[] }else b8 none
    ret (<-newObj (.ref 737) .plain d)) (λfin s'=>match fin with | .done f=>RR (.ok f) s' | .again c'=>c'.quiet=true/\cA (aw pw w) A c' RR s') (λe s'=>RR (.error e) s') ⟨h,g,d,t,os⟩:=by
   intro A'
   show aq _ _ ((alloc gQ>>=λx=>b8 (some x))>>=_) _ _ _
   refine aa (aa (JA (ab (aa ?_))))
   show aq _ _ (newObjAsIs _ _ _) _ _ _
   unfold newObjAsIs classHasDel
   refine aa (JA (aa (aa (pV (au _ (au _ hC)) (ab ?_)))))
   rw [e2]
   refine ab (ab ?_)
   show RR _ _
   rw [iB]
   exact hq
  repeat (first | simp only [e1,bne_self_eq_false,a8,if_false,qF] | exact fin _ | lk)
 | _=>cases hc
theorem KW(K:Frag):findCls K (.type "object") (.type "type") "__new__"=some (.val (.builtin "object.__new__")):=∅
theorem vW:typeOf (.type "object")=b8 (.type "type"):=∅
theorem zp:Manifest.isStub "object"=false:=∅
theorem zY(B:dC w s.heap){pl:tn Bool}{Q:af × List af->ag->Prop}(h:Q (.builtin "object.__new__",[]) { s with toks:=s.toks+1 }):aq (aw pw w) A (getMethod (.type "object") "__new__" pl) Q E s:=by
 have X:=B.k
 have hstub:pt (.type "object")=b8 none:=by unfold pt;dsimp only;rw [zp];rfl
 have L0:qv (aw pw w) s.heap (typeOf (.type "object")) (.type "type"):=LJ vW
 have hg:kq (KK pw w.params) (.type "type") "__getattribute__"=some (some (.builtin "type.__getattribute__")):=type_tga
 unfold getMethod pr
 refine aa (aa (L0.here ((F3 X hg).here ?_)))
 dsimp only
 rw [if_pos canon_tga]
 refine aa (ar (Q:=λv=>Q (v,[])) (E:=E) ?_ (λζ ζ z=>ab z) λζ ζ z=>z)
 have LO:qv (aw pw w) s.heap (pt (.type "object")) none:=LJ hstub
 refine cls_open X LO L0 hg (looks_hook X (r:=none) (by rfl)) (by show subIn _ _ _=_;rfl) (KW _)
  (ab (by show aq _ _ (handedOut (.builtin "object.__new__")) _ _ _;rw [handedOut_of (by decide+kernel)];exact ab h))
theorem zF{C:aB}(G:Gd H0 I ρ R s.heap):fP H0 I ρ s (.obj R.length) (R++[.inst C []]) (.ref (s.heap.objs.size+1)) { s with heap:=(s.heap.push gQ).push (nH C s.heap.objs.size) }:=by
 have hn:s.heap.get? s.heap.objs.size=none:=ct s.heap
 have hn1:s.heap.get? (s.heap.objs.size+1)=none:=by
  cases e:s.heap.get? (s.heap.objs.size+1)with
  | none=>rfl
  | some o=>exact absurd (c7 e) (dF.mpr (di _))
 have e1:((s.heap.push gQ).push (nH C s.heap.objs.size)).get? s.heap.objs.size=some gQ:=au _ (aU _ rfl)
 have e2:((s.heap.push gQ).push (nH C s.heap.objs.size)).get? (s.heap.objs.size+1)=some (nH C s.heap.objs.size):=by
  have:=aU (s.heap.push gQ) (o:=nH C s.heap.objs.size) rfl
  rwa [iB]at this
 have st:=a9.recd (X:=eg) (s':={ s with heap:=(s.heap.push gQ).push (nH C s.heap.objs.size) }) (p:=(s.heap.objs.size+1,s.heap.objs.size)) (r:=.inst C []) G hn1 hn
  (λb o e=>au _ (au _ e)) ⟨dU (dy _),e2,bp _,[],0,e1,rfl⟩ rfl rfl
 refine⟨_,_,st,?_⟩
 refine⟨(s.heap.objs.size+1,s.heap.objs.size),?_,rfl⟩
 rw [<-G.len,bI (aF _),eX]
 rfl
theorem Fg(B:dC w H0.heap){np apos cp pos:dS}(hg:gl cx "object"=true)(hgc:gl cx "cls"=false)(hσ:σ.lookup ("cls":Str)=some (.val (.ref 737)))(hline:(apos.endLine==pos.line)=true) :
  dP H0 w n cx (.Call (.Attribute (.Name "object" np) "__new__" apos) [.Name "cls" cp] [] pos) σ R (.obj R.length) (R++[.inst 737 []]):=by
 intro A E I ρ env s hR G O
 rw [arm_eval_Call]
 have hbase:fI (.Name "object" np) "__new__" env (ej (.Name "object" np) env)=ej (.Name "object" np) env:=rfl
 rw [hbase]
 refine aa (dw (cH B G O hg (v:=.type "object") (by decide+kernel) (aa (fh ?_))) (dm O (O.glo _ hg)))
 have hpos:lv true (.Name "object" np) env apos pos=b8 pos:=by unfold lv;simp [hline]
 unfold methodCall
 show aq _ A (do
  let (f,first) <-km [lE "object"] (calleeOf true (.Name "object" np) env (.type "object") "__new__")
  let callPos <-lv true (.Name "object" np) env apos pos
  JC callPos f first (hU pos (bU [.Name "cls" cp] env)) []) _ E s
 refine aa (aY (zY (G.baseAt B) ?_))
 refine aa (cF hpos ?_)
 have hev:dP H0 w n cx (.Name "cls" cp) σ R (.val (.ref 737)) R:=ni hσ
 have st:a9 H0 eg I ρ s I ρ R { s with toks:=s.toks+1 }:=a9.toks G m6 _
 refine callWith_builtin_kwB rfl rfl (evalArgs_kwB rfl ?_)
 refine fG (ar (hev.then hR st.good (O.step st) λI1 ρ1 u s1 x1 hu O1 G1=>?_) (λζ ζ h₁=>hO h₁) λζ ζ e=>e)
 refine nF ?_
 cases hu
 show aq _ A (call (.builtin "object.__new__") [.ref 737] []) _ E s1
 exact fc (EG (G1.baseAt B) (fP.mono_ G (st.trans G x1) (zF G1)))
set_option tactic.hygienic true in
theorem y8{α:Type}{K:Frag}{M:rI}{Q:α->ag->Prop}{o:jh}(X:K.In s.heap):∀(t:tn α) (g:aB->tn α),AS K ⟨M.prog,M.w.params⟩ t=some (o,g) ->
   aq M A (g s.heap.objs.size) Q E { s with heap:=s.heap.push o }->aq M A t Q E s:=by
 intro t
 induction t with
 | rule _ k ih=>intro g e q Γ p hΓ;exact ih () g e q Γ p hΓ
 | point _ k ih=>intro g e q Γ p hΓ;exact ih () g e q Γ p hΓ
 | ask k ih=>intro g e q Γ p hΓ;exact ih _ g e q Γ p hΓ
 | load a _ k ih=>
  intro g e q Γ p hΓ
  simp only [AS]at e
  split at e
  ·rename_i ob ho;exact⟨ob,X _ _ ho,ih ob g e q Γ p hΓ⟩
  ·cases e
 | alloc ob k _=>
  intro g e q
  have e:some (ob,k)=some (o,g):=e
  obtain⟨e1,e2⟩:=eR (aW e)
  subst e1
  subst e2
  show aq M A (alloc ob>>=k) Q E s
  exact aa (JA q)
 | _=>intro g e;cases e
set_option backward.match.sparseCases true in
theorem HU{d:FD}(K:LB d)(hlaw:(d.scope.names.lookup ("met":Str)==some .cell)=false){f:aB}{qual:Str}{cd:aB}(hR:cE H0 A (n+2)){binds:List (Str × af)}{σ0:br}{s1:ag}(G:Gd H0 I ρ R s.heap)(x1:a9 H0 eg I ρ s I' ρ' R s1)(B:dC w H0.heap)(hrel:fW I' ρ' σ0 binds)(hnd:(σ0.map (·.1)).Nodup)
  (hpar:∀x∈σ0,d.scope.names.lookup x.1=some .local\/d.scope.names.lookup x.1=some .cell){RR:fS->ag->Prop}
  (hbody:∀(I1:dB) (ρ1:dI) (env:d7) (s2:ag),b5 I1 ρ1 ⟨d.scope.names,R.length⟩ σ0 env s2.heap->Gd ⟨H0.heap,env.locals::H0.stk⟩ I1 ρ1 R s2.heap->cE ⟨H0.heap,env.locals::H0.stk⟩ (A.deeper env) (n+1)->env.frame=some env.locals->(∀b,kL env b->s.heap.get? b=none) ->
   a9 H0 eg I ρ s I1 ρ1 R s2->aq (aw pw w) (A.deeper env) (execs d.body env) (λg s'=>RR (.ok (.ret (match g with | .ret v=>v | _=>.none))) s')
    (λe s'=>aq (aw pw w) (A.deeper env) (leaving env e) (λζ s''=>RR (.error e) s'') (λe' s''=>RR (.error e') s'') s') s2) :
   aq (aw pw w) A.in1 (kl d.scope c8 [] binds (qual++".<locals>.") (some f) (.ref cd) none jN)
    (λenv s₂=>s₂.heap.NoLimit/\cA (aw pw w) A (.func d.body env) RR s₂) (λe s'=>RR (.error e) s') s1:=by
 have G1:=x1.good
 have hkd:∀y∈binds,d.scope.names.lookup y.1=some .local\/(d.scope.names.lookup y.1=some .cell/\((pB (s1.heap.objs.size+1) d.scope.names []).lookup y.1).isSome=true):=λy hy=>by
  have hm:y.1∈σ0.map (·.1):=by rw [<-hrel.names];exact dE hy
  obtain⟨z,hz,hz'⟩:=aH.mp hm
  have:=hpar z hz
  rw [hz']at this
  rcases this with h | h
  ·exact av h
  ·exact am ⟨h,jz y.1 _ _ _ (av (mem_of_lookup h))⟩
 refine mK K.kind hkd λenv henv s2 x2=>?_
 have O2:=vx K hrel hnd hpar G1 henv x2 (λq=>by rw [q]at hlaw;cases hlaw)
 have x12:a9 H0 eg I' ρ' s1 I' ρ' R s2:=by
  obtain⟨h',tk,e⟩:=x2.toInCall.same
  exact a9.quiet G1 m6 (λa o ζ e=>x2.toInCall.keep a o e) (λζ h=>h.elim) (by rw [e]) (by rw [e])
 have x02:=x1.trans G x12
 have G2:=x12.good
 have hfm:env.frame=some env.locals:=by rw [henv];rfl
 have hkm:env.scope.kind ≠ .module:=by rw [henv];show d.scope.kind≠_;rw [K.kind];decide
 have hfr:∀b,kL env b->s.heap.get? b=none:=λb hb=>by
  have hle:s1.heap.objs.size<=b:=by
   rcases hb with rfl | ⟨y,hy⟩
   ·rw [henv];exact aF _
   ·have:=x2.above y b (mem_of_lookup hy)
    rw [henv]at this
    exact bg this
  cases e':s.heap.get? b with
  | none=>rfl
  | some o'=>
   exfalso
   refine x1.alive b (by rw [e'];exact λh=>nomatch h) ?_
   cases e'':s1.heap.get? b with
   | none=>rfl
   | some o''=>exact absurd (c7 e'') (dF.mpr hle)
 have hst:sM s2.heap env.locals:=by
  obtain⟨m,⟨o,es,ep,q1,q2,_⟩,_⟩:=O2.ns
  exact⟨o,es,ep,q1,q2⟩
 refine⟨(G2.baseAt B).lim,codeAny_func ?_⟩
 exact hbody I' ρ' env s2 O2 (G2.push (O2.sep _ (av rfl)) hst) (hR.deeper env hfm hkm) hfm hfr x02
noncomputable abbrev jw:FD:=bv (bL pw 31 1)
noncomputable def r3:FD:={ jw with params:=bN }
theorem OJ:z7 r3=true:=∅
theorem Vd:∃p1 p2 p3 p4 p5 p6 p7 tb p8 p9 apos p10 pos p11,jw.body=[.If (.BoolOp .And [.Compare (.Name "cls" p1) [.IsNot] [.Name "BytesIO" p2] p3,.Compare (.Name "cls" p4) [.IsNot] [.Name "StringIO" p5] p6] p7) tb [] p8,.Return (some (.Call (.Attribute (.Name "object" p9) "__new__" apos) [.Name "cls" p10] [] pos)) p11]/\apos.endLine=pos.line:=⟨_,_,_,_,_,_,_,_,_,_,_,_,_,_,rfl,rfl⟩
theorem UR:(jw.scope.names.lookup ("cls":Str)==some .local&&jw.scope.names.lookup ("args":Str)==some .local&&jw.scope.names.lookup ("kwargs":Str)==some .local&&jw.scope.names.lookup ("object":Str)==some .globalImplicit&&jw.scope.names.lookup ("BytesIO":Str)==some .globalImplicit&&jw.scope.names.lookup ("StringIO":Str)==some .globalImplicit)=true:=∅
theorem UT(P:dX):(KK pw P).lookup 230=some (ed jw "IOBase.__new__" .none (.str "io" 571) 229):=∅
theorem U9:((229:aB),("IOBase.__new__":Str))∈CQ:=by unfold CQ;repeat (first | exact Ge _ | apply Gc)
noncomputable abbrev rZ:FuncData:=fnOf jw.name "IOBase.__new__" jw.params jw.body jw.scope .none .none .none (.str "io" 571) none (.ref 229) .none
theorem OG(P:dX)(u:af):(AS (KK pw P) ⟨pw,P⟩ (vQ rZ ⟨[.ref 737,u],[]⟩)).map (·.1)=some { cls:=.type "tuple",data:=.seq #[u] }:=∅
theorem OF(P:dX)(u:af)(D:aB):(AS (KK pw P) ⟨pw,P⟩ (vQ rZ ⟨[.ref 737,u],[]⟩)).bind (λp=>(AS (KK pw P) ⟨pw,P⟩ (p.2 D)).map (·.1))=some gQ:=∅
theorem OE(P:dX)(u:af)(D D':aB):(AS (KK pw P) ⟨pw,P⟩ (vQ rZ ⟨[.ref 737,u],[]⟩)).bind (λp=>(AS (KK pw P) ⟨pw,P⟩ (p.2 D)).bind λq=>peek (KK pw P) ⟨pw,P⟩ (q.2 D'))=some [(("cls":Str),j2 737),("args",.ref D),("kwargs",.ref D')]:=∅
theorem IR(X:(KK pw w.params).In s.heap){u:af}{Q:List (Str × af)->ag->Prop}(h:∀D D',Q [(("cls":Str),j2 737),("args",.ref D),("kwargs",.ref D')] { s with heap:=(s.heap.push { cls:=.type "tuple",data:=.seq #[u] }).push gQ }) :
  aq (aw pw w) A (vQ rZ ⟨[.ref 737,u],[]⟩) Q E s:=by
 have h1:=OG w.params u
 have h2:=OF w.params u
 have h3:=OE w.params u
 cases e1:AS (KK pw w.params) ⟨pw,w.params⟩ (vQ rZ ⟨[.ref 737,u],[]⟩)with
 | none=>rw [e1]at h1;cases h1
 | some p=>
  obtain⟨o,g⟩:=p
  rw [e1]at h1 h2 h3
  simp only [i8,gJ]at h1
  subst h1
  have X1:(KK pw w.params).In (s.heap.push { cls:=.type "tuple",data:=.seq #[u] }):=X.keeps λb o e=>au _ e
  refine y8 (M:=aw pw w) X _ g e1 ?_
  have h2:=h2 s.heap.objs.size
  have h3:=h3 s.heap.objs.size
  simp only [gr]at h2 h3
  cases e2:AS (KK pw w.params) ⟨pw,w.params⟩ (g s.heap.objs.size)with
  | none=>rw [e2]at h2;cases h2
  | some q=>
   obtain⟨o2,g2⟩:=q
   rw [e2]at h2 h3
   simp only [i8,gJ]at h2
   subst h2
   refine y8 (M:=aw pw w) (s:={ s with heap:=s.heap.push { cls:=.type "tuple",data:=.seq #[u] } }) X1 _ g2 e2 ?_
   have h3:=h3 (s.heap.push { cls:=.type "tuple",data:=.seq #[u] }).objs.size
   simp only [gr]at h3
   exact(fB (M:=aw pw w) (h:=(s.heap.push { cls:=.type "tuple",data:=.seq #[u] }).push gQ) (X1.keeps λb o e=>au _ e) h3).here (s:={ s with heap:=(s.heap.push { cls:=.type "tuple",data:=.seq #[u] }).push gQ }) (h _ _)
theorem Al{x y:Str}{p1 p2:dS}{b:aB}(B:dC w H0.heap)(hx:gl cx x=false)(hσ:σ.lookup x=some (.val (.ref 737)))(hy:gl cx y=true)(hgy:ff y=some (.ref b))(hb:b=737\/b=490) :
  Oo H0 w n cx (.Name x p1) .IsNot (.Name y p2) σ R (b != 737) R:=by
 have e1:dP H0 w n cx (.Name x p1) σ R (.val (.ref 737)) R:=ni hσ
 have e2:dP H0 w n cx (.Name y p2) σ R (.val (.ref b)) R:=tQ B hy hgy
 refine⟨rfl,λA E I ρ env s hR G O=>?_⟩
 refine e1.then hR G O λI1 ρ1 u1 s1 x1 hu1 O1 G1=>e2.then hR G1 O1 λI2 ρ2 u2 s2 x2 hu2 O2 G2=>?_
 cases hu1
 cases hu2
 show aq _ A (do return dT (!(<-xn (.ref 737) (.ref b)))) _ E s2
 refine aa ?_
 rcases hb with rfl | rfl
 ·exact wpAny_isSame_ref_self (ab (fP.mono_ G (x1.trans G x2) (d8 G2 jr)))
 ·obtain⟨o1,ho1,hc1⟩:=AW (yw w.params)
  obtain⟨o2,ho2⟩:=(G2.baseAt B).e
  refine wpAny_isSame_ref_other (by decide) ((G2.baseAt B).k _ _ ho1) ho2 (λq=>?_) (ab (fP.mono_ G (x1.trans G x2) (d8 G2 jr)))
  have hi:=rb w.params
  simp only [bd,beq_iff_eq]at hi
  have:=hi.1.1.1.1.2
  have:=aW ((congrArg (Option.map Obj.cls) ho1).symm.trans this)
  rw [q]at this
  exact absurd this (by decide)
theorem Qh(B:dC w H0.heap)(hR:cE H0 A (n+2))(G:Gd H0 I ρ R s.heap){u:af}{RR:fS->ag->Prop}(h:∀v s',fP H0 I ρ s (.obj R.length) (R++[.inst 737 []]) v s'->RR (.ok (.ret v)) s') :
  cA (aw pw w) A (.call (.ref 230) ⟨[.ref 737,u],[]⟩) RR s:=by
 have B':=G.baseAt B
 have K:=rX OJ
 have hd0:A.depth<AR:=by
  have:=hR.2.1
  show A.depth<1000
  exact UN this
 refine Jk (fd:=rZ) hd0 (B'.k _ _ (UT _)) rfl K.co K.gen rfl (B'.c _ U9) ?_
 refine IR B'.k λD D'=>?_
 have x1:a9 H0 eg I ρ s I ρ R { s with heap:=(s.heap.push { cls:=.type "tuple",data:=.seq #[u] }).push gQ }:=a9.quiet G m6 (λa o ζ e=>au _ (au _ e)) (λζ h=>h.elim) rfl rfl
 have hn:=UR
 simp only [bd,beq_iff_eq]at hn
 obtain⟨⟨⟨⟨⟨n1,n2⟩,n3⟩,n4⟩,n5⟩,n6⟩:=hn
 refine HU (d:=r3) (σ0:=[("cls",.val (.ref 737)),("args",.val (.ref D)),("kwargs",.val (.ref D'))]) K ∅ hR G x1 B ?_ (by show([("cls":Str),("args":Str),("kwargs":Str)]).Nodup;decide) ?_ λI1 ρ1 env s2 O2 G2 hR2 ζ hfr x02=>?_
 ·exact⟨_,_,rfl,rfl,_,_,rfl,rfl,_,_,rfl,rfl,rfl⟩
 ·intro x hx
  simp only [ay,bJ,or_false]at hx
  rcases hx with rfl | rfl | rfl
  ·exact av n1
  ·exact av n2
  ·exact av n3
 ·show aq _ _ (execs jw.body env) _ _ _
  obtain⟨p1,p2,p3,p4,p5,p6,p7,tb,p8,p9,apos,p10,pos,p11,hb,hline⟩:=Vd
  have hv:f8 ("cls":Str) [(("cls":Str),PV.val (.ref 737)),("args",.val (.ref D)),("kwargs",.val (.ref D'))]=some (.val (.ref 737)):=by simp
  generalize hσ:[(("cls":Str),PV.val (.ref 737)),("args",.val (.ref D)),("kwargs",.val (.ref D'))]=σ0 at hv O2
  have gcls:gl ⟨r3.scope.names,R.length⟩ "cls"=false:=by show(jw.scope.names.lookup ("cls":Str)==some .globalImplicit)=false;rw [n1];rfl
  have gob:gl ⟨r3.scope.names,R.length⟩ "object"=true:=by show(jw.scope.names.lookup ("object":Str)==some .globalImplicit)=true;rw [n4];rfl
  have gby:gl ⟨r3.scope.names,R.length⟩ "BytesIO"=true:=by show(jw.scope.names.lookup ("BytesIO":Str)==some .globalImplicit)=true;rw [n5];rfl
  have gst:gl ⟨r3.scope.names,R.length⟩ "StringIO"=true:=by show(jw.scope.names.lookup ("StringIO":Str)==some .globalImplicit)=true;rw [n6];rfl
  generalize jw.body=body at hb ⊢
  subst hb
  ·skip
   have B2:dC w (⟨H0.heap,env.locals::H0.stk⟩:Bs).heap:=B
   have cp1:=Al (H0:=⟨H0.heap,env.locals::H0.stk⟩) (n:=n) (R:=R) (p1:=p1) (p2:=p2) (b:=490) B2 gcls hv gby (by decide+kernel) (am rfl)
   have cp2:=Al (H0:=⟨H0.heap,env.locals::H0.stk⟩) (n:=n) (R:=R) (p1:=p4) (p2:=p5) (b:=737) B2 gcls hv gst (by decide+kernel) (av rfl)
   have tt:=Gm (pos:=p7) (nY (op:=.And) (ja (pos:=p3) cp1) (by decide) (kZ (es:=[]) (ja (pos:=p6) cp2) (by decide)))
   have e1:=Ma (pos:=p8) (ss:=tb) (ts:=[]) (c:=(737:aB) != 737) tt DF
   have e2:=pe (pos:=p11) (ks:=[]) (Fg (H0:=⟨H0.heap,env.locals::H0.stk⟩) (n:=n) (R:=R) (np:=p9) (cp:=p10) B2 gob gcls hv (by rw [hline];exact beq_self_eq_true _))
   have e3:=H3 e1 (rh (ss:=[]) e2 (λq=>nomatch q))
   refine ar (e3 _ (λζ ζ=>False) I1 ρ1 env s2 hR2 G2 O2) (λg s3 q=>?_) λζ ζ e=>e.elim
   obtain⟨I3,ρ3,x3,O3,hfl⟩:=q
   obtain⟨u',rfl,hu'⟩:=hfl
   exact h u' s3 ⟨I3,ρ3,a9.back G x02 x3 hfr,hu'⟩
theorem cE.under{H0:Bs}{A:bD}{n:Nat}{C:aB}{vs:List af}{kw:List (Str × af)}(h:cE H0 A (n+1)):cE H0 (A.under (.builtin "type.__call__" ⟨.ref C::vs,kw⟩)) n:=by
 obtain⟨l,h1,h2,h3⟩:=h.2.2.2
 refine⟨h.1,by have:=h.2.1;show A.depth+1+_<=_;exact o8 this,by have:=h.2.2.1;show A.units+1+_<=_;exact o4 this,l,?_,h2,h3⟩
 show pushEnvs [] A.frames=some l
 rw [h1]
 rfl
theorem Nb(B:dC w H0.heap)(hsp:dA H0 w n sp)(hR:cE H0 A (n+1))(G:Gd H0 I ρ R s.heap){pos:List PV}{kw:List (Str × PV)}{pvs:List af}{kvs:List (Str × af)}(hp:a0 I ρ pos pvs)(hk:LA I ρ kw kvs)
  (hc:sp 796 (.obj R.length::pos) kw (R++[.inst 872 []])=some (.none,R2)) :
  cA (aw pw w) A (.call (.ref 872) ⟨pvs,kvs⟩) (λr s'=>match r with | .ok (.ret u)=>fP H0 I ρ s (.obj R.length) R2 u s' | .ok _=>False | .error e=>E e s') s:=by
 have X:=(G.baseAt B).k
 have hm:=Dg w.params
 simp only [bd,beq_iff_eq]at hm
 obtain⟨⟨⟨m1,m2⟩,m3⟩,m4⟩:=hm
 obtain⟨h,g,d,t,os⟩:=s
 refine make_core (makes_of X m1) (F3 X m2) (λself=>bind_fn X self m3) (.inl rfl) ?_
 obtain⟨I1,ρ1,x1,hu⟩:=zF (C:=872) G
 obtain⟨δ,hδ⟩:=x1.pre
 refine gv (hsp 796 _ kw _ _ _ hc _ E I1 ρ1 _ (.ref (h.objs.size+1)::pvs) kvs hR.under x1.good ?_ ⟨hk.1,hk.2.le x1⟩) λr s' z=>?_
 ·exact⟨_,pvs,rfl,hu,hp.le x1⟩
 ·rcases r with e | fl
  ·exact z
  ·cases fl with
   | ret v=>
    obtain⟨I2,ρ2,x2,hv⟩:=z
    exact⟨hv,I2,ρ2,x1.trans G x2,hu.le x2⟩
   | _=>exact z
theorem E9(B:dC w s.heap){Q:af->ag->Prop}(h:Q (.ref 230) { s with toks:=s.toks+1 }):aq (aw pw w) A (vO (.ref 737) "__new__") Q E s:=by
 have X:=B.k
 obtain⟨m,hns,hm⟩:=B.t
 have LO:qv (aw pw w) s.heap (pt (.ref 737)) none:=λA Q E s' k q=>aa (aa (wpAny_nsGet (hns.keeps k) (by rw [hm];exact ab (ab q))))
 have hi:=rb w.params
 simp only [bd,beq_iff_eq]at hi
 obtain⟨⟨⟨⟨⟨⟨i1,i2⟩,i3⟩,i4⟩,i5⟩,i6⟩,i7⟩:=hi
 have hn:=Nc w.params
 obtain⟨rest,hrec⟩:∃rest,recIn (KK pw w.params) 234 "staticmethod"=some (.ref 230::rest):=by
  cases hq:recIn (KK pw w.params) 234 "staticmethod" with
  | none=>rw [hq]at i4;cases i4
  | some l=>
   rw [hq]at i4
   cases l with
   | nil=>cases i4
   | cons a q=>
    simp only [i8,List.head?_cons,gJ]at i4
    subst i4
    exact⟨q,rfl⟩
 have hg:kq (KK pw w.params) (.type "type") "__getattribute__"=some (some (.builtin "type.__getattribute__")):=type_tga
 refine cls_open X LO (looks_typeIn X i3) hg (looks_hook X (r:=none) (by rfl)) (by show subIn _ _ _=_;rfl) hn ?_
 exact aa (aY (fc (sm_get (s:={ s with toks:=s.toks+1 }) X hrec (ab (ab h)))))
theorem EH(B:dC w H0.heap)(hsp:dA H0 w n sp)(hR:cE H0 A (n+3))(G:Gd H0 I ρ R s.heap){a:PV}{u:af}(hp:cn I ρ a u)
  (hc:sp 507 [.obj R.length,a] [] (R++[.inst 737 []])=some (.none,R2)) :
  cA (aw pw w) A (.call (.ref 737) ⟨[u],[]⟩) (λr s'=>match r with | .ok (.ret u)=>fP H0 I ρ s (.obj R.length) R2 u s' | .ok _=>False | .error e=>E e s') s:=by
 have B':=G.baseAt B
 have X:=B'.k
 have hi:=rb w.params
 simp only [bd,beq_iff_eq]at hi
 obtain⟨⟨⟨⟨⟨⟨i1,i2⟩,i3⟩,i4⟩,i5⟩,i6⟩,i7⟩:=hi
 have mro:qv (aw pw w) s.heap (mroOf (.ref 737)) _:=fB X (Hi _)
 have made:qv (aw pw w) s.heap (Bind.madeBy (.ref 737)) none:=fB X (Kt _)
 have typ:qv (aw pw w) s.heap (My (.ref 737) (.type "type")) true:=looks_instIn X i6
 have call:qv (aw pw w) s.heap (pr (.ref 737) "__call__") _:=looks_specialIn X i5
 obtain⟨o,ho,hcd⟩:=AW (yw w.params)
 obtain⟨oc,od,dat,sl⟩:=o
 cases dat with
 | cls cd=>
  have hC:=X _ _ ho
  refine qt ?_
  show aq _ _ (callAny (.ref 737) _) _ _ _
  refine nd_load hC ?_
  show aq _ _ (CL (.ref 737) _) _ _ _
  unfold CL
  refine aa (call.here ?_)
  dsimp only
  rw [tc_bind]
  refine aa (ab (aa (ab ?_)))
  refine ab (a:=Fin.again (.call (.builtin "type.__call__") ⟨.ref 737::[u],[]⟩)) (t9 rfl ?_)
  refine codeAny_call_builtin_at (rC _ (by decide+kernel)) entry_typeCall (check_slot tc_kind tc_split typ (tc_args _ _ _) ?_)
  unfold Builtin.«type.__call__»
  have newf:∀{A':bD} {Q:af->ag->Prop},Q (.ref 230) { s with toks:=s.toks+1 }->aq (aw pw w) A' (vO (.ref 737) "__new__") Q E s:=E9 B'
  repeat (first | simp only [a8,if_false,List.isEmpty_cons] | with_reducible refine fc ?_ | with_reducible refine newf ?_ | lk)
  have st:a9 H0 eg I ρ s I ρ R { s with toks:=s.toks+1 }:=a9.toks G m6 _
  refine Qh (s:={ s with toks:=s.toks+1 }) B hR.under st.good λv s' q=>?_
  obtain⟨I1,ρ1,x1,hv⟩:=q
  have x01:=st.trans G x1
  have G1:=x1.good
  have hr:(R++[aN.inst 737 []])[R.length]? = some (.inst 737 []):=by rw [bI (aF _),eX];rfl
  have hv0:=hv
  obtain⟨p,es,j,hpp,rfl,_,_,Ia,_,hF⟩:=ng G1 hr hv
  have X1:=(G1.baseAt B).k
  have self:qv (aw pw w) s'.heap (mH (.ref 737) (.ref 737)) true:=fB X1 (Gx _)
  unfold My
  refine aa (aa (Ia.type.here (self.here ?_)))
  rw [if_neg (by decide)]
  refine aa (aY (special_fn X1 Ia i1 i2 (fc ?_)))
  refine gv (hsp 507 _ [] _ _ _ hc _ E I1 ρ1 _ [.ref p.1,u] [] (hR.under.le (by exact We)) G1 ?_ ⟨rfl,by exact a0.nil⟩) λr s'' z=>?_
  ·exact⟨_,_,rfl,hv0,_,_,rfl,hp.le x01,rfl⟩
  ·rcases r with e | fl
   ·exact z
   ·cases fl with
    | ret v=>
     obtain⟨I2,ρ2,x2,hv2⟩:=z
     cases hv2
     refine ab ?_
     exact⟨I2,ρ2,x01.trans G x2,hv0.le x2⟩
    | _=>exact z.elim
 | _=>cases hcd
theorem gg{env:d7}{es:List Expr}(h:eL e=true):bU (e::es) env=(false,ej e env)::bU es env:=by
 cases e<;>first | rfl | cases h
theorem GA{env:d7}:∀{es:List Expr},(∀e∈es,eL e=true)->bU es env=es.map λe=>(false,ej e env):=by
 intro es
 induction es with
 | nil=>
  intro _
  exact rfl
 | cons e es ih=>
  intro h
  rw [gg (h e (.head _)),ih λx hx=>h x (.tail _ hx)];rfl
theorem jA{env:d7}{pos:dS}{es:List Expr}(h:∀e∈es,eL e=true):hU pos (bU es env)=es.map λe=>(false,ej e env):=by
 rw [GA h]
 unfold hU
 rw [aG]
 rfl
theorem rq{env:d7}{pos:dS}{es:List Expr}(h:∀e∈es,eL e=true):(hU pos (bU es env)).any (·.1)=false:=by
 rw [jA h,List.any_map]
 exact List.any_eq_false.mpr λx ζ=>(by exact aX)
noncomputable def Jh(H0:Bs)(w:bG)(n:Nat)(cx:Cx)(ks:List cQ)(σ:br)(R:List aN)(v:List (Str × PV))(R':List aN):Prop:=
 ks.map (·.arg)=v.map (λx=>some x.1) /\ ∀(A:bD) (E:af->ag->Prop) (I:dB) (ρ:dI) (env:d7) (pos:dS) (s:ag),cE H0 A (n+1)->Gd H0 I ρ R s.heap->b5 I ρ cx σ env s.heap ->
  aq (aw pw w) A (evalAll ((JE pos (yL ks env)).map (·.2))) (I8 H0 I ρ s (v.map (·.2)) R') E s
theorem K4:Jh H0 w n cx [] σ R [] R:=⟨rfl,λA E I ρ env pos s hR G O=>nF (by exact⟨I,ρ,a9.self G m6,by exact a0.nil⟩)⟩
theorem Ib{x:Str}{kp:dS}{ks:List cQ}{vs:List (Str × PV)}(h1:dP H0 w n cx e σ R v R1)(h2:Jh H0 w n cx ks σ R1 vs R2):Jh H0 w n cx (⟨some x,e,kp⟩::ks) σ R ((x,v)::vs) R2:=by
 refine⟨by rw [aK,aK,h2.1],λA E I ρ env pos s hR G O=>?_⟩
 refine Mx (h1.then hR G O λI1 ρ1 u s1 x1 hu O1 G1=>?_)
 refine ar (h2.2 A E I1 ρ1 env pos s1 hR G1 O1) (λus s2 q=>?_) λζ ζ e=>e
 obtain⟨I2,ρ2,x2,hus⟩:=q
 refine⟨I2,ρ2,x1.trans G x2,?_⟩
 exact⟨u,us,rfl,hu.le x2,hus⟩
theorem zQ{env:d7}{pos:dS}:∀(ks:List cQ),(JE pos (yL ks env)).map (·.1)=ks.map (·.arg)
 | []=>rfl
 | ⟨x,e,p⟩::ks=>by
  rw [arm_keywordEach_cons]
  show x::(JE pos (yL ks env)).map (·.1)=x::ks.map (·.arg)
  rw [zQ ks]
theorem wT{α:Type}:∀{l:List (Option Str × α)} {v:List Str},l.map (·.1)=v.map some->l.filterMap (·.1)=v/\l.all (·.1.isSome)=true/\l.any (·.1.isNone)=false
 | [],[],_=>⟨rfl,rfl,rfl⟩
 | [],_::_,h=>by cases h
 | _::_,[],h=>by cases h
 | (x,a)::l,y::v,h=>by
  simp only [aK,dG]at h
  obtain⟨rfl,h⟩:=h
  obtain⟨h1,h2,h3⟩:=wT h
  refine⟨by simp [h1],by simp only [MI,h2];rfl,by simp only [qB,h3];rfl⟩
theorem Fh(B:dC w H0.heap)(hsp:dA H0 w n sp){g:Str}{np pos:dS}{es:List Expr}{ks:List cQ}{vs:List PV}{kvs:List (Str × PV)}(hg:gl cx g=true)(hgv:ff g=some (.ref 872))(hns:∀x∈e::es,eL x=true)(h1:qr H0 w n cx (e::es) σ R vs R1)
  (h2:Jh H0 w n cx ks σ R1 kvs R2)(hc:sp 796 (.obj R2.length::vs) kvs (R2++[.inst 872 []])=some (.none,R3)):dP H0 w n cx (.Call (.Name g np) (e::es) ks pos) σ R (.obj R2.length) R3:=by
 intro A E I ρ env s hR G O
 refine fe (dw (cH B G O hg hgv ?_) (dm O (O.glo g hg)))
 have hm:=Dg w.params
 simp only [bd,beq_iff_eq]at hm
 obtain⟨hn1,hn2,hn3⟩:=wT (l:=JE pos (yL ks env)) (v:=kvs.map (·.1)) (by rw [zQ,h2.1,aG];rfl)
 refine callWith_KW (K:=KK pw w.params) (h₀:=s.heap) (G.baseAt B).k hm.2 hn2 ?_ (by rw [rq hns,hn3];rfl) (gg (hns e (.head _)))
 refine h1.then hR G O λI1 ρ1 us s1 x1 hus O1 G1=>?_
 refine ar (h2.2 A E I1 ρ1 env pos s1 hR G1 O1) (λuk s2 q=>?_) λζ ζ e=>e
 obtain⟨I2,ρ2,x2,huk⟩:=q
 refine⟨(x2.good.baseAt B).k,?_⟩
 rw [hn1,ew]
 have hlen:uk.length=(kvs.map (·.1)).length:=by rw [huk.length,ae,ae]
 refine fc (gv (Nb (E:=E) B hsp hR x2.good (hus.le x2) (kvs:=(kvs.map (·.1)).zip uk) ⟨?_,?_⟩ hc) λr s' z=>?_)
 ·rw [List.map_fst_zip (by rw [hlen];exact aF _)]
 ·rw [Jn (by rw [hlen];exact aF _)]
  exact huk
 ·rcases r with e | fl
  ·exact z
  ·cases fl with
   | ret v=>exact fP.mono_ G (x1.trans G x2) z
   | _=>exact z
theorem Fi(B:dC w H0.heap){n0:Nat}(hn0:n0+2<=n)(hsp:dA H0 w n0 sp){g:Str}{np pos:dS}{a:PV}(hg:gl cx g=true)(hgv:ff g=some (.ref 737))(hns:eL e=true)(h1:dP H0 w n cx e σ R a R1)
  (hc:sp 507 [.obj R1.length,a] [] (R1++[.inst 737 []])=some (.none,R2)):dP H0 w n cx (.Call (.Name g np) [e] [] pos) σ R (.obj R1.length) R2:=by
 intro A E I ρ env s hR G O
 refine fe (dw (cH B G O hg hgv ?_) (dm O (O.glo g hg)))
 have hm:=rb w.params
 simp only [bd,beq_iff_eq]at hm
 have hns':∀x∈[e],eL x=true:=λx hx=>by rw [aC]at hx;subst hx;exact hns
 refine callWith_K (K:=KK pw w.params) (h₀:=s.heap) (G.baseAt B).k hm.2 ?_ (gg hns) rfl
 rw [jA hns']
 refine fG (ar (h1.then hR G O λI1 ρ1 u s1 x1 hu O1 G1=>?_) (λζ ζ h₁=>hO h₁) λζ ζ e=>e)
 refine⟨(G1.baseAt B).k,fc (gv (EH (E:=E) B hsp (hR.le (by exact Wd hn0)) G1 hu hc) λr s' z=>?_)⟩
 rcases r with e | fl
 ·exact z
 ·cases fl with
  | ret v=>exact fP.mono_ G x1 z
  | _=>exact z
theorem sC(a b c:LS):(!decide (b<a))=true->(!decide (c<b))=true->(!decide (c<a))=true:=by
 simp only [cG,decide_eq_false_iff_not,mr]
 exact λh1 h2=>MG h1 h2
theorem zN(a b:LS):((!decide (b<a))||(!decide (a<b)))=true:=by
 simp only [fT,cG,decide_eq_false_iff_not,mr]
 exact MH a b
theorem BI(a b:LS)(h1:(!decide (b<a))=true)(h2:(!decide (a<b))=true):a=b:=by
 simp only [cG,decide_eq_false_iff_not,mr]at h1 h2
 exact Jo h1 h2
theorem xI:∀(l:List Str),sortedS l=true->(l.map ls).Pairwise λa b=>(!decide (b<a))=true:=by
 intro l
 induction l with
 | nil=>
  intro _
  exact List.Pairwise.nil
 | cons x r ih=>
  intro h
  have key:∀(r:List Str) (x:Str),risingS x r=true->((x::r).map ls).Pairwise λa b=>(!decide (b<a))=true:=by
   intro r
   induction r with
   | nil=>intro x _;exact List.pairwise_singleton _ _
   | cons y r ih=>
    intro x h
    simp only [risingS,bd]at h
    have hy:=ih y h.2
    rw [ltCps_eq]at h
    rw [aK]
    refine lH.mpr ⟨λz hz=>?_,hy⟩
    rw [aK]at hz hy
    rcases ay.mp hz with rfl | hz
    ·exact h.1
    ·exact sC _ _ _ h.1 ((lH.mp hy).1 z hz)
  exact key r x h
theorem zr{l l':List LS}(hp:l.Perm l')(hs:l.Pairwise λa b=>(!decide (b<a))=true):l=ga l':=
 tY (λa b ζ ζ=>BI a b) hs (jl sC zN l') (hp.trans (gw _ _).symm)
theorem Bg:∀{lt:List (Str × vR)},StrsAre (bc lt) (lt.map (·.1)):=by
 intro lt
 induction lt with
 | nil=>
  exact .nil
 | cons xq r ih=>
  obtain⟨x,t⟩:=xq
  exact .cons x t ih
theorem zy{vs:List af}{ss:List Str}(h:StrsAre vs ss):(∀x∈ss,(ls x).length<=SZ/\jb (ls x)=true)->a0 I ρ ((ss.map ls).map .str) vs:=by
 induction h with
 | nil=>exact λζ=>a0.nil
 | cons x t h ih=>
  intro hs
  obtain⟨h1,h2⟩:=hs x (.head _)
  exact a0.cons (wk x▸oU h1 h2) (ih λy hy=>hs y (.tail _ hy))
theorem uA{D:aB}{l:List PV}{xs:List af}{k:Nat}(G:Gd H0 I ρ R s.heap)(hn:s.heap.get? D=none)(hd:s'.heap.get? D=some (cD (bk xs) k))(hk:∀b o,s.heap.get? b=some o->s'.heap.get? b=some o)
  (os:s'.os=s.os)(gens:s'.gens=s.gens)(hr:a0 I ρ l xs)(hl:l.length<=SZ):fP H0 I ρ s (.list l) R (.ref D) s':=by
 have st:=a9.fact (X:=eg) G hn hd hk os gens
 refine⟨_,_,st,?_⟩
 exact⟨hl,D,xs,k,rfl,if_pos rfl,hr.le st⟩
theorem Ec(G:Gd H0 I ρ R s.heap){l:List PV}{ss:List LS}{u:af}(hu:cn I ρ (.list l) u)(hss:fg l=some ss)(h64:ss.length<64) :
  aq (aw pw w) A (call (.builtin "sorted") [u]) (fP H0 I ρ s (.list ((ga ss).map .str)) R) E s:=by
 obtain⟨hl,a,xs,k,rfl,hI,hr⟩:=hu
 obtain⟨lt,rfl,k2,k3⟩:=xF hr hss
 have hat:=G.imm _ _ hI
 have hlen:(bc lt).length=ss.length:=by
  have:=congrArg bY k2
  rw [ae,ae]at this
  rw [<-this]
  unfold bc
  rw [ae]
 refine sorted_strs ⟨_,hat,rfl,k,rfl⟩ Bg (by rw [hlen];exact h64) λout ss' h1 h2 h3=>?_
 obtain⟨e,he⟩:=sortedAll_at s.heap (bc lt) out
 have hperm:(ss'.map ls).Perm ss:=by
  have:=h2.map ls
  rw [k2,aG]at this
  have e2:ls∘S=id:=funext λx=>PK x
  rwa [e2,ms]at this
 have hsort:=zr hperm (xI _ h3)
 have hlen':(ga ss).length=ss.length:=(gw _ _).length_eq
 rw [<-hsort]
 have hn:s.heap.get? (s.heap.objs.size+1)=none:=by
  cases e:s.heap.get? (s.heap.objs.size+1)with
  | none=>rfl
  | some o=>exact absurd (c7 e) (dF.mpr (di _))
 refine uA (s':={ s with heap:=sortedAll s.heap (bc lt) out }) (D:=s.heap.objs.size+1) (xs:=out.toList) (k:=e) G hn (by show(sortedAll s.heap (bc lt) out).get? _=_;rw [he,Array.toArray_toList]) (λb o e=>sortedAll_old e) rfl rfl (zy h1 λx hx=>k3 _ (hperm.mem_iff.mp (dE hx))) ?_
 rw [ae,hsort,hlen']
 exact bg (bR h64 (by decide))
noncomputable def s8{α:Type} [LT α] [DecidableEq α] [DecidableLT α](a b:List α):Bool:=decide (a<b)
noncomputable def tK{α:Type} [LT α] [DecidableEq α] [DecidableLT α](a b:List α):Bool:=decide (b<a)
noncomputable abbrev xE(m n:Nat):Bool:=decide (m<n)
noncomputable abbrev zn(m n:Nat):Bool:=decide (m>n)
theorem Kw{bs:List (Str × vR)}{i:Nat}(h:i<=bs.length):xE i bs.length=s8 [] ((bs.map λx=>ls x.1).drop i):=by
 rcases eY i bs.length with q | q
 ·rw [bZ (by simpa using q)]
  simp [s8,xE,q]
 ·rw [List.drop_of_length_le (by simpa using q)]
  have:¬i<bs.length:=by exact Wc q
  simp [s8,xE,this]
theorem KQ{bs:List (Str × vR)}{i:Nat}(h:i<=bs.length):zn i bs.length=tK [] ((bs.map λx=>ls x.1).drop i):=by
 have:¬i>bs.length:=by exact Wb h
 simp [tK,zn,this]
theorem EO{a:LS}{r:List LS}{i j:Nat}(h:j<i):xE i j=s8 (a::r) []:=by
 have:¬i<j:=by exact Wa h
 simp [s8,xE,this]
theorem E6{a:LS}{r:List LS}{i j:Nat}(h:j<i):zn i j=tK (a::r) []:=by
 simp [tK,zn,h]
theorem EL(l b:aB)(lt lt2:List (Str × vR))(n n2:Nat)(k:Nat) :
  ∀i:Nat,lt.length-i=k->i<=lt.length->i<=lt2.length->A2 (Builtin.«list.__eq__.loop» ⟨[.ref l,.ref b,gD i,gD 0],[]⟩)
   (λA R s=>s.heap.get? l=some (cD (bc lt).toArray n)/\s.heap.get? b=some (cD (bc lt2).toArray n2)/\R (.ok (.ret (.bool (s8 ((lt.map λx=>ls x.1).drop i) ((lt2.map λx=>ls x.1).drop i))))) s):=by
 have len1:(bc lt).toArray.size=lt.length:=by simp [bc]
 have len2:(bc lt2).toArray.size=lt2.length:=by simp [bc]
 induction k with
 | zero=>
  intro i hk h1 h2 prog w A R s h
  obtain⟨hp,g,d,tk,os⟩:=s;obtain⟨hl,hb,h⟩:=h
  have hil:i=lt.length:=by exact Vo hk h1
  subst hil
  wp_walk using aE hl,aE hb
  have hi1:(bc lt).toArray[((lt.length:Nat):Int).toNat]? = none:=by simp [bc]
  have hd:(lt.map λx=>ls x.1).drop lt.length=[]:=by simp
  rw [hd]at h
  rw [hi1]
  wp_walk using aE hl,aE hb
  show R (.ok (.ret (.bool (xE (bc lt).toArray.size (bc lt2).toArray.size)))) _
  rw [len1,len2]
  have:(xE lt.length lt2.length)=s8 [] ((lt2.map λx=>ls x.1).drop lt.length):=by
   exact Kw (by simpa using h2)
  rw [this]
  exact h
 | succ k ih=>
  intro i hk h1 h2 prog w A R s h
  obtain⟨hp,g,d,tk,os⟩:=s;obtain⟨hl,hb,h⟩:=h
  have hlt:i<lt.length:=by exact Q2 hk
  have hi1:(bc lt).toArray[((i:Nat):Int).toNat]? = some (.str lt[i].1 lt[i].2):=by simp [bc,hlt]
  have hd:(lt.map λx=>ls x.1).drop i=ls lt[i].1::(lt.map λx=>ls x.1).drop (i+1):=by rw [bZ (by simpa using hlt)];simp
  have hc:((i:Int)+1)=((i+1:Nat):Int):=by push_cast;rfl
  rw [hd]at h
  rcases eY i lt2.length with hlt2 | hge
  ·have hi2:(bc lt2).toArray[((i:Nat):Int).toNat]? = some (.str lt2[i].1 lt2[i].2):=by simp [bc,hlt2]
   have hd2:(lt2.map λx=>ls x.1).drop i=ls lt2[i].1::(lt2.map λx=>ls x.1).drop (i+1):=by rw [bZ (by simpa using hlt2)];simp
   rw [hd2]at h
   wp_walk using aE hl,aE hb
   rw [hi1,hi2]
   refine aa (eqBool_str ?_)
   cases hb':lt[i].1==lt2[i].1 with
   | true=>
    wp_walk
    rw [hc]
    have he:ls lt[i].1=ls lt2[i].1:=by rw [aJ hb']
    have:s8 (ls lt[i].1::(lt.map λx=>ls x.1).drop (i+1)) (ls lt2[i].1::(lt2.map λx=>ls x.1).drop (i+1))=s8 ((lt.map λx=>ls x.1).drop (i+1)) ((lt2.map λx=>ls x.1).drop (i+1)):=by
     rw [he]
     simp [s8,tK,dL,wq]
    rw [this]at h
    exact⟨bT cX _,bB iU (by
     rw [bh cX _]
     exact ih (i+1) (by exact Vn hk) hlt hlt2 prog w A R _ ⟨hl,hb,h⟩)⟩
   | false=>
    have hne:ls lt[i].1≠ls lt2[i].1:=λq=>by
     have:lt[i].1=lt2[i].1:=by rw [<-wk lt[i].1,<-wk lt2[i].1,q]
     rw [this]at hb'
     simp at hb'
    have:s8 (ls lt[i].1::(lt.map λx=>ls x.1).drop (i+1)) (ls lt2[i].1::(lt2.map λx=>ls x.1).drop (i+1))=s8 (ls lt[i].1) (ls lt2[i].1):=by
     have hne':=dg hne
     simp [s8,tK,dL,hne,hne']
    rw [this]at h
    wp_walk using aE hl,aE hb
    rw [hi1,hi2]
    refine aa (P.lt_str (x:=lt[i].1) (y:=lt2[i].1) ?_)
    wp_walk
    exact h
  ·have hil:i=lt2.length:=by exact OM h2 hge
   subst hil
   have hi2:(bc lt2).toArray[((lt2.length:Nat):Int).toNat]? = none:=by simp [bc]
   have hd2:(lt2.map λx=>ls x.1).drop lt2.length=[]:=by simp
   rw [hd2]at h
   wp_walk using aE hl,aE hb
   rw [hi1,hi2]
   wp_walk using aE hl,aE hb
   show R (.ok (.ret (.bool (xE (bc lt).toArray.size (bc lt2).toArray.size)))) _
   rw [len1,len2]
   have:(xE lt.length lt2.length)=s8 (ls lt[lt2.length].1::(lt.map λx=>ls x.1).drop (lt2.length+1)) []:=by
    exact EO (by exact Vm hlt)
   rw [this]
   exact h
theorem zM(l b:aB)(lt lt2:List (Str × vR))(n n2:Nat):A2 (Builtin.«list.__lt__» ⟨[.ref l,.ref b],[]⟩)
   (λA R s=>s.heap.get? l=some (cD (bc lt).toArray n)/\s.heap.get? b=some (cD (bc lt2).toArray n2)/\R (.ok (.ret (.bool (s8 (lt.map λx=>ls x.1) (lt2.map λx=>ls x.1))))) s):=by
 intro prog w A R s h
 obtain⟨hp,g,d,tk,os⟩:=s;obtain⟨hl,hb,h⟩:=h
 have f3:=wv
 wp_walk using aE hl,aE hb
 exact⟨bT cX _,bB iU (by
  rw [bh cX _]
  exact EL l b lt lt2 n n2 _ 0 rfl (bp _) (bp _) prog w A R _ ⟨hl,hb,by simpa using h⟩)⟩
theorem Ku{l b:aB}{lt lt2:List (Str × vR)}{n n2:Nat}{Q:af->ag->Prop}(hl:s.heap.get? l=some (cD (bc lt).toArray n))(hb:s.heap.get? b=some (cD (bc lt2).toArray n2))(hu:A.units<cLine)
  (h:Q (.bool (s8 (lt.map λx=>ls x.1) (lt2.map λx=>ls x.1))) s):aq (aw pw w) A (lA .Lt (.ref l) (.ref b)) Q E s:=
 F2 (op:=.Lt) ⟨_,hl,rfl⟩ ⟨_,hb,rfl⟩ F.slot_list_lt F.entry_list_lt (F.args_list_lt_2 _ _) (zM l b lt lt2 n n2)
  ⟨hl,hb,show dT _≠AX/\Q (.bool _) s from⟨(λx=>nomatch x),h⟩⟩ hu
theorem E5(l b:aB)(lt lt2:List (Str × vR))(n n2:Nat)(k:Nat) :
  ∀i:Nat,lt.length-i=k->i<=lt.length->i<=lt2.length->A2 (Builtin.«list.__eq__.loop» ⟨[.ref l,.ref b,gD i,gD 4],[]⟩)
   (λA R s=>s.heap.get? l=some (cD (bc lt).toArray n)/\s.heap.get? b=some (cD (bc lt2).toArray n2)/\R (.ok (.ret (.bool (tK ((lt.map λx=>ls x.1).drop i) ((lt2.map λx=>ls x.1).drop i))))) s):=by
 have len1:(bc lt).toArray.size=lt.length:=by simp [bc]
 have len2:(bc lt2).toArray.size=lt2.length:=by simp [bc]
 induction k with
 | zero=>
  intro i hk h1 h2 prog w A R s h
  obtain⟨hp,g,d,tk,os⟩:=s;obtain⟨hl,hb,h⟩:=h
  have hil:i=lt.length:=by exact Vo hk h1
  subst hil
  wp_walk using aE hl,aE hb
  have hi1:(bc lt).toArray[((lt.length:Nat):Int).toNat]? = none:=by simp [bc]
  have hd:(lt.map λx=>ls x.1).drop lt.length=[]:=by simp
  rw [hd]at h
  rw [hi1]
  wp_walk using aE hl,aE hb
  show R (.ok (.ret (.bool (zn (bc lt).toArray.size (bc lt2).toArray.size)))) _
  rw [len1,len2]
  have:(zn lt.length lt2.length)=tK [] ((lt2.map λx=>ls x.1).drop lt.length):=by
   exact KQ (by simpa using h2)
  rw [this]
  exact h
 | succ k ih=>
  intro i hk h1 h2 prog w A R s h
  obtain⟨hp,g,d,tk,os⟩:=s;obtain⟨hl,hb,h⟩:=h
  have hlt:i<lt.length:=by exact Q2 hk
  have hi1:(bc lt).toArray[((i:Nat):Int).toNat]? = some (.str lt[i].1 lt[i].2):=by simp [bc,hlt]
  have hd:(lt.map λx=>ls x.1).drop i=ls lt[i].1::(lt.map λx=>ls x.1).drop (i+1):=by rw [bZ (by simpa using hlt)];simp
  have hc:((i:Int)+1)=((i+1:Nat):Int):=by push_cast;rfl
  rw [hd]at h
  rcases eY i lt2.length with hlt2 | hge
  ·have hi2:(bc lt2).toArray[((i:Nat):Int).toNat]? = some (.str lt2[i].1 lt2[i].2):=by simp [bc,hlt2]
   have hd2:(lt2.map λx=>ls x.1).drop i=ls lt2[i].1::(lt2.map λx=>ls x.1).drop (i+1):=by rw [bZ (by simpa using hlt2)];simp
   rw [hd2]at h
   wp_walk using aE hl,aE hb
   rw [hi1,hi2]
   refine aa (eqBool_str ?_)
   cases hb':lt[i].1==lt2[i].1 with
   | true=>
    wp_walk
    rw [hc]
    have he:ls lt[i].1=ls lt2[i].1:=by rw [aJ hb']
    have:tK (ls lt[i].1::(lt.map λx=>ls x.1).drop (i+1)) (ls lt2[i].1::(lt2.map λx=>ls x.1).drop (i+1))=tK ((lt.map λx=>ls x.1).drop (i+1)) ((lt2.map λx=>ls x.1).drop (i+1)):=by
     rw [he]
     simp [s8,tK,dL,wq]
    rw [this]at h
    exact⟨bT cX _,bB iU (by
     rw [bh cX _]
     exact ih (i+1) (by exact Vn hk) hlt hlt2 prog w A R _ ⟨hl,hb,h⟩)⟩
   | false=>
    have hne:ls lt[i].1≠ls lt2[i].1:=λq=>by
     have:lt[i].1=lt2[i].1:=by rw [<-wk lt[i].1,<-wk lt2[i].1,q]
     rw [this]at hb'
     simp at hb'
    have:tK (ls lt[i].1::(lt.map λx=>ls x.1).drop (i+1)) (ls lt2[i].1::(lt2.map λx=>ls x.1).drop (i+1))=tK (ls lt[i].1) (ls lt2[i].1):=by
     have hne':=dg hne
     simp [s8,tK,dL,hne,hne']
    rw [this]at h
    wp_walk using aE hl,aE hb
    rw [hi1,hi2]
    refine aa (P.gt_str (x:=lt[i].1) (y:=lt2[i].1) ?_)
    wp_walk
    exact h
  ·have hil:i=lt2.length:=by exact OM h2 hge
   subst hil
   have hi2:(bc lt2).toArray[((lt2.length:Nat):Int).toNat]? = none:=by simp [bc]
   have hd2:(lt2.map λx=>ls x.1).drop lt2.length=[]:=by simp
   rw [hd2]at h
   wp_walk using aE hl,aE hb
   rw [hi1,hi2]
   wp_walk using aE hl,aE hb
   show R (.ok (.ret (.bool (zn (bc lt).toArray.size (bc lt2).toArray.size)))) _
   rw [len1,len2]
   have:(zn lt.length lt2.length)=tK (ls lt[lt2.length].1::(lt.map λx=>ls x.1).drop (lt2.length+1)) []:=by
    exact E6 (by exact Vm hlt)
   rw [this]
   exact h
theorem HQ(l b:aB)(lt lt2:List (Str × vR))(n n2:Nat):A2 (Builtin.«list.__gt__» ⟨[.ref l,.ref b],[]⟩)
   (λA R s=>s.heap.get? l=some (cD (bc lt).toArray n)/\s.heap.get? b=some (cD (bc lt2).toArray n2)/\R (.ok (.ret (.bool (tK (lt.map λx=>ls x.1) (lt2.map λx=>ls x.1))))) s):=by
 intro prog w A R s h
 obtain⟨hp,g,d,tk,os⟩:=s;obtain⟨hl,hb,h⟩:=h
 have f3:=wv
 wp_walk using aE hl,aE hb
 exact⟨bT cX _,bB iU (by
  rw [bh cX _]
  exact E5 l b lt lt2 n n2 _ 0 rfl (bp _) (bp _) prog w A R _ ⟨hl,hb,by simpa using h⟩)⟩
theorem KP{l b:aB}{lt lt2:List (Str × vR)}{n n2:Nat}{Q:af->ag->Prop}(hl:s.heap.get? l=some (cD (bc lt).toArray n))(hb:s.heap.get? b=some (cD (bc lt2).toArray n2))(hu:A.units<cLine)
  (h:Q (.bool (tK (lt.map λx=>ls x.1) (lt2.map λx=>ls x.1))) s):aq (aw pw w) A (lA .Gt (.ref l) (.ref b)) Q E s:=
 F2 (op:=.Gt) ⟨_,hl,rfl⟩ ⟨_,hb,rfl⟩ F.slot_list_gt F.entry_list_gt (F.args_list_gt_2 _ _) (HQ l b lt lt2 n n2)
  ⟨hl,hb,show dT _≠AX/\Q (.bool _) s from⟨(λx=>nomatch x),h⟩⟩ hu
noncomputable def wO(s:List LS):PV:=.list (s.map .str)
theorem zq:∀{l:List PV} {ss:List LS},fg l=some ss->l=ss.map .str:=by
 intro l
 induction l with
 | nil=>
  intro ss e
  have:ss=[]:=by simpa [fg] using e.symm
  subst this
  rfl
 | cons p l ih=>
  intro ss e
  unfold fg at e
  rw [gB]at e
  cases hp:pS p with
  | none=>rw [hp]at e;cases e
  | some x=>
   cases hq:l.mapM pS with
   | none=>rw [hp,hq]at e;cases e
   | some qs=>
    rw [hp,hq]at e
    have e:x::qs=ss:=aW e
    subst e
    have hpx:p = .str x:=by
     cases p<;>simp [pS]at hp
     rw [hp]
    rw [aK,hpx,ih (ss:=qs) hq]
theorem wA:∀{l:List PV} {ss:List (List LS)},gf l=some ss->l=ss.map wO:=by
 intro l
 induction l with
 | nil=>
  intro ss e
  have:ss=[]:=by simpa [gf] using e.symm
  subst this
  rfl
 | cons p l ih=>
  intro ss e
  unfold gf at e
  rw [gB]at e
  cases p with
  | list x=>
   cases hp:fg x with
   | none=>simp only [hp]at e;cases e
   | some y=>
    simp only [hp]at e
    cases hq:gf l with
    | none=>
     unfold gf at hq
     rw [hq]at e;cases e
    | some qs=>
     have hq':=hq
     unfold gf at hq'
     rw [hq']at e
     have e:y::qs=ss:=aW e
     subst e
     rw [aK,ih hq]
     show _=PV.list (y.map .str)::_
     rw [<-zq hp]
  | _=>cases e
theorem gI:∀ss:List LS,fg (ss.map .str)=some ss:=by
 intro ss
 induction ss with
 | nil=>
  exact rfl
 | cons x r ih=>
  have:=ih
  unfold fg at this ⊢
  rw [aK,gB,this]
  rfl
theorem ql(G:Gd H0 I ρ R s.heap){a:List LS}{u:af}(h:cn I ρ (wO a) u):∃p lt n,u = .ref p/\s.heap.get? p=some (cD (bc lt).toArray n)/\(lt.map λx=>ls x.1)=a:=by
 unfold wO at h
 obtain⟨_,p,xs,k,rfl,hI,hr⟩:=h
 obtain⟨lt,rfl,k2,_⟩:=xF hr (gI a)
 refine⟨p,lt,k,rfl,G.imm _ _ hI,?_⟩
 have:=congrArg (LL ls) k2
 rw [aG,aG]at this
 have e2:ls∘S=id:=funext λx=>PK x
 rw [e2,ms]at this
 exact this
theorem cE.uc{k:Nat}(h:cE H0 A k):A.units<cLine:=by
 have:=h.2.2.1
 show A.units<9900
 exact V9 this
theorem Qn(hR:cE H0 A m)(G:Gd H0 I ρ R s.heap){a b:List LS}{x y:af}(ha:cn I ρ (wO a) x)(hb:cn I ρ (wO b) y){Q:af->ag->Prop}(h:Q (.bool (s8 a b)) s):aq (aw pw w) A (lA .Lt x y) Q E s:=by
 obtain⟨p,lt,n,rfl,h1,rfl⟩:=ql G ha
 obtain⟨q,lt2,n2,rfl,h2,rfl⟩:=ql G hb
 exact Ku h1 h2 hR.uc h
theorem Hj{J ax S:aB}{xs:List af}{k:Nat}(hR:cE H0 A (m+1))(hJS:J≠S)(hax:I ax=some (cD xs.toArray k)){RR:fS->ag->Prop}:∀(rest:List (List LS)) (i:Nat) (best:List LS) (vb:af) (s:ag) (c:Nat),Gd H0 I ρ R s.heap->s.heap.IsListIter J ax i->a0 I ρ (rest.map wO) (xs.drop i)->cn I ρ (wO best) vb ->
  s.heap.get? S=some (cD #[vb,vb] c)->¬fK I ρ J->¬fK I ρ S ->
  (∀v s',cn I ρ (wO (rest.foldl (λb y=>if s8 y b then y else b) best)) v->aR H0 eg (λa=>a=J\/a=S) I ρ s I ρ R s'->RR (.ok (.ret v)) s') ->
  cA (aw pw w) A (.builtin "min.loop" ⟨[.ref J,.none,.ref S],[]⟩) RR s:=by
 have hname:(jD "min"++jD ".loop":String)="min.loop":=by decide
 intro rest
 induction rest with
 | nil=>
  intro i best vb s c G hit hr hb hS hoJ hoS hRR
  have hJs:J ∉ H0.stk:=by
   obtain⟨o,q1,_,q2⟩:=hit
   exact G.notStk q1 (bK q2)
  have hSs:S ∉ H0.stk:=G.notStk hS (bM rfl)
  refine bB vU ?_
  rw [bh gK _]
  show aq _ A.in1 (jf (.ref S)>>=_) _ _ s
  refine aa (cZ hS rfl ?_)
  show aq _ A.in1 (iq (fQ (.ref J)) _>>=_) _ _ s
  refine aa (cI (kM hR.1 hit ⟨_,G.imm _ _ hax,rfl,k,rfl⟩ hr.none_ λh' he=>?_))
  have hS':=he S _ (dg hJS) hS
  show aq _ A.in1 (jZ S (λζ => #[])>>=_) _ _ _
  refine aa ?_
  refine cu hS' rfl (aa (dR (ab ?_)))
  refine hRR vb _ hb (aR.quiet G (λa ha=>ha.elim (λe=>e▸hoJ) λe=>e▸hoS) (λa o ha e=>?_) rfl rfl λa ha=>ha.elim (λe=>e▸hJs) λe=>e▸hSs)
  exact(aD _ _ (λq=>ha (am q.symm))).trans (he a o (λq=>ha (av q)) e)
 | cons y rest ih=>
  intro i best vb s c G hit hr hb hS hoJ hoS hRR
  have hJs:J ∉ H0.stk:=by
   obtain⟨o,q1,_,q2⟩:=hit
   exact G.notStk q1 (bK q2)
  have hSs:S ∉ H0.stk:=G.notStk hS (bM rfl)
  obtain⟨v,h6,h7,h8⟩:=hr.get rfl
  refine bB vU ?_
  rw [bh gK _]
  show aq _ A.in1 (jf (.ref S)>>=_) _ _ s
  refine aa (cZ hS rfl ?_)
  show aq _ A.in1 (iq (fQ (.ref J)) _>>=_) _ _ s
  refine aa (cI (eC hit ⟨_,G.imm _ _ hax,rfl,k,rfl⟩ (x:=v) (by rw [bV];exact h6) λh' hit' hs'=>?_))
  have hS':h'.get? S=some (cD #[vb,vb] c):=(hs'.2 S (dg hJS)).trans hS
  have z:aR H0 eg (λa=>a=J\/a=S) I ρ s I ρ R { s with heap:=h' }:=aR.quiet G (λa ha=>ha.elim (λe=>e▸hoJ) λe=>e▸hoS) (λa o ha e=>(hs'.2 a (λq=>ha (av q))).trans e) rfl rfl λa ha=>ha.elim (λe=>e▸hJs) λe=>e▸hSs
  have G1:=z.good
  show aq _ A.in1 (iq (km [v,v] (lA .Lt v vb>>=_)) _>>=_) _ _ _
  refine aa (cI (aY (aa (Qn hR.in1 G1 h7 hb ?_))))
  refine aa (aY (gu ?_))
  refine aa (dR (ab ?_))
  rw [kN]at hRR
  cases hbt:s8 y best with
  | true=>
   have hbt':s8 y best=true:=hbt
   simp only [hbt',if_true]at hRR
   simp only [if_true]
   refine aa ?_
   refine cu hS' rfl (aa (dR ?_))
   rw [hname]
   have z2:aR H0 eg (λa=>a=J\/a=S) I ρ { s with heap:=h' } I ρ R { s with heap:=h'.update S (bC λζ => #[v,v]) }:=aR.quiet G1 (λa ha=>ha.elim (λe=>e▸hoJ) λe=>e▸hoS) (λa o ha e=>(aD _ _ (λq=>ha (am q.symm))).trans e) rfl rfl λa ha=>ha.elim (λe=>e▸hJs) λe=>e▸hSs
   obtain⟨o,q1,q2⟩:=hit'
   refine ab ⟨bT gK _,ih (i+1) y v _ _ z2.good ⟨o,(aD _ _ hJS.symm).trans q1,q2⟩ h8 h7 (cz _ hS' rfl) hoJ hoS λv' s' hv' x=>?_⟩
   exact hRR v' s' hv' (aR.trans G z (aR.trans G1 z2 x))
  | false=>
   have hbt':s8 y best=false:=hbt
   simp only [hbt',a8,if_false]at hRR
   simp only [a8,if_false]
   refine aa (dR ?_)
   rw [hname]
   refine ab ⟨bT gK _,ih (i+1) best vb _ c G1 hit' h8 hb hS' hoJ hoS λv' s' hv' x=>?_⟩
   exact hRR v' s' hv' (aR.trans G z x)
theorem Nh(hR:cE H0 A (m+2))(G:Gd H0 I ρ R s.heap){l:List PV}{ss:List (List LS)}{b:List LS}{u:af}(hu:cn I ρ (.list l) u)(hss:gf l=some ss)(hb:iJ (λa b=>s8 a b) ss=some b) :
  aq (aw pw w) A (call (.builtin "min") [u]) (fP H0 I ρ s (wO b) R) E s:=by
 have hl:=wA hss
 subst hl
 obtain⟨hlen,ax,xs,k,rfl,hax,hr⟩:=hu
 have hname:(jD "min"++jD ".loop":String)="min.loop":=by decide
 refine MC F.kind_min F.plain_min F.entry_min (F.args_min1 _) ?_
 show aq _ A.in1 (dD "min" ["key","default"] 0 ⟨[],[]⟩>>=_) _ _ s
 refine aa (cF (show dD "min" ["key","default"] 0 ⟨[],[]⟩=b8 [none,none]from rfl) ?_)
 refine aa (ab ?_)
 have hal:=G.imm _ _ hax
 refine aa (kj ⟨_,hal,rfl,k,rfl⟩ ?_)
 refine aa (ce ?_)
 have hJn:s.heap.get? s.heap.objs.size=none:=ct _
 generalize hJ:s.heap.objs.size=J at hJn ⊢
 generalize hh1:s.heap.push _=h1
 have k1:∀a o,s.heap.get? a=some o->h1.get? a=some o:=λa o e=>by rw [<-hh1];exact au _ e
 have hSn:h1.get? h1.objs.size=none:=ct _
 have eJ:h1.IsListIter J ax 0:=⟨_,by rw [<-hh1,<-hJ];exact aU _ rfl,rfl,rfl⟩
 have hJS:J≠h1.objs.size:=λq=>by
  obtain⟨o,q1,_⟩:=eJ
  rw [q,hSn]at q1
  cases q1
 generalize hS:h1.objs.size=S at hSn hJS ⊢
 generalize hh2:h1.push _=h2
 have k2:∀a o,h1.get? a=some o->h2.get? a=some o:=λa o e=>by rw [<-hh2];exact au _ e
 have eS:h2.get? S=some (cD #[] 0):=by rw [<-hh2,<-hS];exact aU _ rfl
 have st:a9 H0 eg I ρ s I ρ R { s with heap:=h2 }:=a9.quiet G m6 (λa o ζ e=>k2 a o (k1 a o e)) (λa ha=>ha.elim) rfl rfl
 have G2:=st.good
 have hoJ:=bA G hJn
 have hSn0:s.heap.get? S=none:=by
  cases e:s.heap.get? S with
  | none=>rfl
  | some o=>rw [k1 S o e]at hSn;cases hSn
 have hoS:=bA G hSn0
 have eJ2:h2.IsListIter J ax 0:=by
  obtain⟨o,q1,q2⟩:=eJ
  exact⟨o,k2 _ _ q1,q2⟩
 have hJs:J ∉ H0.stk:=G.freshStk hJn
 have hSs:S ∉ H0.stk:=G.freshStk hSn0
 cases ss with
 | nil=>cases hb
 | cons y rest=>
  have hb:rest.foldl (λb y=>if s8 y b then y else b) y=b:=aW hb
  have hr0:a0 I ρ ((y::rest).map wO) (xs.drop 0):=by simpa using hr
  obtain⟨v,h6,h7,h8⟩:=hr0.get rfl
  rw [hname]
  refine ab ⟨bT gK _,?_⟩
  refine bB vU ?_
  rw [bh gK _]
  show aq _ A.in1 (jf (.ref S)>>=_) _ _ _
  refine aa (cZ eS rfl ?_)
  show aq _ A.in1 (iq (fQ (.ref J)) _>>=_) _ _ _
  refine aa (cI (eC (s:={ s with heap:=h2 }) eJ2 ⟨_,G2.imm _ _ hax,rfl,k,rfl⟩ (x:=v) (by rw [bV];exact h6) λh3 hit' hs'=>?_))
  have hS':h3.get? S=some (cD #[] 0):=(hs'.2 S (dg hJS)).trans eS
  show aq _ A.in1 (jZ S (λζ => #[v,v])>>=_) _ _ _
  refine aa ?_
  refine cu hS' rfl ?_
  rw [hname]
  have z:aR H0 eg (λa=>a=J\/a=S) I ρ { s with heap:=h2 } I ρ R { s with heap:=h3.update S (bC λζ => #[v,v]) }:=aR.quiet G2 (λa ha=>ha.elim (λe=>e▸hoJ) λe=>e▸hoS) (λa o ha e=>(aD _ _ (λq=>ha (am q.symm))).trans ((hs'.2 a (λq=>ha (av q))).trans e)) rfl rfl λa ha=>ha.elim (λe=>e▸hJs) λe=>e▸hSs
  obtain⟨o,q1,q2⟩:=hit'
  refine ab ⟨bT gK _,Hj (m:=m) (hR.le (by exact Vl)) hJS hax rest 1 y v _ _ z.good ⟨o,(aD _ _ hJS.symm).trans q1,q2⟩ h8 h7 (cz _ hS' rfl) hoJ hoS λv' s' hv' x=>?_⟩
  refine⟨I,ρ,aR.close G st (aR.trans G2 z x) (λa ha=>ha.elim (λe=>e▸hJn) λe=>e▸hSn0),?_⟩
  rw [<-hb]
  exact hv'
theorem Qo(hR:cE H0 A m)(G:Gd H0 I ρ R s.heap){a b:List LS}{x y:af}(ha:cn I ρ (wO a) x)(hb:cn I ρ (wO b) y){Q:af->ag->Prop}(h:Q (.bool (tK a b)) s):aq (aw pw w) A (lA .Gt x y) Q E s:=by
 obtain⟨p,lt,n,rfl,h1,rfl⟩:=ql G ha
 obtain⟨q,lt2,n2,rfl,h2,rfl⟩:=ql G hb
 exact KP h1 h2 hR.uc h
theorem Hl{J ax S:aB}{xs:List af}{k:Nat}(hR:cE H0 A (m+1))(hJS:J≠S)(hax:I ax=some (cD xs.toArray k)){RR:fS->ag->Prop}:∀(rest:List (List LS)) (i:Nat) (best:List LS) (vb:af) (s:ag) (c:Nat),Gd H0 I ρ R s.heap->s.heap.IsListIter J ax i->a0 I ρ (rest.map wO) (xs.drop i)->cn I ρ (wO best) vb ->
  s.heap.get? S=some (cD #[vb,vb] c)->¬fK I ρ J->¬fK I ρ S ->
  (∀v s',cn I ρ (wO (rest.foldl (λb y=>if tK y b then y else b) best)) v->aR H0 eg (λa=>a=J\/a=S) I ρ s I ρ R s'->RR (.ok (.ret v)) s') ->
  cA (aw pw w) A (.builtin "max.loop" ⟨[.ref J,.none,.ref S],[]⟩) RR s:=by
 have hname:(jD "max"++jD ".loop":String)="max.loop":=by decide
 intro rest
 induction rest with
 | nil=>
  intro i best vb s c G hit hr hb hS hoJ hoS hRR
  have hJs:J ∉ H0.stk:=by
   obtain⟨o,q1,_,q2⟩:=hit
   exact G.notStk q1 (bK q2)
  have hSs:S ∉ H0.stk:=G.notStk hS (bM rfl)
  refine bB i9 ?_
  rw [bh cr _]
  show aq _ A.in1 (jf (.ref S)>>=_) _ _ s
  refine aa (cZ hS rfl ?_)
  show aq _ A.in1 (iq (fQ (.ref J)) _>>=_) _ _ s
  refine aa (cI (kM hR.1 hit ⟨_,G.imm _ _ hax,rfl,k,rfl⟩ hr.none_ λh' he=>?_))
  have hS':=he S _ (dg hJS) hS
  show aq _ A.in1 (jZ S (λζ => #[])>>=_) _ _ _
  refine aa ?_
  refine cu hS' rfl (aa (dR (ab ?_)))
  refine hRR vb _ hb (aR.quiet G (λa ha=>ha.elim (λe=>e▸hoJ) λe=>e▸hoS) (λa o ha e=>?_) rfl rfl λa ha=>ha.elim (λe=>e▸hJs) λe=>e▸hSs)
  exact(aD _ _ (λq=>ha (am q.symm))).trans (he a o (λq=>ha (av q)) e)
 | cons y rest ih=>
  intro i best vb s c G hit hr hb hS hoJ hoS hRR
  have hJs:J ∉ H0.stk:=by
   obtain⟨o,q1,_,q2⟩:=hit
   exact G.notStk q1 (bK q2)
  have hSs:S ∉ H0.stk:=G.notStk hS (bM rfl)
  obtain⟨v,h6,h7,h8⟩:=hr.get rfl
  refine bB i9 ?_
  rw [bh cr _]
  show aq _ A.in1 (jf (.ref S)>>=_) _ _ s
  refine aa (cZ hS rfl ?_)
  show aq _ A.in1 (iq (fQ (.ref J)) _>>=_) _ _ s
  refine aa (cI (eC hit ⟨_,G.imm _ _ hax,rfl,k,rfl⟩ (x:=v) (by rw [bV];exact h6) λh' hit' hs'=>?_))
  have hS':h'.get? S=some (cD #[vb,vb] c):=(hs'.2 S (dg hJS)).trans hS
  have z:aR H0 eg (λa=>a=J\/a=S) I ρ s I ρ R { s with heap:=h' }:=aR.quiet G (λa ha=>ha.elim (λe=>e▸hoJ) λe=>e▸hoS) (λa o ha e=>(hs'.2 a (λq=>ha (av q))).trans e) rfl rfl λa ha=>ha.elim (λe=>e▸hJs) λe=>e▸hSs
  have G1:=z.good
  show aq _ A.in1 (iq (km [v,v] (lA .Gt v vb>>=_)) _>>=_) _ _ _
  refine aa (cI (aY (aa (Qo hR.in1 G1 h7 hb ?_))))
  refine aa (aY (gu ?_))
  refine aa (dR (ab ?_))
  rw [kN]at hRR
  cases hbt:tK y best with
  | true=>
   have hbt':tK y best=true:=hbt
   simp only [hbt',if_true]at hRR
   simp only [if_true]
   refine aa ?_
   refine cu hS' rfl (aa (dR ?_))
   rw [hname]
   have z2:aR H0 eg (λa=>a=J\/a=S) I ρ { s with heap:=h' } I ρ R { s with heap:=h'.update S (bC λζ => #[v,v]) }:=aR.quiet G1 (λa ha=>ha.elim (λe=>e▸hoJ) λe=>e▸hoS) (λa o ha e=>(aD _ _ (λq=>ha (am q.symm))).trans e) rfl rfl λa ha=>ha.elim (λe=>e▸hJs) λe=>e▸hSs
   obtain⟨o,q1,q2⟩:=hit'
   refine ab ⟨bT cr _,ih (i+1) y v _ _ z2.good ⟨o,(aD _ _ hJS.symm).trans q1,q2⟩ h8 h7 (cz _ hS' rfl) hoJ hoS λv' s' hv' x=>?_⟩
   exact hRR v' s' hv' (aR.trans G z (aR.trans G1 z2 x))
  | false=>
   have hbt':tK y best=false:=hbt
   simp only [hbt',a8,if_false]at hRR
   simp only [a8,if_false]
   refine aa (dR ?_)
   rw [hname]
   refine ab ⟨bT cr _,ih (i+1) best vb _ c G1 hit' h8 hb hS' hoJ hoS λv' s' hv' x=>?_⟩
   exact hRR v' s' hv' (aR.trans G z x)
theorem Ni(hR:cE H0 A (m+2))(G:Gd H0 I ρ R s.heap){l:List PV}{ss:List (List LS)}{b:List LS}{u:af}(hu:cn I ρ (.list l) u)(hss:gf l=some ss)(hb:iJ (λa b=>tK a b) ss=some b) :
  aq (aw pw w) A (call (.builtin "max") [u]) (fP H0 I ρ s (wO b) R) E s:=by
 have hl:=wA hss
 subst hl
 obtain⟨hlen,ax,xs,k,rfl,hax,hr⟩:=hu
 have hname:(jD "max"++jD ".loop":String)="max.loop":=by decide
 refine MC F.kind_max F.plain_max F.entry_max (F.args_max1 _) ?_
 show aq _ A.in1 (dD "max" ["key","default"] 0 ⟨[],[]⟩>>=_) _ _ s
 refine aa (cF (show dD "max" ["key","default"] 0 ⟨[],[]⟩=b8 [none,none]from rfl) ?_)
 refine aa (ab ?_)
 have hal:=G.imm _ _ hax
 refine aa (kj ⟨_,hal,rfl,k,rfl⟩ ?_)
 refine aa (ce ?_)
 have hJn:s.heap.get? s.heap.objs.size=none:=ct _
 generalize hJ:s.heap.objs.size=J at hJn ⊢
 generalize hh1:s.heap.push _=h1
 have k1:∀a o,s.heap.get? a=some o->h1.get? a=some o:=λa o e=>by rw [<-hh1];exact au _ e
 have hSn:h1.get? h1.objs.size=none:=ct _
 have eJ:h1.IsListIter J ax 0:=⟨_,by rw [<-hh1,<-hJ];exact aU _ rfl,rfl,rfl⟩
 have hJS:J≠h1.objs.size:=λq=>by
  obtain⟨o,q1,_⟩:=eJ
  rw [q,hSn]at q1
  cases q1
 generalize hS:h1.objs.size=S at hSn hJS ⊢
 generalize hh2:h1.push _=h2
 have k2:∀a o,h1.get? a=some o->h2.get? a=some o:=λa o e=>by rw [<-hh2];exact au _ e
 have eS:h2.get? S=some (cD #[] 0):=by rw [<-hh2,<-hS];exact aU _ rfl
 have st:a9 H0 eg I ρ s I ρ R { s with heap:=h2 }:=a9.quiet G m6 (λa o ζ e=>k2 a o (k1 a o e)) (λa ha=>ha.elim) rfl rfl
 have G2:=st.good
 have hoJ:=bA G hJn
 have hSn0:s.heap.get? S=none:=by
  cases e:s.heap.get? S with
  | none=>rfl
  | some o=>rw [k1 S o e]at hSn;cases hSn
 have hoS:=bA G hSn0
 have eJ2:h2.IsListIter J ax 0:=by
  obtain⟨o,q1,q2⟩:=eJ
  exact⟨o,k2 _ _ q1,q2⟩
 have hJs:J ∉ H0.stk:=G.freshStk hJn
 have hSs:S ∉ H0.stk:=G.freshStk hSn0
 cases ss with
 | nil=>cases hb
 | cons y rest=>
  have hb:rest.foldl (λb y=>if tK y b then y else b) y=b:=aW hb
  have hr0:a0 I ρ ((y::rest).map wO) (xs.drop 0):=by simpa using hr
  obtain⟨v,h6,h7,h8⟩:=hr0.get rfl
  rw [hname]
  refine ab ⟨bT cr _,?_⟩
  refine bB i9 ?_
  rw [bh cr _]
  show aq _ A.in1 (jf (.ref S)>>=_) _ _ _
  refine aa (cZ eS rfl ?_)
  show aq _ A.in1 (iq (fQ (.ref J)) _>>=_) _ _ _
  refine aa (cI (eC (s:={ s with heap:=h2 }) eJ2 ⟨_,G2.imm _ _ hax,rfl,k,rfl⟩ (x:=v) (by rw [bV];exact h6) λh3 hit' hs'=>?_))
  have hS':h3.get? S=some (cD #[] 0):=(hs'.2 S (dg hJS)).trans eS
  show aq _ A.in1 (jZ S (λζ => #[v,v])>>=_) _ _ _
  refine aa ?_
  refine cu hS' rfl ?_
  rw [hname]
  have z:aR H0 eg (λa=>a=J\/a=S) I ρ { s with heap:=h2 } I ρ R { s with heap:=h3.update S (bC λζ => #[v,v]) }:=aR.quiet G2 (λa ha=>ha.elim (λe=>e▸hoJ) λe=>e▸hoS) (λa o ha e=>(aD _ _ (λq=>ha (am q.symm))).trans ((hs'.2 a (λq=>ha (av q))).trans e)) rfl rfl λa ha=>ha.elim (λe=>e▸hJs) λe=>e▸hSs
  obtain⟨o,q1,q2⟩:=hit'
  refine ab ⟨bT cr _,Hl (m:=m) (hR.le (by exact Vl)) hJS hax rest 1 y v _ _ z.good ⟨o,(aD _ _ hJS.symm).trans q1,q2⟩ h8 h7 (cz _ hS' rfl) hoJ hoS λv' s' hv' x=>?_⟩
  refine⟨I,ρ,aR.close G st (aR.trans G2 z x) (λa ha=>ha.elim (λe=>e▸hJn) λe=>e▸hSn0),?_⟩
  rw [<-hb]
  exact hv'
theorem fK.later(x:aR H0 X Z I ρ s I' ρ' R' s'){a:aB}(h:¬fK I ρ a)(e:s.heap.get? a≠none)(hz:¬Z a):¬fK I' ρ' a:=λq=>(x.new a q).elim h λq=>q.elim e hz
theorem Kq{J ax S:aB}{xs:List af}{k:Nat}(hR:cE H0 A (m+2))(hJS:J≠S){RR:fS->ag->Prop}:∀(rest:List (Nat × PV)) (i:Nat) (bn:Nat) (bx:PV) (vb:af) (t:vR) (I:dB) (ρ:dI) (s:ag) (c:Nat),Gd H0 I ρ R s.heap->s.heap.IsListIter J ax i->I ax=some (cD xs.toArray k)->(∀p∈rest,q8 R p.2=some p.1)->a0 I ρ (rest.map (·.2)) (xs.drop i)->cn I ρ bx vb ->
  s.heap.get? S=some (cD #[vb,.int bn t] c)->¬fK I ρ J->¬fK I ρ S ->
  (∀v I' ρ' s',cn I' ρ' (rest.foldl (λb y=>if decide (b.1<y.1)then y else b) (bn,bx)).2 v->aR H0 eg (λa=>a=J\/a=S) I ρ s I' ρ' R s'->RR (.ok (.ret v)) s') ->
  cA (aw pw w) A (.builtin "max.loop" ⟨[.ref J,.builtin "len",.ref S],[]⟩) RR s:=by
 have hname:(jD "max"++jD ".loop":String)="max.loop":=by decide
 intro rest
 induction rest with
 | nil=>
  intro i bn bx vb t I ρ s c G hit hax hlen hr hb hS hoJ hoS hRR
  have hJs:J ∉ H0.stk:=by
   obtain⟨o,q1,_,q2⟩:=hit
   exact G.notStk q1 (bK q2)
  have hSs:S ∉ H0.stk:=G.notStk hS (bM rfl)
  refine bB i9 ?_
  rw [bh cr _]
  show aq _ A.in1 (jf (.ref S)>>=_) _ _ s
  refine aa (cZ hS rfl ?_)
  show aq _ A.in1 (iq (fQ (.ref J)) _>>=_) _ _ s
  refine aa (cI (kM hR.1 hit ⟨_,G.imm _ _ hax,rfl,k,rfl⟩ hr.none_ λh' he=>?_))
  have hS':=he S _ (dg hJS) hS
  show aq _ A.in1 (jZ S (λζ => #[])>>=_) _ _ _
  refine aa ?_
  refine cu hS' rfl (aa (dR (ab ?_)))
  refine hRR vb _ _ _ hb (aR.quiet G (λa ha=>ha.elim (λe=>e▸hoJ) λe=>e▸hoS) (λa o ha e=>?_) rfl rfl λa ha=>ha.elim (λe=>e▸hJs) λe=>e▸hSs)
  exact(aD _ _ (λq=>ha (am q.symm))).trans (he a o (λq=>ha (av q)) e)
 | cons y rest ih=>
  intro i bn bx vb t I ρ s c G hit hax hlen hr hb hS hoJ hoS hRR
  obtain⟨yn,yx⟩:=y
  have hJs:J ∉ H0.stk:=by
   obtain⟨o,q1,_,q2⟩:=hit
   exact G.notStk q1 (bK q2)
  have hSs:S ∉ H0.stk:=G.notStk hS (bM rfl)
  obtain⟨v,h6,h7,h8⟩:=hr.get rfl
  refine bB i9 ?_
  rw [bh cr _]
  show aq _ A.in1 (jf (.ref S)>>=_) _ _ s
  refine aa (cZ hS rfl ?_)
  show aq _ A.in1 (iq (fQ (.ref J)) _>>=_) _ _ s
  refine aa (cI (eC hit ⟨_,G.imm _ _ hax,rfl,k,rfl⟩ (x:=v) (by rw [bV];exact h6) λh' hit' hs'=>?_))
  have hS':h'.get? S=some (cD #[vb,.int bn t] c):=(hs'.2 S (dg hJS)).trans hS
  have z:aR H0 eg (λa=>a=J\/a=S) I ρ s I ρ R { s with heap:=h' }:=aR.quiet G (λa ha=>ha.elim (λe=>e▸hoJ) λe=>e▸hoS) (λa o ha e=>(hs'.2 a (λq=>ha (av q))).trans e) rfl rfl λa ha=>ha.elim (λe=>e▸hJs) λe=>e▸hSs
  have G1:=z.good
  show aq _ A.in1 (iq (km [v] (call (.builtin "len") [v])) _>>=_) _ _ _
  refine aa (cI (aY (ar (BK G1 h7 (hlen _ (.head _))) (λu s2 q=>?_) λζ ζ e=>e)))
  obtain⟨I2,ρ2,x2,hu⟩:=q
  obtain⟨t2,rfl⟩:=hu
  have hS2:=x2.kept hS' (bM rfl) (λq=>hoS (am q)) id
  have hit2:s2.heap.IsListIter J ax (i+1):=by
   obtain⟨o,q1,q2,q3⟩:=hit'
   exact⟨o,x2.kept q1 (bK q3) (λq=>hoJ (am q)) id,q2,q3⟩
  have hoJ2:¬fK I2 ρ2 J:=fK.later (x2.z (Z:=eg)) hoJ (by obtain⟨o,q1,_⟩:=hit';rw [q1];exact λh=>nomatch h) id
  have hoS2:¬fK I2 ρ2 S:=fK.later (x2.z (Z:=eg)) hoS (by rw [hS'];exact λh=>nomatch h) id
  have G2:=x2.good
  have z2:aR H0 eg (λa=>a=J\/a=S) I ρ s I2 ρ2 R s2:=aR.trans G z x2.z
  have h72:=h7.le x2
  have h82:=h8.le x2
  have hb2:=hb.le x2
  have hax2:=x2.le _ _ hax
  show aq _ A.in1 (iq (km [v,.int yn t2] (lA .Gt (.int yn t2) (.int bn t)>>=_)) _>>=_) _ _ _
  refine aa (cI (aY (aa (P.gt_int (a:=yn) (b:=bn) ?_))))
  refine aa (aY (gu ?_))
  refine aa (dR (ab ?_))
  rw [kN]at hRR
  cases hbt:decide ((yn:Int)>bn)with
  | true=>
   have hlt:bn<yn:=by have:=of_decide_eq_true hbt;exact V8 this
   simp only [hlt,decide_true,if_true]at hRR
   simp only [if_true]
   refine aa ?_
   refine cu hS2 rfl (aa (dR ?_))
   rw [hname]
   have z3:aR H0 eg (λa=>a=J\/a=S) I2 ρ2 s2 I2 ρ2 R { s2 with heap:=s2.heap.update S (bC λζ => #[v,.int yn t2]) }:=aR.quiet G2 (λa ha=>ha.elim (λe=>e▸hoJ2) λe=>e▸hoS2) (λa o ha e=>(aD _ _ (λq=>ha (am q.symm))).trans e) rfl rfl λa ha=>ha.elim (λe=>e▸hJs) λe=>e▸hSs
   obtain⟨o,q1,q2⟩:=hit2
   refine ab ⟨bT cr _,ih (i+1) yn yx v t2 I2 ρ2 _ _ z3.good ⟨o,(aD _ _ hJS.symm).trans q1,q2⟩ hax2 (λp hp=>hlen p (.tail _ hp)) h82 h72 (cz _ hS2 rfl) hoJ2 hoS2 λv' I' ρ' s' hv' x=>?_⟩
   exact hRR v' I' ρ' s' hv' (aR.trans G z2 (aR.trans G2 z3 x))
  | false=>
   have hlt:¬bn<yn:=by have:=of_decide_eq_false hbt;exact V7 this
   simp only [hlt,decide_false,a8,if_false]at hRR
   simp only [a8,if_false]
   refine aa (dR ?_)
   rw [hname]
   refine ab ⟨bT cr _,ih (i+1) bn bx vb t I2 ρ2 _ c G2 hit2 hax2 (λp hp=>hlen p (.tail _ hp)) h82 hb2 hS2 hoJ2 hoS2 λv' I' ρ' s' hv' x=>?_⟩
   exact hRR v' I' ρ' s' hv' (aR.trans G z2 x)
theorem ER{R:List aN}:∀{l:List PV} {r:List (Nat × PV)},(l.mapM λv=>(q8 R v).map λn=>(n,v))=some r->r.map (·.2)=l /\ ∀p∈r,q8 R p.2=some p.1:=by
 intro l
 induction l with
 | nil=>
  intro r h
  have:r=[]:=by simpa using h.symm
  subst this
  exact⟨rfl,λp hp=>nomatch hp⟩
 | cons x l ih=>
  intro r h
  rw [gB]at h
  cases hx:q8 R x with
  | none=>rw [hx]at h;cases h
  | some a=>
   cases hq:(l.mapM λv=>(q8 R v).map λn=>(n,v))with
   | none=>rw [hx,hq]at h;cases h
   | some qs=>
    rw [hx,hq]at h
    have h:(a,x)::qs=r:=aW h
    subst h
    obtain⟨h1,h2⟩:=ih hq
    refine⟨by rw [aK,h1],λp hp=>?_⟩
    rcases ay.mp hp with rfl | hp
    ·exact hx
    ·exact h2 p hp
theorem EK(hR:cE H0 A (m+2))(G:Gd H0 I ρ R s.heap){l:List PV}{b:PV}{u:af}(hu:cn I ρ (.list l) u)(hb:maxLen R l=some b) :
  aq (aw pw w) A (call (.builtin "max") [u] [(("key":Str),.builtin "len")]) (fP H0 I ρ s b R) E s:=by
 unfold maxLen at hb
 cases hm:(l.mapM λv=>(q8 R v).map λn=>(n,v))with
 | none=>rw [hm]at hb;cases hb
 | some ps=>
 rw [hm]at hb
 obtain⟨hl,hlen⟩:=ER hm
 subst hl
 obtain⟨_,ax,xs,k,rfl,hax,hr⟩:=hu
 have hname:(jD "max"++jD ".loop":String)="max.loop":=by decide
 refine kmb_tree PySem.F.kind_max PySem.F.plain_max PySem.F.entry_max (kmb_max_key _ _) ?_
 show aq _ A.in1 (dD "max" ["key","default"] 0 ⟨[],[(em "key",.builtin "len")]⟩>>=_) _ _ s
 refine aa (cF (show dD "max" ["key","default"] 0 ⟨[],[(em "key",.builtin "len")]⟩=b8 [some (.builtin "len"),none]from rfl) ?_)
 refine aa (ab ?_)
 have hal:=G.imm _ _ hax
 refine aa (kj ⟨_,hal,rfl,k,rfl⟩ ?_)
 refine aa (ce ?_)
 have hJn:s.heap.get? s.heap.objs.size=none:=ct _
 generalize hJ:s.heap.objs.size=J at hJn ⊢
 generalize hh1:s.heap.push _=h1
 have k1:∀a o,s.heap.get? a=some o->h1.get? a=some o:=λa o e=>by rw [<-hh1];exact au _ e
 have hSn:h1.get? h1.objs.size=none:=ct _
 have eJ:h1.IsListIter J ax 0:=⟨_,by rw [<-hh1,<-hJ];exact aU _ rfl,rfl,rfl⟩
 have hJS:J≠h1.objs.size:=λq=>by
  obtain⟨o,q1,_⟩:=eJ
  rw [q,hSn]at q1
  cases q1
 generalize hS:h1.objs.size=S at hSn hJS ⊢
 generalize hh2:h1.push _=h2
 have k2:∀a o,h1.get? a=some o->h2.get? a=some o:=λa o e=>by rw [<-hh2];exact au _ e
 have eS:h2.get? S=some (cD #[] 0):=by rw [<-hh2,<-hS];exact aU _ rfl
 have st:a9 H0 eg I ρ s I ρ R { s with heap:=h2 }:=a9.quiet G m6 (λa o ζ e=>k2 a o (k1 a o e)) (λa ha=>ha.elim) rfl rfl
 have G2:=st.good
 have hoJ:=bA G hJn
 have hSn0:s.heap.get? S=none:=by
  cases e:s.heap.get? S with
  | none=>rfl
  | some o=>rw [k1 S o e]at hSn;cases hSn
 have hoS:=bA G hSn0
 have eJ2:h2.IsListIter J ax 0:=by
  obtain⟨o,q1,q2⟩:=eJ
  exact⟨o,k2 _ _ q1,q2⟩
 have hJs:J ∉ H0.stk:=G.freshStk hJn
 have hSs:S ∉ H0.stk:=G.freshStk hSn0
 cases ps with
 | nil=>cases hb
 | cons y rest=>
  obtain⟨yn,yx⟩:=y
  have hb:(rest.foldl (λb y=>if decide (b.1<y.1)then y else b) (yn,yx)).2=b:=aW hb
  have hr0:a0 I ρ (((yn,yx)::rest).map (·.2)) (xs.drop 0):=by simpa using hr
  obtain⟨v,h6,h7,h8⟩:=hr0.get rfl
  rw [hname]
  refine ab ⟨bT cr _,?_⟩
  refine bB i9 ?_
  rw [bh cr _]
  show aq _ A.in1 (jf (.ref S)>>=_) _ _ _
  refine aa (cZ eS rfl ?_)
  show aq _ A.in1 (iq (fQ (.ref J)) _>>=_) _ _ _
  refine aa (cI (eC (s:={ s with heap:=h2 }) eJ2 ⟨_,G2.imm _ _ hax,rfl,k,rfl⟩ (x:=v) (by rw [bV];exact h6) λh3 hit' hs'=>?_))
  have hS':h3.get? S=some (cD #[] 0):=(hs'.2 S (dg hJS)).trans eS
  have z:aR H0 eg (λa=>a=J\/a=S) I ρ { s with heap:=h2 } I ρ R { s with heap:=h3 }:=aR.quiet G2 (λa ha=>ha.elim (λe=>e▸hoJ) λe=>e▸hoS) (λa o ha e=>(hs'.2 a (λq=>ha (av q))).trans e) rfl rfl λa ha=>ha.elim (λe=>e▸hJs) λe=>e▸hSs
  have G3:=z.good
  show aq _ A.in1 (iq (km [v] (call (.builtin "len") [v])) _>>=_) _ _ _
  refine aa (cI (aY (ar (BK G3 h7 (hlen _ (.head _))) (λu s4 q=>?_) λζ ζ e=>e)))
  obtain⟨I4,ρ4,x4,hu⟩:=q
  obtain⟨t4,rfl⟩:=hu
  have hS4:=x4.kept hS' (bM rfl) (λq=>hoS (am q)) id
  have hit4:s4.heap.IsListIter J ax (0+1):=by
   obtain⟨o,q1,q2,q3⟩:=hit'
   exact⟨o,x4.kept q1 (bK q3) (λq=>hoJ (am q)) id,q2,q3⟩
  have hoJ4:¬fK I4 ρ4 J:=fK.later (x4.z (Z:=eg)) hoJ (by obtain⟨o,q1,_⟩:=hit';rw [q1];exact λh=>nomatch h) id
  have hoS4:¬fK I4 ρ4 S:=fK.later (x4.z (Z:=eg)) hoS (by rw [hS'];exact λh=>nomatch h) id
  have G4:=x4.good
  show aq _ A.in1 (jZ S (λζ => #[v,.int yn t4])>>=_) _ _ _
  refine aa ?_
  refine cu hS4 rfl ?_
  rw [hname]
  have z5:aR H0 eg (λa=>a=J\/a=S) I4 ρ4 s4 I4 ρ4 R { s4 with heap:=s4.heap.update S (bC λζ => #[v,.int yn t4]) }:=aR.quiet G4 (λa ha=>ha.elim (λe=>e▸hoJ4) λe=>e▸hoS4) (λa o ha e=>(aD _ _ (λq=>ha (am q.symm))).trans e) rfl rfl λa ha=>ha.elim (λe=>e▸hJs) λe=>e▸hSs
  obtain⟨o,q1,q2⟩:=hit4
  refine ab ⟨bT cr _,Kq (m:=m) hR hJS rest 1 yn yx v t4 I4 ρ4 _ _ z5.good ⟨o,(aD _ _ hJS.symm).trans q1,q2⟩ (x4.le _ _ hax) (λp hp=>hlen p (.tail _ hp)) (h8.le x4) (h7.le x4) (cz _ hS4 rfl) hoJ4 hoS4 λv' I' ρ' s' hv' x=>?_⟩
  refine⟨I',ρ',aR.close G st (aR.trans G2 z (aR.trans G3 x4.z (aR.trans G4 z5 x))) (λa ha=>ha.elim (λe=>e▸hJn) λe=>e▸hSn0),?_⟩
  rw [<-hb]
  exact hv'
theorem pg(B:dC w H0.heap)(hn:2<=n){g kx:Str}{np kp kp2 pos:dS}{l:List PV}(hg:gl cx g=true)(hgv:ff g=some (.builtin "max"))(hk:gl cx kx=true)(hkv:ff kx=some (.builtin "len"))(h1:dP H0 w n cx e σ R (.list l) R1)(hns:eL e=true)
  (hv:maxLen R1 l=some v):dP H0 w n cx (.Call (.Name g np) [e] [⟨some "key",.Name kx kp,kp2⟩] pos) σ R v R1:=by
 intro A E I ρ env s hR G O
 have e2:dP H0 w n cx (.Name kx kp) σ R1 (.val (.builtin "len")) R1:=tQ B hk hkv
 refine fe (dw (cH B G O hg hgv ?_) (dm O (O.glo g hg)))
 have hns':∀x∈[e],eL x=true:=λx hx=>by rw [aC]at hx;subst hx;exact hns
 refine callWith_kw ?_ (by rw [jA hns'];rfl) (rq hns') rfl rfl
 rw [jA hns']
 refine fG (ar (h1.then hR G O λI1 ρ1 u s1 x1 hu O1 G1=>?_) (λζ ζ h₁=>hO h₁) λζ ζ e=>e)
 refine Mx (e2.then hR G1 O1 λI2 ρ2 y s2 x2 hy O2 G2=>kwAll_nil ?_)
 cases hy
 exact ar (EK (m:=0) (hR.le (by exact V6 hn)) G2 (hu.le x2) hv) (λζ ζ q=>fP.mono_ G (x1.trans G x2) q) λζ ζ e=>e
section srt
variable {cmp:Nat->Nat->(Bool->ag->Prop)->ag->Prop} {r:Nat->Nat} {N:Nat}
noncomputable def PP(r:Nat->Nat)(p:Array Nat)(k:Nat):Nat:=r (p[k]?.getD 0)
theorem jV(p:Array Nat)(k:Nat):p.getD k 0=p[k]?.getD 0:=by simp [Array.getD_eq_getD_getElem?]
noncomputable def FG(r:Nat->Nat)(p:Array Nat)(n:Nat):Prop:=∀a b,a<=b->b<n->PP r p a<=PP r p b
noncomputable def AM(r:Nat->Nat)(p:Array Nat)(n:Nat):Prop:=∀a b,a<=b->b<n->PP r p b<=PP r p a
noncomputable def Pm(N:Nat)(p:Array Nat):Prop:=p.Perm (bk (cM N))
theorem Pm.size{p:Array Nat}(h:Pm N p):p.size=N:=by
 have:=Array.Perm.size_eq h
 simpa using this
theorem Pm.lt{p:Array Nat}(h:Pm N p)(hN:0<N)(k:Nat):p.getD k 0<N:=by
 rw [jV]
 cases e:p[k]? with
 | none=>exact hN
 | some x=>
  have hm:x∈p:=Array.mem_of_getElem? e
  have:=(yQ h).mp hm
  simpa using this
noncomputable def HC(cmp:Nat->Nat->(Bool->ag->Prop)->ag->Prop)(r:Nat->Nat)(N:Nat)(s:ag):Prop:=∀i j (C:Bool->ag->Prop),i<N->j<N->C (decide (r i<r j)) s->cmp i j C s
theorem IU(hc:HC cmp r N s)(hN:0<N){p:Array Nat}(hp:Pm N p){Q:Nat->ag->Prop}:∀(f n:Nat),1<=n->n+f<=N->FG r p n->(∀m,n<=m->m<=n+f->FG r p m->(m<n+f->PP r p m<PP r p (m-1))->Q m s)->(kas_asc p f n).kasWp cmp Q s:=by
 intro f
 induction f with
 | zero=>
  intro n _ _ h q
  exact q n (aF _) (aF _) h (λh=>absurd h (eZ _))
 | succ f ih=>
  intro n h1 hz h q
  show cmp _ _ _ s
  refine hc _ _ _ (hp.lt hN _) (hp.lt hN _) ?_
  rw [jV,jV]
  show((if decide (PP r p n<PP r p (n-1))=true then KasT.ret n else kas_asc p f (n+1)):KasT Nat).kasWp cmp Q s
  by_cases hlt:PP r p n<PP r p (n-1)
  ·rw [if_pos (decide_eq_true hlt)]
   exact q n (aF _) (by exact Q1) h λζ=>hlt
  ·rw [if_neg (by rw [decide_eq_false hlt];decide)]
   refine ih (n+1) (by exact OL) (by exact QJ hz) (λa b hab hb=>?_) λm h2 h3 h4 h5=>q m (by exact QI h2) (by exact QH h3) h4 λh=>h5 (by exact V5 h)
   rcases eY b n with hbn | hbn
   ·exact h a b hab hbn
   ·have:b=n:=by exact QG hb hbn
    subst this
    rcases eY a b with hab' | hab'
    ·exact ah (h a (b-1) (by exact Q0 hab') (by exact QZ hab')) (by exact QY hlt)
    ·have:a=b:=by exact OM hab hab'
     rw [this]
     exact aF _
set_option tactic.hygienic true in
theorem CD{p:Array Nat}{i j:Nat}(hj:j<=p.size)(k:Nat):PP r (vM p i j) k=if i<=k/\k<j then PP r p (i+j-1-k)else PP r p k:=by
 unfold PP vM
 rw [getElem?_mirror hj _ (by exact V4)]
 split
 ·rename_i h
  rw [if_pos (by exact V3 h)]
 ·rename_i h
  split
  ·rename_i h2
   have:i+j-1-k=k:=by exact V2 h h2
   rw [this]
  ·rfl
theorem Pm.rev{p:Array Nat}(h:Pm N p)(i j:Nat):Pm N (vM p i j):=(mirror_perm _ _ _ _).trans h
set_option tactic.hygienic true in
theorem sd{p:Array Nat}{i j:Nat}(hj:j<=p.size)(he:∀a,i<=a->a<j->PP r p a=PP r p (j-1))(k:Nat):PP r (vM p i j) k=PP r p k:=by
 rw [CD hj]
 split
 ·rename_i h
  rw [he (i+j-1-k) (by exact V1 h) (by exact V0 h),he k h.1 h.2]
 ·rfl
theorem AM.of_eq{p p':Array Nat}{n:Nat}(h:AM r p n)(he:∀k,PP r p' k=PP r p k):AM r p' n:=λa b h1 h2=>by rw [he,he];exact h a b h1 h2
theorem AM.rev{p:Array Nat}{n:Nat}(hz:n<=p.size)(h:AM r p n):FG r (vM p 0 n) n:=λa b h1 h2=>by
 rw [CD hz,CD hz,if_pos (by exact VZ h1 h2),if_pos (by exact VY h2)]
 exact h _ _ (by exact VX h1) (by exact VW h2)
theorem AM.snoc{p:Array Nat}{n:Nat}(h1:1<=n)(h:AM r p n)(hl:PP r p n<=PP r p (n-1)):AM r p (n+1):=λa b hab hb=>by
 rcases eY b n with hbn | hbn
 ·exact h a b hab hbn
 ·have:b=n:=by exact QG hb hbn
  subst this
  rcases eY a b with hab' | hab'
  ·exact ah hl (h a (b-1) (by exact Q0 hab') (by exact QZ hab'))
  ·have:a=b:=by exact OM hab hab'
   rw [this]
   exact aF _
theorem Lk(hc:HC cmp r N s)(hN:0<N){Q:Array Nat × Nat × Nat->ag->Prop}:∀(f:Nat) (p:Array Nat) (n q:Nat),Pm N p->1<=n->n+f<=N->q+1<=n->AM r p n->(∀a,n-(q+1)<=a->a<n->PP r p a=PP r p (n-1)) ->
  (∀p' n' q',Pm N p'->n<=n'->n'<=n+f->q'+1<=n'->AM r p' n'->(∀a,n'-(q'+1)<=a->a<n'->PP r p' a=PP r p' (n'-1))->Q (p',n',q') s)->(kas_desc f p n q).kasWp cmp Q s:=by
 intro f
 induction f with
 | zero=>
  intro p n q hp h1 hz hq h he k
  exact k p n q hp (aF _) (aF _) hq h he
 | succ f ih=>
  intro p n q hp h1 hz hq h he k
  show cmp _ _ _ s
  refine hc _ _ _ (hp.lt hN _) (hp.lt hN _) ?_
  rw [jV,jV]
  by_cases hlt:PP r p n<PP r p (n-1)
  ·have e:decide (r (p[n]?.getD 0)<r (p[n-1]?.getD 0))=true:=decide_eq_true hlt
   simp only [e,if_true]
   by_cases hq0:q>0
   ·rw [if_pos hq0]
    have hs:n<=p.size:=by rw [hp.size];exact VU hz
    have hee:=sd (r:=r) (i:=n-(q+1)) (j:=n) hs he
    refine ih _ (n+1) 0 (hp.rev _ _) (by exact OL) (by exact QJ hz) (by exact QX) ((AM.snoc h1 h (bg hlt)).of_eq hee) (λa h2 h3=>?_) λp' n' q' a1 a2 a3 a4 a5 a6=>k p' n' q' a1 (by exact QI a2) (by exact QH a3) a4 a5 a6
    have:a=n+1-1:=by exact QW h2 h3
    rw [this]
   ·rw [if_neg hq0]
    refine ih p (n+1) 0 hp (by exact OL) (by exact QJ hz) (by exact QX) (AM.snoc h1 h (bg hlt)) (λa h2 h3=>?_) λp' n' q' a1 a2 a3 a4 a5 a6=>k p' n' q' a1 (by exact QI a2) (by exact QH a3) a4 a5 a6
    have:a=n+1-1:=by exact QW h2 h3
    rw [this]
  ·have e:decide (r (p[n]?.getD 0)<r (p[n-1]?.getD 0))=false:=decide_eq_false hlt
   simp only [e,a8,if_false]
   show cmp _ _ _ s
   refine hc _ _ _ (jV p (n-1)▸hp.lt hN _) (jV p n▸hp.lt hN _) ?_
   by_cases hgt:PP r p (n-1)<PP r p n
   ·have e:decide (r (p[n-1]?.getD 0)<r (p[n]?.getD 0))=true:=decide_eq_true hgt
    simp only [e,if_true]
    exact k p n q hp (aF _) (by exact Q1) hq h he
   ·have e:decide (r (p[n-1]?.getD 0)<r (p[n]?.getD 0))=false:=decide_eq_false hgt
    simp only [e,a8,if_false]
    refine ih p (n+1) (q+1) hp (by exact OL) (by exact QJ hz) (by exact VT hq) (AM.snoc h1 h (by exact QY hgt)) (λa h2 h3=>?_) λp' n' q' a1 a2 a3 a4 a5 a6=>k p' n' q' a1 (by exact QI a2) (by exact QH a3) a4 a5 a6
    show _=PP r p n
    rcases eY a n with ha | ha
    ·rw [he a (by exact VR h2) ha];exact Vk hlt hgt
    ·have:a=n:=by exact QG h3 ha
     rw [this]
theorem zl(hc:HC cmp r N s)(hN:0<N){Q:Nat × Array Nat->ag->Prop}{p:Array Nat}{n:Nat}(hp:Pm N p)(h1:1<=n)(hz:n<=N)(h:AM r p n)(k:∀m p',Pm N p'->1<=m->m<=N->FG r p' m->Q (m,p') s):(FK n N p).kasWp cmp Q s:=by
 unfold FK
 rw [kO]
 have hs:n<=p.size:=by rw [hp.size];exact hz
 exact IU hc hN (hp.rev 0 n) _ n h1 (by exact QV hz) (h.rev hs) λm a1 a2 a3 ζ=>k m _ (hp.rev 0 n) (by exact VQ h1 a1) (by exact Vj hz a2) a3
theorem sH(hc:HC cmp r N s)(hN:0<N){Q:Nat × Array Nat->ag->Prop}{p:Array Nat}{n:Nat}(hp:Pm N p)(h1:1<=n)(hz:n+1<=N)(h:AM r p n)(hl:PP r p n<PP r p (n-1))(k:∀m p',Pm N p'->1<=m->m<=N->FG r p' m->Q (m,p') s):(vN n N p).kasWp cmp Q s:=by
 unfold vN
 rw [kO]
 refine Lk hc hN _ p (n+1) 0 hp (by exact OL) (by exact VO hz) (by exact QX) (AM.snoc h1 h (bg hl)) (λa h2 h3=>?_) λp' n' q' a1 a2 a3 a4 a5 a6=>?_
 ·have:a=n+1-1:=by exact QW h2 h3
  rw [this]
 ·show((if q'>0 then FK n' N (vM p' (n'-(q'+1)) n')else FK n' N p'):KasT (Nat × Array Nat)).kasWp cmp Q s
  have hs:n'<=p'.size:=by rw [a1.size];exact QU hz a3
  split
  ·exact zl hc hN (a1.rev _ _) (by exact Vi a4) (by exact QU hz a3) (a5.of_eq (sd hs a6)) k
  ·exact zl hc hN a1 (by exact Vi a4) (by exact QU hz a3) a5 k
theorem IB(hc:HC cmp r N s)(hN:0<N){Q:Nat × Array Nat->ag->Prop}{p:Array Nat}(hp:Pm N p)(k:∀m p',Pm N p'->1<=m->m<=N->FG r p' m->Q (m,p') s):(kas_count N p).kasWp cmp Q s:=by
 unfold kas_count
 rw [kO]
 refine IU hc hN hp _ 1 (aF _) (by exact VN hN) (λa b hab hb=>?_) λn a1 a2 a3 a4=>?_
 ·have:a=b:=by exact UM hab hb
  rw [this];exact aF _
 ·show((if(n==N)=true then .ret (n,p)else if n>1 then .ask (p.getD 0 0) (p.getD (n-1) 0) λc=>if c=true then .ret (n,p)else vN n N (vM p 0 n)else vN n N p):KasT (Nat × Array Nat)).kasWp cmp Q s
  by_cases hn:n=N
  ·rw [if_pos (by rw [hn];exact beq_self_eq_true _)]
   exact k n p hp a1 (by exact Na hn) a3
  ·rw [if_neg (by rw [beq_eq_false_iff_ne.mpr hn];decide)]
   have hst:=a4 (by exact UL hN a2 hn)
   by_cases h1:n>1
   ·rw [if_pos h1]
    show cmp _ _ _ s
    refine hc _ _ _ (hp.lt hN _) (hp.lt hN _) ?_
    rw [jV,jV]
    by_cases hlt:PP r p 0<PP r p (n-1)
    ·have e:decide (r (p[0]?.getD 0)<r (p[n-1]?.getD 0))=true:=decide_eq_true hlt
     simp only [e,if_true]
     exact k n p hp a1 (by exact Py a2 h1) a3
    ·have e:decide (r (p[0]?.getD 0)<r (p[n-1]?.getD 0))=false:=decide_eq_false hlt
     simp only [e,a8,if_false]
     have hall:∀a,0<=a->a<n->PP r p a=PP r p (n-1):=λa ζ ha=>by
      have b1:=a3 0 a (bp _) ha
      have b2:=a3 a (n-1) (by exact Q0 ha) (by exact QZ ha)
      exact UK hlt b1 b2
     have hs:n<=p.size:=by rw [hp.size];exact Py a2 h1
     have hee:=sd (r:=r) (i:=0) (j:=n) hs hall
     refine sH hc hN (hp.rev 0 n) a1 (by exact UJ a2 hn h1) (λa b hab hb=>?_) (by rw [hee,hee];exact hst) k
     rw [hee,hee,hall a (bp _) (by exact UI hab hb),hall b (bp _) hb]
     exact aF _
   ·rw [if_neg h1]
    refine sH hc hN hp a1 (by exact UH hN hn h1) (λa b hab hb=>?_) hst k
    have:a=b:=by exact UG h1 hab hb
    rw [this];exact aF _
theorem GY(hc:HC cmp r N s)(hN:0<N){Q:Nat->ag->Prop}{p:Array Nat}{k:Nat}(hp:Pm N p)(hs:FG r p k):∀(f l q:Nat),l<=q->q<=k->q-l<=f->(∀a,a<l->PP r p a<=PP r p k)->(∀a,q<=a->a<k->PP r p k<=PP r p a) ->
  (∀l,l<=k->(∀a,a<l->PP r p a<=PP r p k)->(∀a,l<=a->a<k->PP r p k<=PP r p a)->Q l s)->(FL p k f l q).kasWp cmp Q s:=by
 intro f
 induction f with
 | zero=>
  intro l q h1 h2 h3 hl hr kk
  have:l=q:=by exact UF h1 h3
  subst this
  exact kk l h2 hl hr
 | succ f ih=>
  intro l q h1 h2 h3 hl hr kk
  show((if l≥q then .ret l else .ask (p.getD k 0) (p.getD ((l+q) / 2) 0) λc=>if c=true then FL p k f l ((l+q) / 2)else FL p k f ((l+q) / 2+1) q):KasT Nat).kasWp cmp Q s
  by_cases hge:l≥q
  ·rw [if_pos hge]
   have:l=q:=by exact OM h1 hge
   subst this
   exact kk l h2 hl hr
  ·rw [if_neg hge]
   show cmp _ _ _ s
   refine hc _ _ _ (hp.lt hN _) (hp.lt hN _) ?_
   rw [jV,jV]
   by_cases hlt:PP r p k<PP r p ((l+q) / 2)
   ·have e:decide (r (p[k]?.getD 0)<r (p[(l+q) / 2]?.getD 0))=true:=decide_eq_true hlt
    simp only [e,if_true]
    exact ih l _ (by exact UE hge) (by exact UD h2 hge) (by exact UC h3) hl (λa ha hak=>ah (bg hlt) (hs _ _ ha hak)) kk
   ·have e:decide (r (p[k]?.getD 0)<r (p[(l+q) / 2]?.getD 0))=false:=decide_eq_false hlt
    simp only [e,a8,if_false]
    exact ih _ q (by exact UB hge) h2 (by exact UA h3) (λa ha=>ah (hs a ((l+q) / 2) (by exact Uz ha) (by exact Uy h2 hge)) (by exact QY hlt)) hr kk
theorem N6(hc:HC cmp r N s)(hN:0<N){Q:Array Nat->ag->Prop}:∀(f:Nat) (p:Array Nat) (k:Nat),Pm N p->f+k=N->FG r p k->(∀p',Pm N p'->FG r p' N->Q p' s)->(kas_bin f p k).kasWp cmp Q s:=by
 intro f
 induction f with
 | zero=>
  intro p k hp hk hs q
  have:k=N:=by exact Ux hk
  subst this
  exact q p hp hs
 | succ f ih=>
  intro p k hp hk hs q
  show((FL p k k 0 k).bind λl=>kas_bin f (MD p k (k-l)) (k+1)).kasWp cmp Q s
  rw [kO]
  refine GY hc hN hp hs k 0 k (bp _) (aF _) (by exact Uw) (λa ha=>absurd ha (ji _)) (λa h1 h2=>absurd h2 (by exact Px h1)) λl h1 h2 h3=>?_
  have hks:k<p.size:=by rw [hp.size];exact Uv hk
  have hb:∀x,PP r (MD p k (k-l)) x=if x=l then PP r p k else if l<x/\x<=k then PP r p (x-1)else PP r p x:=λx=>by
   unfold PP
   rw [getElem?_bubble hks _ (by exact Uu),show k-(k-l)=l from Ut h1]
   by_cases c:x=l
   ·rw [if_pos c,if_pos c]
   ·rw [if_neg c,if_neg c]
    by_cases d:l<x/\x<=k
    ·rw [if_pos d,if_pos d]
    ·rw [if_neg d,if_neg d]
  have lo:∀x,x<l->PP r (MD p k (k-l)) x=PP r p x:=λx hx=>by rw [hb,if_neg (dU hx),if_neg λd=>Nat.lt_asymm hx d.1]
  have at_:PP r (MD p k (k-l)) l=PP r p k:=by rw [hb,if_pos rfl]
  have hi:∀x,l<x->x<k+1->PP r (MD p k (k-l)) x=PP r p (x-1):=λx hx hk=>by rw [hb,if_neg (gR hx),if_pos ⟨hx,fq hk⟩]
  refine ih _ (k+1) ((bubble_perm _ _ _).trans hp) (by exact Pw hk) (λa b hab hb'=>?_) q
  rcases mI b l with g | g | g
  ·rw [lo a (bq hab g),lo b g];exact hs _ _ hab (dh g h1)
  ·rw [g,at_]
   rcases Nat.lt_or_eq_of_le (g▸hab)with g' | g'
   ·rw [lo a g'];exact h2 _ g'
   ·rw [g',at_];exact aF _
  ·have hb1:b-1<k:=dh (pW (gR (Nat.zero_lt_of_lt g))) (fq hb')
   rw [hi b g hb']
   rcases mI a l with g' | g' | g'
   ·rw [lo a g'];exact hs _ _ (ah (bg g') (qa g)) hb1
   ·rw [g',at_];exact h3 _ (qa g) hb1
   ·rw [hi a g' (bq hab hb')];exact hs _ _ (pX hab 1) hb1
set_option tactic.hygienic true in
theorem J0(hc:HC cmp r N s)(hN:0<N){Q:Array Nat->ag->Prop}(q:∀p,Pm N p->FG r p N->Q p s):(kas_sort N).kasWp cmp Q s:=by
 unfold kas_sort
 rw [kO]
 refine IB hc hN (Array.Perm.refl _) λm p h1 h2 h3 h4=>?_
 show((if m<N then kas_bin (N-max m 1) p (max m 1)else .ret p):KasT (Array Nat)).kasWp cmp Q s
 have hm:max m 1=m:=by exact Us h2
 rw [hm]
 split
 ·next h=>exact N6 hc hN _ p m h1 (bO (bg h)) h4 q
 ·next h=>
  have:m=N:=bX h3 (b9 h)
  subst this
  exact q p h1 h4
end srt
set_option tactic.hygienic true in
theorem Cy{pos p':dS}{c x:af}(l:List af)(h:TriplesOk l)(e:pz p' (l++[gD pos.line,gD pos.col,c])=some x):pz p' l=some x\/x=c:=by
 fun_induction TriplesOk l with
 | case1=>
  simp only [ew,pz,gD]at e
  split at e
  ·right;exact(aW e).symm
  ·cases e
 | case2 a t b u y rest ih=>
  simp only [eQ,pz]at e ⊢
  split at e
  ·rename_i hc;rw [if_pos hc];exact av e
  ·rename_i hc;rw [if_neg hc];exact ih h e
 | case3 l h1 h2=>exact h.elim
theorem rn{sc:Scope}(h:∀x∈sc.names,x.2 ≠ .free):AV sc env=b8 []:=by
 simp only [AV]
 rw [forIn_yield_id [] (λx hx c=>by
  obtain⟨n,kind⟩:=x
  have:(kind==d6)=false:=by simpa using h _ hx
  simp only [this,a8,if_false])]
 rfl
theorem Fn{h:fv}{c:aB}{q:Str}(x:h.CodeRec (.ref c) q):∃o,h.get? c=some o/\Fo (some o)=some q:=by
 obtain⟨c',o,vs,t,e1,e2,e3,e4⟩:=x
 injection e1 with e1
 subst e1
 refine⟨o,e2,?_⟩
 obtain⟨oc,od,dat,sl⟩:=o
 simp only at e3
 subst e3
 show(match (_:Option af)with
  | some (iF q _)=>some q
  | _=>none)=some q
 rw [e4]
set_option tactic.hygienic true in
theorem GG{α:Type}{l:List α}{k:Nat}{x:α}(h:l[k]? = some x):l.set k x=l:=by
 apply List.ext_getElem?
 intro i
 rw [F9]
 split
 ·rename_i e
  subst e
  split
  ·exact h.symm
  ·rename_i hl
   rw [hG (dF.mp hl)]at h
   cases h
 ·rfl
theorem Hy(B:dC w H0.heap)(G:Gd H0 I ρ R s.heap)(O:b5 I ρ cx σ env s.heap)(hlaw:cx.names.lookup ("met":Str)=some .cell)(htab:R[0]? = some .tab){ps:iC}{body:Expr}{sc:Scope}{lpos:dS}
  (hdef:defaultsOf ps env=([],[]))(hcl:∀x∈sc.names,x.2 ≠ .free) :
  aq (aw pw w) A (ej (.Lambda ps body sc lpos) env) (λu s'=>∃I' f c' pm ctv o,u = .ref f/\a9 H0 eg I ρ s I' ρ R s'/\I' f=some (kla_obj "<lambda>" j0 ps body sc [] pm c' ctv)/\I' c'=some o/\Fo (some o)=some j0) E s:=by
 obtain⟨hcode,hqual⟩:=O.law hlaw
 have B':=G.baseAt B
 obtain⟨mg,bm,ob,u1,u2,u3,u4,u5,u6,u7⟩:=B'.u
 obtain⟨p,hp⟩:∃p,ρ[0]? = some p:=by
  have hl:0<ρ.length:=by rw [G.len];exact(eF.mp htab).1
  exact⟨_,bQ hl⟩
 obtain⟨t1,t2,tps,t3,t4,t5⟩:=G.recs 0 p .tab hp htab
 have hT:s.heap.get? 949=some (mN tps):=by rw [<-t1];exact t3
 have hC:=B'.hd
 have hne1:bm≠949:=λq=>by
  rw [q,hT]at u4
  cases u4
  cases u5
 have hgP:c8≠949:=by decide
 have hbG:bm≠c8:=λq=>by
  obtain⟨o,es,n,e1,e2,_⟩:=u1
  rw [<-q,u4]at e1
  cases e1
  rw [u7]at e2
  cases e2
 have hB:s.heap.BuiltinsAt mg 949:=⟨bm,ob,u2,u3,hbG,hne1,u4,u5,u6,u7⟩
 have hge:env.globals=c8:=O.gle
 have hq:(env.qual++"<lambda>":Str)=j0:=by rw [hqual];decide+kernel
 refine kla_eval hdef ?_
 rw [hq]
 have hown:∀{a:aB},s.heap.get? a=none->¬fK I ρ a:=λe=>bA G e
 cases hf:pz lpos tps.toList with
 | some cv=>
  obtain⟨c',o,rfl,hIc,hcq⟩:=t5 lpos cv hf
  refine kla_makeFunctionHit (rn hcl) hge u1 hcode hC hT t4 hf hB λctv h' tk hk hsz=>?_
  have hn:s.heap.get? h'.objs.size=none:=by
   cases e:s.heap.get? h'.objs.size with
   | none=>rfl
   | some o=>exact absurd (c7 e) (dF.mpr hsz)
  have x0:a9 H0 eg I ρ s I ρ R { s with heap:=h'.push { cls:=.type "function",data:=.func (kla_fn "<lambda>" j0 ps body sc [] ((mg "__name__").getD .none) (.ref c') ctv) },toks:=tk }:=
   a9.quiet G m6 (λa o ζ e=>au _ (hk a o e)) (λζ h=>h.elim) rfl rfl
  have x1:=x0.addfresh (o:={ cls:=.type "function",data:=.func (kla_fn "<lambda>" j0 ps body sc [] ((mg "__name__").getD .none) (.ref c') ctv) }) hn (aU _ rfl) (hown hn) (G.freshStk hn)
  refine⟨_,h'.objs.size,c',_,ctv,o,rfl,x1,if_pos rfl,?_,hcq⟩
  exact x1.le _ _ hIc
 | none=>
  refine kla_makeFunction (rn hcl) hge u1 hcode hC hT t4 hf hgP hB λc' ctv h' tk hx hge1 hlt hrec htb=>?_
  obtain⟨o,hoc,hcq⟩:=Fn hrec
  have hnf:s.heap.get? h'.objs.size=none:=by
   cases e:s.heap.get? h'.objs.size with
   | none=>rfl
   | some o=>exact absurd (c7 e) (dF.mpr (ah hge1 (bg hlt)))
  have hnc:s.heap.get? c'=none:=by
   cases e:s.heap.get? c' with
   | none=>rfl
   | some o=>exact absurd (c7 e) (dF.mpr hge1)
  generalize hfo:kla_obj "<lambda>" j0 ps body sc [] ((mg "__name__").getD .none) c' ctv=fo
  have hfr:fo.isFreed=false:=by rw [<-hfo];rfl
  have e2:(h'.push fo).get? 949=some (mN (tps ++ #[gD lpos.line,gD lpos.col,.ref c'])):=au _ htb
  have hcf:c'≠h'.objs.size:=dU hlt
  have hc9:c'≠949:=λq=>by rw [q,hT]at hnc;cases hnc
  have hf9:h'.objs.size≠949:=λq=>by rw [q,hT]at hnf;cases hnf
  have ot:∀a,a≠949->((h'.push fo).update 949 λζ=>mN tps).get? a=(h'.push fo).get? a:=λa ha=>aD _ _ (λq=>ha q.symm)
  have x0:a9 H0 eg I ρ s I ρ R { s with heap:=(h'.push fo).update 949 λζ=>mN tps,toks:=tk }:=a9.quiet G m6 (λa ob ζ e=>by
   by_cases ha:a=949
   ·subst ha
    rw [hT]at e
    cases e
    exact cz (h:=h'.push fo) (λζ=>mN tps) e2 rfl
   ·exact(ot a ha).trans (au _ (hx a ob ha e))) (λζ h=>h.elim) rfl rfl
  have x1:=x0.addfresh hnc ((ot c' hc9).trans (au fo hoc)) (hown hnc) (G.freshStk hnc)
  have hno:¬fK (jY I c' o) ρ h'.objs.size:=λq=>by
   rcases q with q | q
   ·unfold jY at q
    rw [if_neg (dg hcf)]at q
    exact hown hnf (av q)
   ·exact hown hnf (am q)
  have x2:=x1.addfresh hnf ((ot _ hf9).trans (aU _ hfr)) hno (G.freshStk hnf)
  have hIc:jY (jY I c' o) h'.objs.size fo c'=some o:=by
   unfold jY
   rw [if_neg hcf,if_pos rfl]
  have hp9:p=(949,949):=si t1 (t2.trans t1)
  have x3:=a9.write (X:=eg) (s:={ s with heap:=(h'.push fo).update 949 λζ=>mN tps,toks:=tk }) (s':={ s with heap:=h'.push fo,toks:=tk }) x2.good hp htab (λq=>nomatch q)
   (λb ob h1 ζ e=>(ot b (by rw [hp9]at h1;exact h1)).symm.trans e) (r':=.tab) ⟨t1,t2,_,by rw [t1];exact e2,by simpa using TriplesOk_snoc _ _ _ _ t4,λpos c e=>?_⟩ (by rw [hp9,e2];exact⟨λh=>(nomatch h),λh=>(nomatch h)⟩) rfl rfl
  ·rw [GG htab]at x3
   exact⟨_,h'.objs.size,c',_,ctv,o,rfl,x2.trans G x3,by rw [hfo];exact if_pos rfl,hIc,hcq⟩
  ·have e:pz pos (tps.toList++[gD lpos.line,gD lpos.col,j2 c'])=some c:=by simpa using e
   rcases Cy _ t4 e with e | rfl
   ·obtain⟨c1,o1,a1,a2,a3⟩:=t5 pos c e
    exact⟨c1,o1,a1,x2.le _ _ a2,a3⟩
   ·exact⟨c',o,rfl,hIc,hcq⟩
theorem Fb{d:FD}(K:LB d)(hlaw:(d.scope.names.lookup ("met":Str)==some .cell)=false){f:aB}{qual:Str}{cd:aB}(hR:cE H0 A (n+2)){binds:List (Str × af)}{σ0:br}{s1:ag}(G:Gd H0 I ρ R s.heap)(x1:a9 H0 eg I ρ s I' ρ' R s1)(B:dC w H0.heap)(hrel:fW I' ρ' σ0 binds)(hnd:(σ0.map (·.1)).Nodup)
  (hpar:∀x∈σ0,d.scope.names.lookup x.1=some .local\/d.scope.names.lookup x.1=some .cell){RR:fS->ag->Prop}{body:Expr}
  (hbody:∀(I1:dB) (ρ1:dI) (env:d7) (s2:ag),b5 I1 ρ1 ⟨d.scope.names,R.length⟩ σ0 env s2.heap->Gd ⟨H0.heap,env.locals::H0.stk⟩ I1 ρ1 R s2.heap->cE ⟨H0.heap,env.locals::H0.stk⟩ (A.deeper env) (n+1)->env.frame=some env.locals->(∀b,kL env b->s.heap.get? b=none) ->
   a9 H0 eg I ρ s I1 ρ1 R s2->aq (aw pw w) (A.deeper env) (ej body env) (λv s'=>RR (.ok (.ret v)) s')
    (λe s'=>aq (aw pw w) (A.deeper env) (leaving env e) (λζ s''=>RR (.error e) s'') (λe' s''=>RR (.error e') s'') s') s2) :
   aq (aw pw w) A.in1 (kl d.scope c8 [] binds (qual++".<locals>.") (some f) (.ref cd) none jN)
    (λenv s₂=>s₂.heap.NoLimit/\cA (aw pw w) A (.expr body env) RR s₂) (λe s'=>RR (.error e) s') s1:=by
 have G1:=x1.good
 have hkd:∀y∈binds,d.scope.names.lookup y.1=some .local\/(d.scope.names.lookup y.1=some .cell/\((pB (s1.heap.objs.size+1) d.scope.names []).lookup y.1).isSome=true):=λy hy=>by
  have hm:y.1∈σ0.map (·.1):=by rw [<-hrel.names];exact dE hy
  obtain⟨z,hz,hz'⟩:=aH.mp hm
  have:=hpar z hz
  rw [hz']at this
  rcases this with h | h
  ·exact av h
  ·exact am ⟨h,jz y.1 _ _ _ (av (mem_of_lookup h))⟩
 refine mK K.kind hkd λenv henv s2 x2=>?_
 have O2:=vx K hrel hnd hpar G1 henv x2 (λq=>by rw [q]at hlaw;cases hlaw)
 have x12:a9 H0 eg I' ρ' s1 I' ρ' R s2:=by
  obtain⟨h',tk,e⟩:=x2.toInCall.same
  exact a9.quiet G1 m6 (λa o ζ e=>x2.toInCall.keep a o e) (λζ h=>h.elim) (by rw [e]) (by rw [e])
 have x02:=x1.trans G x12
 have G2:=x12.good
 have hfm:env.frame=some env.locals:=by rw [henv];rfl
 have hkm:env.scope.kind ≠ .module:=by rw [henv];show d.scope.kind≠_;rw [K.kind];decide
 have hfr:∀b,kL env b->s.heap.get? b=none:=λb hb=>by
  have hle:s1.heap.objs.size<=b:=by
   rcases hb with rfl | ⟨y,hy⟩
   ·rw [henv];exact aF _
   ·have:=x2.above y b (mem_of_lookup hy)
    rw [henv]at this
    exact bg this
  cases e':s.heap.get? b with
  | none=>rfl
  | some o'=>
   exfalso
   refine x1.alive b (by rw [e'];exact λh=>nomatch h) ?_
   cases e'':s1.heap.get? b with
   | none=>rfl
   | some o''=>exact absurd (c7 e'') (dF.mpr hle)
 have hst:sM s2.heap env.locals:=by
  obtain⟨m,⟨o,es,ep,q1,q2,_⟩,_⟩:=O2.ns
  exact⟨o,es,ep,q1,q2⟩
 refine⟨(G2.baseAt B).lim,kla_codeExpr ?_⟩
 exact hbody I' ρ' env s2 O2 (G2.push (O2.sep _ (av rfl)) hst) (hR.deeper env hfm hkm) hfm hfr x02
set_option tactic.hygienic true in
theorem Bl(c:Nat):∀l:LS,(aQ c l).length<=l.length+1:=by
 intro l
 induction l with
 | nil=>
  exact aF _
 | cons x r ih=>
  have ih:=ih
  rw [cy]
  split
  ·rw [ao,ao];exact Vr ih
  ·split
   ·rw [ao,ao,ci];exact Ur
   ·rename_i h t e
    rw [e]at ih
    rw [ao]at ih ⊢
    rw [ao];exact Uq ih
theorem Hz(B:dC w H0.heap)(hR:cE H0 A (n+2))(G:Gd H0 I ρ R s.heap){f c':aB}{o:jh}{ps:iC}{sc:Scope}{x cs:Str}{px apos cpos p2:dS}{k2:Nat}{pm ctv:af}{l:LS}{u:af}
  (hf:I f=some (kla_obj "<lambda>" j0 ps (.Call (.Attribute (.Name x px) "split" apos) [.Constant (.str cs) k2 p2] [] cpos) sc [] pm c' ctv))(hc:I c'=some o)(hcq:Fo (some o)=some j0)
  (hcs:ls cs=[47])(hline:(apos.endLine==cpos.line)=true)(hpo:ps.posonlyargs=[])(hpa:ps.args.map (·.arg)=[x])(hpv:ps.vararg=none)(hok:z7 ⟨x,ps,[],sc⟩=true)(hloc:∀y∈sc.names,y.2 = .local)(hx:sc.names.lookup x=some .local)
  (hu:cn I ρ (.str l) u)(hl:l.length<SZ){RR:fS->ag->Prop}(h:∀v s',fP H0 I ρ s (.list ((aQ 47 l).map .str)) R v s'->RR (.ok (.ret v)) s') :
  cA (aw pw w) A (.call (.ref f) ⟨[u],[]⟩) RR s:=by
 have K:=rX hok
 have hd0:A.depth<AR:=by
  have:=hR.2.1
  show A.depth<1000
  exact UN this
 have hrec:s.heap.CodeRec (.ref c') j0:=vt (by rw [G.imm _ _ hc];exact hcq)
 refine kla_callFunE hd0 (G.imm _ _ hf) rfl K.co K.gen rfl hrec ?_
 have hb:bindG ps ([]:List af) [u] []=some [(x,u)]:=by
  unfold bindG
  simp only [hpo,hpa,hpv,nO,ew,Jy,gr]
  simp [Jz]
 refine sJ (dv:=[]) K.kwo K.kwa (av ⟨rfl,rfl⟩) hb ?_
 unfold vz
 show match ps.vararg with | none=>_ | some va=>_
 rw [hpv]
 have hmet:(sc.names.lookup ("met":Str)==some .cell)=false:=by
  cases e:sc.names.lookup ("met":Str)with
  | none=>rfl
  | some k=>
   have:=hloc _ (mem_of_lookup e)
   simp only at this
   subst this
   rfl
 refine Fb (d:=⟨x,ps,[],sc⟩) (σ0:=[(x,.str l)]) K hmet hR G (a9.self G m6) B ?_ (by simp) ?_ λI1 ρ1 env s2 O2 G2 hR2 ζ hfr x02=>?_
 ·exact⟨u,[],rfl,hu,rfl⟩
 ·intro y hy
  rw [aC]at hy
  subst hy
  exact av hx
 ·have gx:gl ⟨sc.names,R.length⟩ x=false:=by show(sc.names.lookup x==some .globalImplicit)=false;rw [hx];rfl
  have hv:f8 x [(x,PV.str l)]=some (.str l):=by simp
  have e1:dP ⟨H0.heap,env.locals::H0.stk⟩ w n ⟨sc.names,R.length⟩ (.Name x px) [(x,.str l)] R (.str l) R:=ni hv
  have e2:dP ⟨H0.heap,env.locals::H0.stk⟩ w n ⟨sc.names,R.length⟩ (.Constant (.str cs) k2 p2) [(x,.str l)] R (.str [47]) R:=Ah (by show grd (jb (ls cs)) (mkS (ls cs))=_;rw [hcs];rfl)
  have e3:=Ab (H0:=⟨H0.heap,env.locals::H0.stk⟩) (pos:=cpos) (apos:=apos) e1 e2 (by rw [ae];exact ah (Bl _ _) hl) (λenv=>rfl) (λenv=>rfl) hline
  refine ar (e3 _ (λζ ζ=>False) I1 ρ1 env s2 hR2 G2 O2) (λv s3 q=>?_) λζ ζ e=>e.elim
  obtain⟨I3,ρ3,x3,hv3⟩:=q
  exact h v s3 ⟨I3,ρ3,a9.back G x02 x3.weaken hfr,hv3⟩
theorem pR{α:Type}{p q:α->Bool}:∀{l:List α},(∀x∈l,p x=true->q x=true)->(∃x∈l,q x=true/\p x=false)->l.countP p<l.countP q
 | [],_,⟨x,hx,_⟩=>nomatch hx
 | y::l,h,⟨x,hx,h1,h2⟩=>by
  have hm:l.countP p<=l.countP q:=A4 λz hz=>h z (.tail _ hz)
  rw [Jq,Jq]
  rcases ay.mp hx with rfl | hx
  ·rw [if_pos h1,if_neg (by rw [h2];decide)]
   exact Pu hm
  ·have ih:=pR (λz hz=>h z (.tail _ hz)) ⟨x,hx,h1,h2⟩
   have hy:=h y (.head _)
   cases hp:p y with
   | true=>rw [hy hp];simp only [if_true];exact Up ih
   | false=>exact dh ih (dz _ _)
noncomputable def rO(key:Nat->List LS)(N i:Nat):Nat:=(cM N).countP λk=>decide (key k<key i)
theorem wN{a b c:List LS}(h1:¬b<a)(h2:¬c<b):¬c<a:=by
 rw [mr]at *
 exact MG h1 h2
theorem C8{key:Nat->List LS}{N i j:Nat}(hi:i<N)(hj:j<N):decide (rO key N i<rO key N j)=decide (key i<key j):=by
 by_cases h:key i<key j
 ·rw [decide_eq_true h]
  refine decide_eq_true (pR (λk ζ hk=>?_) ⟨i,ix.mpr hi,decide_eq_true h,decide_eq_false (wq _)⟩)
  have hk:=of_decide_eq_true hk
  exact decide_eq_true (List.lt_trans hk h)
 ·rw [decide_eq_false h]
  refine decide_eq_false (dF.mpr (A4 λk ζ hk=>?_))
  have hk:=of_decide_eq_true hk
  refine decide_eq_true ?_
  refine Classical.byContradiction λq=>?_
  exact wN h q hk
set_option tactic.hygienic true in
theorem join_split(c:Nat):∀l:LS,cj [c] (aQ c l)=l:=by
 intro l
 induction l with
 | nil=>
  exact rfl
 | cons x r ih=>
  have ih:=ih
  rw [cy]
  split
  ·rename_i e
   subst e
   cases hs:aQ x r with
   | nil=>exact absurd hs (gh x r)
   | cons h t=>rw [hs]at ih;simp only [cj,ew,eQ];rw [ih]
  ·split
   ·rename_i e;exact absurd e (gh c r)
   ·rename_i h t e
    rw [e]at ih
    cases t with
    | nil=>simp only [cj]at ih ⊢;rw [ih]
    | cons h2 t2=>simp only [cj,eQ]at ih ⊢;rw [ih]
theorem Ea{c:Nat}{a b:LS}(h:aQ c a=aQ c b):a=b:=by rw [<-join_split c a,h,join_split]
noncomputable abbrev jM(a b:LS):Bool :=!decide (aQ 47 b<aQ 47 a)
theorem EU(a b c:LS)(h1:jM a b=true)(h2:jM b c=true):jM a c=true:=by
 simp only [jM,cG,decide_eq_false_iff_not]at *
 exact wN h1 h2
theorem EW(a b:LS):(jM a b||jM b a)=true:=by
 simp only [jM,fT,cG,decide_eq_false_iff_not,mr]
 exact MH _ _
theorem HF(a b:LS)(h1:jM a b=true)(h2:jM b a=true):a=b:=by
 simp only [jM,cG,decide_eq_false_iff_not,mr]at h1 h2
 exact Ea (Jo h1 h2)
theorem BO{l l':List LS}(hp:l.Perm l')(hs:l.Pairwise λa b=>jM a b=true):l=l'.mergeSort jM:=
 tY (λa b ζ ζ=>HF a b) hs (jl EU EW l') (hp.trans (gw _ _).symm)
theorem Ed{ss:List LS}{p:Array Nat}(hp:Pm ss.length p)(hs:FG (rO (λi=>aQ 47 (ss.getD i [])) ss.length) p ss.length):(p.toList.map λi=>ss.getD i [])=ss.mergeSort jM:=by
 have hl:p.toList.Perm (cM ss.length):=by
  have:=Array.perm_iff_toList_perm.mp hp
  simpa using this
 refine BO ?_ ?_
 ·have h1:=hl.map λi=>ss.getD i []
  have h2:(cM ss.length).map (λi=>ss.getD i [])=ss:=by
   apply Jp
   ·simp
   ·intro i h1 h2
    simp [db,h2]
  rwa [h2]at h1
 ·rw [List.pairwise_map,List.pairwise_iff_getElem]
  intro i j hi hj hij
  have hsz:=hp.size
  have hi':i<p.size:=by simpa using hi
  have hj':j<p.size:=by simpa using hj
  have h1:=hs i j (bg hij) (by exact M9 hsz hj')
  unfold PP at h1
  rw [iK hi',iK hj']at h1
  simp only [sj]at h1
  have li:p[i]<ss.length:=by have:=hp.lt (by exact Pt hsz hj') i;rwa [jV,iK hi']at this
  have lj:p[j]<ss.length:=by have:=hp.lt (by exact Uo li) j;rwa [jV,iK hj']at this
  have h2:=C8 (key:=λi=>aQ 47 (ss.getD i [])) lj li
  rw [decide_eq_false (dF.mpr h1)]at h2
  have h3:=of_decide_eq_false h2.symm
  simp only [Array.getElem_toList]
  exact(by simp only [jM,cG,decide_eq_false_iff_not];exact h3)
theorem Kv(hR:cE H0 A m)(G:Gd H0 I ρ R s.heap){a b:List LS}{x y:af}(ha:cn I ρ (wO a) x)(hb:cn I ρ (wO b) y){Q:Bool->ag->Prop}(h:Q (decide (a<b)) s):aq (aw pw w) A (keyLt' JB x y) Q E s:=by
 obtain⟨p,lt,n,rfl,h1,rfl⟩:=ql G ha
 obtain⟨q,lt2,n2,rfl,h2,rfl⟩:=ql G hb
 rw [keyLt'_oneType,oneLt'_eq]
 simp only [if_true]
 refine aa (wpAny_cRoomFor hR.uc ?_)
 refine aa (wpAny_callSpecialIfBound?_slot (T:="list") (id:="list.__lt__") ⟨_,h1,rfl⟩ yX (call_meets yX ⟨_,h1,rfl⟩ PySem.F.entry_list_lt (PySem.F.args_list_lt_2 _ _) (zM p q lt lt2 n n2) ⟨h1,h2,?_⟩))
 exact gu h
noncomputable abbrev lk(s:LS):PV:=wO (aQ 47 s)
noncomputable def DM(H0:Bs)(w:bG)(A:bD)(R:List aN)(I0:dB)(f:af):Prop:=∀(I:dB) (ρ:dI) (s:ag) (l:LS) (u:af),Gd H0 I ρ R s.heap->(∀a o,I0 a=some o->I a=some o)->cn I ρ (.str l) u->l.length<SZ ->
 aq (aw pw w) A (call f [u]) (fP H0 I ρ s (lk l) R) (λζ ζ=>False) s
theorem a0.snoc{l:List PV}{xs:List af}{v:PV}{u:af}(h:a0 I ρ l xs)(hu:cn I ρ v u):a0 I ρ (l++[v]) (xs++[u]):=h.append (by exact⟨u,[],rfl,hu,rfl⟩)
theorem ET{I0:dB}{f:af}(hk:DM H0 w A R I0 f){D kS:aB}(hDk:D≠kS){Q:PUnit->ag->Prop}{body:af->PUnit->tn (ForInStep PUnit)}
  (hbody:∀x s (Q:ForInStep PUnit->ag->Prop),aq (aw pw w) A (call f [x]) (λk s'=>aq (aw pw w) A (sX (.ref kS) (·.push k)) (λζ s''=>Q (.yield ⟨⟩) s'') E s') (λζ ζ=>False) s->aq (aw pw w) A (body x ⟨⟩) Q E s){e1:Nat}:∀(rest done:List LS) (rv kv:List af) (I:dB) (ρ:dI) (s:ag) (e:Nat),Gd H0 I ρ R s.heap->(∀a o,I0 a=some o->I a=some o)->a0 I ρ (rest.map .str) rv->a0 I ρ (done.map lk) kv->s.heap.get? D=some (cD #[] e1)->s.heap.get? kS=some (cD kv.toArray e)->¬fK I ρ D->¬fK I ρ kS ->
   (∀x∈rest,x.length<SZ)->done.length+rest.length<64 ->
   (∀kv' I' ρ' s' e',Gd H0 I' ρ' R s'.heap->a0 I' ρ' ((done++rest).map lk) kv'->aR H0 eg (λa=>a=D\/a=kS) I ρ s I' ρ' R s'->s'.heap.get? D=some (cD #[] e1)->s'.heap.get? kS=some (cD kv'.toArray e')->¬fK I' ρ' D->¬fK I' ρ' kS->Q ⟨⟩ s') ->
   aq (aw pw w) A (nI rv DR body) Q E s:=by
 intro rest
 induction rest with
 | nil=>
  intro done rv kv I ρ s e G _ hr hkv hD hS hoD hoS _ _ hQ
  cases hr
  rw [wr]
  have hDs:D ∉ H0.stk:=G.notStk hD (bM rfl)
  have hSs:kS ∉ H0.stk:=G.notStk hS (bM rfl)
  exact ab (hQ kv I ρ s e G (by rw [aM];exact hkv) (aR.quiet G (λa ha=>ha.elim (λe=>e▸hoD) λe=>e▸hoS) (λa o ζ e=>e) rfl rfl λa ha=>ha.elim (λe=>e▸hDs) λe=>e▸hSs) hD hS hoD hoS)
 | cons x rest ih=>
  intro done rv kv I ρ s e G hI hr hkv hD hS hoD hoS hlen h64 hQ
  obtain⟨u,rv',rfl,hu,hr'⟩:=hr
  rw [ey]
  refine aa (hbody u s _ (ar (hk I ρ s x u G hI hu (hlen x (.head _))) (λk s1 q=>?_) λζ ζ e=>e))
  obtain⟨I1,ρ1,x1,hk1⟩:=q
  have hD1:=x1.kept hD (bM rfl) (λq=>hoD (am q)) id
  have hS1:=x1.kept hS (bM rfl) (λq=>hoS (am q)) id
  have hoD1:¬fK I1 ρ1 D:=fK.later (x1.z (Z:=eg)) hoD (by rw [hD];exact λh=>nomatch h) id
  have hoS1:¬fK I1 ρ1 kS:=fK.later (x1.z (Z:=eg)) hoS (by rw [hS];exact λh=>nomatch h) id
  have G1:=x1.good
  have hDs:D ∉ H0.stk:=G1.notStk hD1 (bM rfl)
  have hSs:kS ∉ H0.stk:=G1.notStk hS1 (bM rfl)
  have hkl:kv.length=done.length:=by rw [hkv.length,ae]
  rw [ao]at h64
  refine tm hS1 rfl ?_ (by rw [aT,sizeLine_eq];exact Un h64 hkl) (ah (az (Jw ..)) (by rw [aT,sizeLine_eq];exact Um h64 hkl))
  have ea:(bk kv).push k=bk (kv++[k]):=by simp
  obtain⟨e2,he2⟩:∃e2,(s1.heap.update kS (bC (·.push k))).get? kS=some (cD (bk (kv++[k])) e2):=⟨_,by rw [<-ea];exact eO hS1 (·.push k)⟩
  have z:aR H0 eg (λa=>a=D\/a=kS) I1 ρ1 s1 I1 ρ1 R { s1 with heap:=s1.heap.update kS (bC (·.push k)) }:=aR.quiet G1 (λa ha=>ha.elim (λe=>e▸hoD1) λe=>e▸hoS1) (λa o ha e=>(aD _ _ (λq=>ha (am q.symm))).trans e) rfl rfl λa ha=>ha.elim (λe=>e▸hDs) λe=>e▸hSs
  show aq (aw pw w) A (nI rv' DR body) Q E _
  refine ih (done++[x]) rv' (kv++[k]) I1 ρ1 _ e2 z.good (λa o e=>x1.le a o (hI a o e)) (hr'.le x1) (by rw [bW];exact(hkv.le x1).snoc hk1) ((aD _ _ (dg hDk)).trans hD1) he2 hoD1 hoS1 (λy hy=>hlen y (.tail _ hy)) (by rw [ai,oL];exact Ul h64) λkv' I' ρ' s' e' G' h1 y h2 h3 h4 h5=>?_
  exact hQ kv' I' ρ' s' e' G' (by rw [aP]at h1;exact h1) (aR.trans G x1.z (aR.trans G1 z y)) h2 h3 h4 h5
theorem xX:∀{ss:List LS} {kv:List af},a0 I ρ (ss.map lk) kv->∀i,i<ss.length->cn I ρ (lk (ss.getD i [])) (kv.getD i Value.none):=by
 intro ss
 induction ss with
 | nil=>
  intro _ _ i hi
  exact absurd hi (ji _)
 | cons x ss ih=>
  intro kv h i hi
  obtain⟨u,r,rfl,h1,h2⟩:=h
  cases i with
  | zero=>exact h1
  | succ i=>exact ih h2 i (AZ hi)
theorem JO:∀{ss:List LS} {kv:List af},a0 I ρ (ss.map .str) kv->∀i,i<ss.length->cn I ρ (.str (ss.getD i [])) (kv.getD i Value.none):=by
 intro ss
 induction ss with
 | nil=>
  intro _ _ i hi
  exact absurd hi (ji _)
 | cons x ss ih=>
  intro kv h i hi
  obtain⟨u,r,rfl,h1,h2⟩:=h
  cases i with
  | zero=>exact h1
  | succ i=>exact ih h2 i (AZ hi)
theorem MY{ss:List LS}{kv:List af}(h:a0 I ρ (ss.map .str) kv):∀p:List Nat,(∀i∈p,i<ss.length)->a0 I ρ ((p.map λi=>ss.getD i []).map .str) (p.map λi=>kv.getD i Value.none):=by
 intro p
 induction p with
 | nil=>
  intro _
  exact a0.nil
 | cons i p ih=>
  intro hp
  exact⟨_,_,rfl,JO h i (hp i (.head _)),ih λj hj=>hp j (.tail _ hj)⟩
theorem C1{D kS:aB}{st:SortSt}{e1 e:Nat}{kv out:List af}{P:pH->ag->Prop}(hDk:D≠kS)(hD:s.heap.get? D=some (cD #[] e1))(hS:s.heap.get? kS=some (cD kv.toArray e))(hout:(arrOf st).map (·.2)=bk out)(hz:out.length<64)(hkz:kv.length<64)(hf:failedOf st=none)
  (h:∀h' e2 e3,(∀a o,a≠D->a≠kS->s.heap.get? a=some o->h'.get? a=some o)->h'.get? D=some (cD out.toArray e2)->h'.get? kS=some (cD #[] e3)->P (.done (.ret .none)) { s with heap:=h' }):aq (aw pw w) A (ksk_tail D false e1 (.ref kS) st) P E s:=by
 obtain⟨e3,he3⟩:∃e3,(s.heap.update kS (bC λζ=>(#[]:Array af))).get? kS=some (cD #[] e3):=⟨_,eO hS λζ => #[]⟩
 have hD1:(s.heap.update kS (bC λζ=>(#[]:Array af))).get? D=some (cD #[] e1):=(aD _ _ (dg hDk)).trans hD
 obtain⟨e2,he2⟩:∃e2,((s.heap.update kS (bC λζ=>(#[]:Array af))).update D (bC λζ=>bk out)).get? D=some (cD (bk out) e2):=⟨_,eO hD1 λζ=>bk out⟩
 unfold ksk_tail
 try dsimp only
 rw [hout]
 refine aa (tm hS rfl ?_ (by rw [aT,sizeLine_eq];exact Uk hkz) (bp _))
 refine aa (dR ?_)
 refine aa (seqEpoch_at hD1 rfl ?_)
 refine aa (tm hD1 rfl ?_ (bp _) (by show(bk out).size<=_;rw [aT,sizeLine_eq];exact Uj hz))
 rw [hf]
 simp only [bne_self_eq_false,a8,if_false]
 refine ab (h _ e2 e3 (λa o h1 h2 h3=>?_) he2 ?_)
 ·exact(aD _ _ (dg h1)).trans ((aD _ _ (dg h2)).trans h3)
 ·exact(aD _ _ hDk).trans he3
theorem N3(hR:cE H0 A m)(G:Gd H0 I ρ R s.heap){D kS:aB}{ss:List LS}{vs kv:List af}{e1 e:Nat}{P:pH->ag->Prop}(hDk:D≠kS)(hD:s.heap.get? D=some (cD #[] e1))(hS:s.heap.get? kS=some (cD kv.toArray e))(hvs:a0 I ρ (ss.map .str) vs)(hkv:a0 I ρ (ss.map lk) kv)(h0:0<ss.length)(h64:ss.length<64)
  (h:∀h' e2 e3 out,(∀a o,a≠D->a≠kS->s.heap.get? a=some o->h'.get? a=some o)->h'.get? D=some (cD (bk out) e2)->h'.get? kS=some (cD #[] e3)->a0 I ρ ((ss.mergeSort jM).map .str) out->P (.done (.ret .none)) { s with heap:=h' }) :
  aq (aw pw w) A (ksk_end D false vs.toArray e1 (.ref kS) kv.toArray) P E s:=by
 have hvl:vs.length=ss.length:=by rw [hvs.length,ae]
 have hkl:kv.length=ss.length:=by rw [hkv.length,ae]
 unfold ksk_end
 try dsimp only
 simp only [a8,if_false]
 by_cases h2:2<=ss.length
 ·have hn2:¬vs.toArray.size<2:=by rw [aT];exact Ui hvl h2
  rw [if_neg hn2,if_neg hn2]
  refine aa (kas_kind (T:=.type "list") (by exact Ps hkl h2) (λv hv=>?_) (by decide) (by decide) ?_)
  ·obtain⟨i,hi,rfl⟩:=List.mem_iff_getElem.mp hv
   have hi':i<ss.length:=by exact M9 hkl hi
   have:=xX hkv i hi'
   rw [db (l:=kv),bQ hi]at this
   obtain⟨p,lt,n,e5,h1,_⟩:=ql G this
   simp only [sj]at e5
   rw [e5]
   exact(Looks.ld h1).andThen .now
  ·have hc:HC (kas_ask pw w A JB kv) (rO (λi=>aQ 47 (ss.getD i [])) ss.length) ss.length s:=λi j C hi hj hC=>by
    show aq _ A (keyLt' JB (kv.getD i Value.none) (kv.getD j Value.none)) C (λζ ζ=>False) s
    refine Kv hR G (xX hkv i hi) (xX hkv j hj) ?_
    rw [C8 (key:=λi=>aQ 47 (ss.getD i [])) hi hj]at hC
    exact hC
   have hsort:(kas_sort vs.length).kasWp (kas_ask pw w A JB kv) (λp s'=>s'=s/\Pm ss.length p/\FG (rO (λi=>aQ 47 (ss.getD i [])) ss.length) p ss.length) s:=by
    rw [hvl]
    exact J0 hc h0 λp h1 h2=>⟨rfl,h1,h2⟩
   refine aa (ar (kat_run (Q:=λst' s'=>∃p:Array Nat,p.size=vs.length/\arrOf st'=p.map (kas_item (kv.toArray.zip vs.toArray))/\failedOf st'=none/\s'=s/\Pm ss.length p/\FG (rO (λi=>aQ 47 (ss.getD i [])) ss.length) p ss.length)
    (by exact Pr hvl hkl) (by exact Ps hvl h2) (by exact M8 h64 hvl) (λp' st' s' a1 a2 a3 a4=>⟨p',a1,a2,a3,a4⟩) hsort) ?_ λζ ζ x=>x)
   rintro ⟨⟨⟩,st'⟩ s' ⟨p,hp,har,hf,rfl,hpm,hst⟩
   try dsimp only
   refine C1 hDk hD hS (kat_snds (by exact Pr hvl hkl) har) (by rw [ae,CY,hp];exact M8 h64 hvl) (by exact M8 h64 hkl) hf λh' e2 e3 k1 k2 k3=>h h' e2 e3 _ k1 k2 k3 ?_
   rw [<-Ed hpm hst]
   exact MY hvs p.toList λi hi=>by
    have:=(yQ hpm).mp (Array.mem_toList_iff.mp hi)
    simpa using this
 ·have hn2:vs.toArray.size<2:=by rw [aT];exact Uh hvl h2
  rw [if_pos hn2,if_pos hn2]
  refine aa (ab ?_)
  refine aa (ab ?_)
  try dsimp only
  have ho:(arrOf (SortSt.mk' general' (kv.toArray.zip vs.toArray) #[] 7 none)).map (·.2)=vs.toArray:=by
   show(kv.toArray.zip vs.toArray).map (·.2)=vs.toArray
   apply Array.toList_inj.mp
   rw [Array.toList_map,ksk_zip]
   simp [Jn,hvl,hkl]
  refine C1 hDk hD hS ho (by exact Pq hvl h2) (by exact Pq hkl h2) rfl λh' e2 e3 k1 k2 k3=>h h' e2 e3 vs k1 k2 k3 ?_
  obtain⟨x,hx⟩:=AH.mp (bX (fq (d5 h2)) h0)
  subst hx
  have:[x].mergeSort jM=[x]:=by simp
  rw [this]
  exact hvs
set_option tactic.hygienic true in
theorem GC(hR:cE H0 A (m+3))(G:Gd H0 I ρ R s.heap){ss:List LS}{u f:af}{fa:aB}(hf:f = .ref fa)(hu:cn I ρ (.list (ss.map .str)) u)(hk:DM H0 w A.in1.in1 R I f)(h0:0<ss.length)(h64:ss.length<64)(hlen:∀x∈ss,x.length<SZ) :
  aq (aw pw w) A (call (.builtin "sorted") [u] [(("key":Str),f)]) (fP H0 I ρ s (.list ((ss.mergeSort jM).map .str)) R) E s:=by
 subst hf
 obtain⟨hl,ax,vs,k,rfl,hax,hvs⟩:=hu
 have hal:=G.imm _ _ hax
 have hvl:vs.length=ss.length:=by rw [hvs.length,ae]
 refine call_function_entry_kw PyProof.Rows.kind_sorted PyProof.Rows.plain_sorted PyProof.Rows.entry_sorted (ksk_s1 _ _) ?_
 unfold Builtin.«sorted»
 refine aa (m:=checkCount "sorted" 1 1 _) (ab ?_)
 refine aa (collect_list ⟨_,hal,rfl,k,rfl⟩ ?_ (by rw [sizeLine_eq];exact Kp h64 hvl))
 refine aa (wpAny_newList ?_ (by rw [sizeLine_eq];exact Kp h64 hvl))
 generalize hh1:(s.heap.push (seqObj "list" #[] 0)).update s.heap.objs.size (bC (· ++ vs.toArray))=h1
 have k1:∀a o,s.heap.get? a=some o->h1.get? a=some o:=λa o e=>by
  rw [<-hh1,Heap.get?_update_ne _ _ _ _ (dU (c7 e))]
  exact au _ e
 have hDn1:h1.get? h1.objs.size=none:=ct _
 generalize hD:h1.objs.size=D at hDn1 ⊢
 generalize hh2:h1.push _=h2
 have k2:∀a o,h1.get? a=some o->h2.get? a=some o:=λa o e=>by rw [<-hh2];exact au _ e
 have eD:h2.get? D=some (cD vs.toArray 0):=by rw [<-hh2,<-hD];exact aU _ rfl
 have hDn:s.heap.get? D=none:=by
  cases e:s.heap.get? D with
  | none=>rfl
  | some o=>rw [k1 D o e]at hDn1;cases hDn1
 refine aa (aY (wpAny_call_entry_kw PyProof.Rows.slot_list_sort ⟨_,eD,rfl⟩ PyProof.Rows.entry_list_sort ?body (ksk_l1 _ _)))
 case body=>
  show aq (aw pw w) A.in1.in1 (Builtin.«list.sort» ⟨[.ref D],[(em "key",.ref fa)]⟩) _ _ _
  rw [ksk_t1]
  unfold ksk_tree
  refine aa (listItems_at eD rfl ?_)
  refine aa (tm eD rfl ?_ (by rw [aT,sizeLine_eq];exact Kp h64 hvl) (bp _))
  obtain⟨e1,he1⟩:∃e1,(h2.update D (bC λζ=>(#[]:Array af))).get? D=some (cD #[] e1):=⟨_,eO eD λζ => #[]⟩
  have k3:∀a o,a≠D->h2.get? a=some o->(h2.update D (bC λζ=>(#[]:Array af))).get? a=some o:=λa o ha e=>(aD _ _ ha.symm).trans e
  generalize h2.update D (bC λζ=>(#[]:Array af))=h3 at he1 k3 ⊢
  refine aa (seqEpoch_at he1 rfl ?_)
  refine aa (rD ?_ (by show vs.toArray.toList.length<=_;simp;rw [sizeLine_eq];exact Kp h64 hvl))
  refine aa (wpAny_newList ?_ (bp _))
  generalize hh4:h3.push _=h4
  have k4:∀a o,h3.get? a=some o->h4.get? a=some o:=λa o e=>by rw [<-hh4];exact au _ e
  have hKn:h4.get? h4.objs.size=none:=ct _
  generalize hkS:h4.objs.size=kS at hKn ⊢
  generalize hh5:h4.push _=h5
  have k5:∀a o,h4.get? a=some o->h5.get? a=some o:=λa o e=>by rw [<-hh5];exact au _ e
  have eK:h5.get? kS=some (cD #[] 0):=by rw [<-hh5,<-hkS];exact aU _ rfl
  have eD5:h5.get? D=some (cD #[] e1):=k5 _ _ (k4 _ _ he1)
  have hDk:D≠kS:=λq=>by rw [<-q,k4 _ _ he1]at hKn;cases hKn
  have hold:∀a o,s.heap.get? a=some o->h5.get? a=some o:=λa o e=>k5 _ _ (k4 _ _ (k3 _ _ (λq=>by rw [q,hDn]at e;cases e) (k2 _ _ (k1 _ _ e))))
  have hKn0:s.heap.get? kS=none:=by
   cases e:s.heap.get? kS with
   | none=>rfl
   | some o=>
    rw [k4 _ _ (k3 _ _ (λq=>by rw [q,hDn]at e;cases e) (k2 _ _ (k1 _ _ e)))]at hKn
    cases hKn
  have st:a9 H0 eg I ρ s I ρ R { s with heap:=h5 }:=a9.quiet G m6 (λa o ζ e=>hold a o e) (λa ha=>ha.elim) rfl rfl
  have G5:=st.good
  refine aY ?_
  unfold ksk_rest
  refine aa (iX ?_)
  first
   | rw [List.forIn_toArray]
   | (rw [<-lF];simp only [qw])
   | rw [<-lF]
  refine aa (ET (e1:=e1) hk hDk (λx s' Q hx=>?_) ss [] vs [] I ρ { s with heap:=h5 } 0 G5 (λζ ζ e=>e) hvs (by exact a0.nil) eD5 eK (bA G hDn) (bA G hKn0) hlen (by simpa using h64) λkv I' ρ' s' e' G' hkv y hD' hK' hoD hoK=>?_)
  ·refine aa (nR (ar hx (λk' s'' hk'=>?_) λζ ζ hF=>hF.elim))
   exact aa (ar hk' (λζ s3 h3'=>ab h3') λζ ζ e=>e)
  ·try dsimp only
   refine aa (listItems_at hK' rfl ?_)
   have G1:=y.good
   refine N3 (m:=m+1) hR.in1.in1 G1 (ss:=ss) hDk hD' hK' (hvs.leZ y) (by simpa using hkv) h0 h64 λh' e2 e3 out k6 k7 k8 hout=>?_
   have hDs:D ∉ H0.stk:=G1.notStk hD' (bM rfl)
   have hKs:kS ∉ H0.stk:=G1.notStk hK' (bM rfl)
   have z:aR H0 eg (λa=>a=D\/a=kS) I' ρ' s' I' ρ' R { s' with heap:=h' }:=aR.quiet G1 (λa ha=>ha.elim (λe=>e▸hoD) λe=>e▸hoK) (λa o ha e=>k6 a o (λq=>ha (av q)) (λq=>ha (am q)) e) rfl rfl λa ha=>ha.elim (λe=>e▸hDs) λe=>e▸hKs
   have x:a9 H0 eg I ρ s I' ρ' R { s' with heap:=h' }:=aR.close G st (aR.trans G5 y z) λa ha=>ha.elim (λe=>e▸hDn) λe=>e▸hKn0
   have x2:=x.addfresh hDn k7 hoD hDs
   have hml:(ss.mergeSort jM).length=ss.length:=(gw _ _).length_eq
   refine⟨_,rfl,ab ⟨_,rfl,_,ρ',x2,?_⟩⟩
   refine⟨by rw [ae,hml];exact bg (bR h64 (by decide)),D,out,e2,rfl,by unfold jY;rw [if_pos rfl],hout.addle hoD⟩
theorem BV(h:lO R=true):R[0]? = some .tab:=uV h
inductive yG:List cQ->Prop
 | mk (ps:iC) (x:Str) (px apos:dS) (cs:Str) (k2:Nat) (p2 cpos:dS) (sc:Scope) (lpos kpos:dS) (hcs:ls cs=[47]) (hline:apos.endLine=cpos.line) (hpo:ps.posonlyargs=[]) (hpa:ps.args.map (·.arg)=[x]) (hpv:ps.vararg=none) (hpd:ps.defaults=[]) (hpk:ps.kw_defaults=[])
   (hok:z7 ⟨x,ps,[],sc⟩=true) (hloc:sc.names.all (λy=>y.2 == .local)=true) (hx:sc.names.lookup x=some .local):yG [⟨some "key",.Lambda ps (.Call (.Attribute (.Name x px) "split" apos) [.Constant (.str cs) k2 p2] [] cpos) sc lpos,kpos⟩]
theorem d9{P:Prop}(h:false=true):P:=(aX h).elim
theorem ES{kws:List cQ}(h:Dl kws=true):yG kws:=by
 refine fx (C:=λl b=>b=true->yG l) kws (λζ=>d9) (λk h=>?_) h
 obtain⟨a,e,kpos⟩:=k
 obtain⟨ha,h⟩:=eB h
 cases aJ ha
 refine Kz (C:=λe b=>b=true->yG [⟨some "key",e,kpos⟩]) e (λζ=>d9) (λps b sc lpos h=>?_) h
 refine rp (C:=λb y=>y=true->yG [⟨some "key",.Lambda ps b sc lpos,kpos⟩]) b (λζ=>d9) (λf as ks cpos h=>?_) h
 refine Au (C:=λf y=>y=true->yG [⟨some "key",.Lambda ps (.Call f as ks cpos) sc lpos,kpos⟩]) f (λζ=>d9) (λo m apos h=>?_) h
 refine ii (C:=λo y=>y=true->yG [⟨some "key",.Lambda ps (.Call (.Attribute o m apos) as ks cpos) sc lpos,kpos⟩]) o (λζ=>d9) (λx px h=>?_) h
 refine fx (C:=λas y=>y=true->yG [⟨some "key",.Lambda ps (.Call (.Attribute (.Name x px) m apos) as ks cpos) sc lpos,kpos⟩]) as (λζ=>d9) (λc h=>?_) h
 refine tD (C:=λc y=>y=true->yG [⟨some "key",.Lambda ps (.Call (.Attribute (.Name x px) m apos) [c] ks cpos) sc lpos,kpos⟩]) c (λζ=>d9) (λcs k2 p2 h=>?_) h
 obtain⟨h1,h⟩:=eB h
 obtain⟨h2,h⟩:=eB h
 obtain⟨h3,h⟩:=eB h
 obtain⟨h4,h⟩:=eB h
 obtain⟨h5,h⟩:=eB h
 obtain⟨h6,h⟩:=eB h
 obtain⟨h7,h⟩:=eB h
 obtain⟨h8,h⟩:=eB h
 obtain⟨h9,h⟩:=eB h
 obtain⟨h10,h⟩:=eB h
 obtain⟨h11,h12⟩:=eB h
 cases eP.mp h1
 cases aJ h2
 exact⟨ps,x,px,apos,cs,k2,p2,cpos,sc,lpos,kpos,aJ h3,aJ h4,eP.mp h5,aJ h6,cK.mp h7,eP.mp h8,eP.mp h9,h10,h11,aJ h12⟩
theorem Cc(B:dC w H0.heap)(hn:3<=n){g:Str}{np pos:dS}{kws:List cQ}{l:List PV}{ss:List LS}(hg:gl cx g=true)(hgv:ff g=some (.builtin "sorted"))(hlaw:cx.names.lookup ("met":Str)=some .cell)(h1:dP H0 w n cx e σ R (.list l) R1)(hns:eL e=true)
  (hlam:Dl kws=true)(hss:fg l=some ss)(h0:0<ss.length)(h64:ss.length<64)(hall:ss.all (λs=>decide (s.length<SZ))=true)(htab:lO R1=true) :
  dP H0 w n cx (.Call (.Name g np) [e] kws pos) σ R (.list ((ss.mergeSort λa b =>!decide (aQ 47 b<aQ 47 a)).map .str)) R1:=by
 obtain⟨ps,x,px,apos,cs,k2,p2,cpos,sc,lpos,kpos,hcs,hline,hpo,hpa,hpv,hpd,hpk,hok,hloc,hx⟩:=ES hlam
 intro A E I ρ env s hR G O
 refine fe (dw (cH B G O hg hgv ?_) (dm O (O.glo g hg)))
 have hns':∀x∈[e],eL x=true:=λx hx=>by rw [aC]at hx;subst hx;exact hns
 refine callWith_kw ?_ (by rw [jA hns'];rfl) (rq hns') rfl rfl
 rw [jA hns']
 refine fG (ar (h1.then hR G O λI1 ρ1 u s1 x1 hu O1 G1=>?_) (λζ ζ h₁=>hO h₁) λζ ζ e=>e)
 have hdef:defaultsOf ps env=([],[]):=by
  obtain⟨a1,a2,a3,a4,a5,a6,a7⟩:=ps
  simp only at hpd hpk
  subst hpd hpk
  rfl
 refine Mx (ar (Hy B G1 O1 hlaw (BV htab) hdef (λy hy q=>by have z:=bu.mp hloc y hy;rw [q]at z;cases z)) (λy s2 q=>?_) λζ ζ e=>e)
 obtain⟨I2,f,c',pm,ctv,o,rfl,x2,hf,hc,hcq⟩:=q
 refine kwAll_nil ?_
 have hl:=zq hss
 subst hl
 refine ar (GC (m:=0) (hR.le (by exact Ug hn)) x2.good (fa:=f) rfl (hu.le x2) (λI3 ρ3 s3 l3 u3 G3 hI3 hu3 hl3=>?_) h0 h64 (λx hx=>by simpa using bu.mp hall x hx)) (λζ ζ q=>fP.mono_ G (x1.trans G x2) q) λζ ζ e=>e
 have hR2:cE H0 A.in1.in1 (0+2):=cE.in1 (cE.in1 (hR.le (by exact Uf hn)))
 refine fc (Hz (n:=0) B hR2 G3 (hI3 _ _ hf) (hI3 _ _ hc) hcq hcs (by rw [hline];exact beq_self_eq_true _) hpo hpa hpv hok (λy hy=>aJ (bu.mp hloc y hy)) hx hu3 hl3 λv s' q=>q)
noncomputable abbrev hB(b:Bool):Int:=if b then 1 else 0
noncomputable def mj(w:bG):Bool:=w.params.followText "set-order"
noncomputable abbrev MU(w:bG):jh:={ cls:=.type "set",dict:=none,data:=.set #[] 0 (.fresh 0 0 (!mj w)),slots := #[] }
noncomputable def nA(w:bG)(b:Bool):SetTable:=(layNew (.fresh 0 0 (!mj w)) #[] (hB b) (.bool b)).2.1
noncomputable abbrev uv(w:bG)(b:Bool):jh:={ cls:=.type "set",dict:=none,data:=.set #[(hB b,.bool b)] 1 (nA w b),slots := #[] }
theorem US(w:bG)(b:Bool):layNew (.fresh 0 0 (!mj w)) #[] (hB b) (.bool b)=(#[(hB b,.bool b)],nA w b,false,false):=by
 unfold nA
 generalize mj w=led
 cases b<;>cases led<;>decide+kernel
theorem oQ(w:bG)(b:Bool):(nA w b).plain=true/\(nA w b).tooFull=false/\(nA w b).fits 1=true/\(nA w b).led = !mj w/\FN (nA w b).place 0=0 /\ ∃j,(nA w b).place[0]? = some j/\FN (nA w b).place (j+1)=1:=by
 unfold nA
 generalize mj w=led
 cases b<;>cases led<;>exact⟨by decide+kernel,by decide+kernel,by decide+kernel,by decide+kernel,by decide+kernel,_,rfl,by decide+kernel⟩
theorem Ln(b:Bool):byScan (.bool b) #[]=true:=by cases b<;>decide+kernel
theorem Lm(b:Bool):byScan (.bool b) #[(hB b,.bool b)]=true:=by cases b<;>decide+kernel
theorem E4(b:Bool):Builtin.«int.__hash__» ⟨[.bool b],[]⟩=(do ret (<-mkInt (hB b))):=by cases b<;>first | rfl | kernel_rfl
theorem sA{b:Bool}{Q:Int->ag->Prop}(h:Q (hB b) { s with toks:=s.toks+1 }):aq (aw pw w) A (pyHash (.bool b)) Q E s:=by
 have hT:s.TypeIs (.bool b) "bool":=rfl
 unfold pyHash
 have hv:[dT b].any Value.onHeap=false:=rfl
 refine aa ?_
 rw [cRoomFor,if_neg (by rw [hv];exact aX)];refine ab ?_
 refine aa (gn hT jk.lookup ?_)
 show aq _ _ (if(some (Value.builtin "int.__hash__")==some Value.none)=true then _ else _) Q E s
 rw [if_neg (by rw [beq_builtin_none];exact aX)]
 refine aa (gn hT jk.lookup ?_)
 show aq _ _ (lD (.bool b) "__hash__" _>>=_) Q E s
 refine aa (wpAny_callSpecialIfBoundUnlessNone?_slot hT jk
  (ei jk hT entry_int_hash
   (by
    rw [E4]
    refine wpAny_ret_mkInt ?_
    show aq _ _ (if(decide (-(2:Int) ^ 63<=hB b)&&decide (hB b<2 ^ 63))=true then _ else _) Q E _
    rw [if_pos (by cases b<;>decide)]
    refine ab ?_
    have e:(if(hB b == -1)=true then-2 else hB b)=hB b:=by cases b<;>decide
    rw [e]
    exact h) (args_int_hash _)))
theorem GL{D:aB}{b:Bool}(hD:s.heap.get? D=some (MU w)){Q:af->ag->Prop}(h:∀h',sm D s.heap h'->h'.get? D=some (uv w b)->Q .none { s with heap:=h',toks:=s.toks+1 }) :
  aq (aw pw w) A (call (.builtin "set.add") [.ref D,.bool b]) Q E s:=by
 obtain⟨t1,t2,t3,t4,t5,t6⟩:=oQ w b
 refine ei yW ⟨_,hD,rfl⟩ yN ?_ (xr _ _)
 unfold Builtin.«set.add» pE
 simp only [tu,bind_assoc]
 unfold j5 setAdd
 refine aa (ab ?_)
 try dsimp only
 refine aa (ab ?_)
 try dsimp only
 refine aa ?_
 refine aY ?_
 refine aa (sA ?_)
 unfold setAddHashed setAddHashedIn
 refine aY (aa (dQ (s:={ s with toks:=s.toks+1 }) hD rfl rfl ?_))
 dsimp only
 have hb:=Ln b
 rw [hb]
 simp only [↓reduceIte]
 unfold setAddByScan
 refine aa ?_
 refine aa (iX ?_)
 refine aa (cF (show setScan D (.bool b) (hB b) true #[]=b8 .absent from rfl) ?_)
 dsimp only
 rw [US]
 dsimp only
 refine aa (ab ?_)
 rw [t1]
 simp only [↓reduceIte]
 refine aa (cF (show hashByValue 8 (.bool b)=b8 true from rfl) ?_)
 simp only [↓reduceIte]
 have hset:(s.heap.update D (Obj.putSet #[(hB b,.bool b)] (nA w b))).get? D=some (uv w b):=by
  have:=cz (h:=s.heap) (Obj.putSet #[(hB b,.bool b)] (nA w b)) hD (by rw [putSet_of (es := #[]) (ep:=0) (t:=.fresh 0 0 (!mj w)) _ _ rfl];rfl)
  rw [putSet_of (es := #[]) (ep:=0) (t:=.fresh 0 0 (!mj w)) _ _ rfl]at this
  exact this
 refine aa (wpAny_storeSet_of (s:={ s with toks:=s.toks+1 }) hD rfl ?_ (by show 1<=_;rw [sizeLine_eq];decide))
 rw [t2]
 simp only [Bool.not_false,yO,a8,if_false,jK]
 refine ab (ab ?_)
 exact ab ⟨_,rfl,h _ (jP ..) hset⟩
theorem GK{D:aB}{b:Bool}(hD:s.heap.get? D=some (uv w b)){Q:af->ag->Prop}(h:Q .none { s with toks:=s.toks+1 }) :
  aq (aw pw w) A (call (.builtin "set.add") [.ref D,.bool b]) Q E s:=by
 obtain⟨t1,t2,t3,t4,t5,t6⟩:=oQ w b
 refine ei yW ⟨_,hD,rfl⟩ yN ?_ (xr _ _)
 unfold Builtin.«set.add» pE
 simp only [tu,bind_assoc]
 unfold j5 setAdd
 refine aa (ab ?_)
 try dsimp only
 refine aa (ab ?_)
 try dsimp only
 refine aa ?_
 refine aY ?_
 refine aa (sA ?_)
 unfold setAddHashed setAddHashedIn
 refine aY (aa (dQ (s:={ s with toks:=s.toks+1 }) hD rfl t3 ?_))
 dsimp only
 have hb:=Lm b
 rw [hb]
 simp only [↓reduceIte]
 unfold setAddByScan
 refine aa ?_
 refine aa (iX ?_)
 have hsc:setScan D (.bool b) (hB b) true #[(hB b,.bool b)]=setScanFrom D (.bool b) (hB b) true [(hB b,.bool b)] 0:=rfl
 rw [hsc]
 unfold setScanFrom
 rw [if_pos (beq_self_eq_true _)]
 refine aa ?_
 refine aa ?_
 unfold setEpoch
 refine aa (dQ (s:={ s with toks:=s.toks+1 }) hD rfl t3 (ab ?_))
 refine aa ?_
 unfold eqBool
 refine aY ?_
 rw [if_pos (beq_self_eq_true _)]
 refine aa (iX (ab ?_))
 simp only [MK,↓reduceIte]
 refine ab (ab (ab ?_))
 exact ab ⟨_,rfl,h⟩
theorem fL:Slot "set_iterator" "__next__" "set_iterator.__next__":=
 .of (owner:="set_iterator") (n:="__next__") (by rw [d4,cg];kernel_rfl) (by decide+kernel) (by decide+kernel) (by decide+kernel)
  (by first | exact .inl (by decide+kernel) | exact .inr (by decide+kernel)) (by rw [fR];kernel_rfl)
theorem lr:mR AP "set_iterator.__next__"=some Builtin.«set_iterator.__next__»:=gP ∅
theorem lU(a:af):lY "set_iterator.__next__" ⟨[a],[]⟩:=by unfold lY;kernel_rfl
theorem tc:mR AP "set.__iter__"=some Builtin.«frozenset.__iter__»:=entryFor_alias (id':="frozenset.__iter__") ∅ rfl (by decide+kernel) ∅
theorem vB(a:af):lY "set.__iter__" ⟨[a],[]⟩:=by unfold lY;kernel_rfl
noncomputable abbrev mc(D:aB)(slot i:Int):jh:={ cls:=.type "set_iterator",dict:=none,data:=.fields #[.int slot 0,.int i 0,.ref D,.int 1 0,.int 1 0],slots := #[] }
theorem GJ{D:aB}{b:Bool}(hD:s.heap.get? D=some (uv w b)){Q:af->ag->Prop}(h:Q (.ref s.heap.objs.size) { s with heap:=s.heap.push (mc D 0 0) }):aq (aw pw w) A (mP (.ref D)) Q E s:=by
 obtain⟨t1,t2,t3,t4,t5,t6⟩:=oQ w b
 refine wpAny_pyIter_slot ⟨_,hD,rfl⟩ nv (ei nv ⟨_,hD,rfl⟩ tc ?_ (vB _))
 unfold Builtin.«frozenset.__iter__» JL JM j5 setDrawn setEpoch AQ Mv
 refine aa (aa (ab (ab ?_)))
 refine aa (aa (aa (dQ hD rfl t3 (ab (ab ?_)))))
 refine aa (aa (dQ hD rfl t3 (aa (aa (gO (ab (ab ?_)))))))
 have key:∀(c:Bool) (X Y:tn pH) (P:pH->ag->Prop),c=false->aq (aw pw w) A.in1 Y P E s->aq (aw pw w) A.in1 (if c=true then X else Y) P E s:=λc X Y P hc hY=>by rw [hc,if_neg aX];exact hY
 refine key _ _ _ _ ?_ ?_
 ·show(!w.params.followText "set-order"&&(!(nA w b).plain&&decide ((1:Nat)>1)))=false
  rw [decide_eq_false (by exact Ue),jK,jK]
 refine aa (ab ?_)
 refine aa (aa (dQ hD rfl t3 (ab ?_)))
 refine aa (ce (ab ⟨_,rfl,"set_iterator",_,⟨_,aU _ rfl,rfl⟩,fL.lookup,h⟩))
noncomputable def rR(w:bG)(b:Bool):Nat:=if mj w then 0 else((nA w b).place[0]?).getD 0+1
theorem G8{α:Type}(f:Nat->Nat)(x:α):pickOrder f #[x] = #[x]:=by
 have h:∀k,k=0->(match [x][k]? with | some y=>pickOrder.go f 0 1 ([x].eraseIdx k) (#[].push y) | none => #[]) = #[x]:=λk e=>by subst e;rfl
 exact h _ (Nat.mod_one _)
theorem rW{M:rI}{α:Type}{c:Bool}{X Y:tn α}{P:α->ag->Prop}(hc:c=false)(hY:aq M A Y P E s):aq M A (if c=true then X else Y) P E s:=by rw [hc,if_neg aX];exact hY
theorem Ds{M:rI}{α:Type}{c:Bool}{X Y:tn α}{P:α->ag->Prop}(hc:c=true)(hX:aq M A X P E s):aq M A (if c=true then X else Y) P E s:=by rw [hc,if_pos rfl];exact hX
theorem sw{D:aB}{b:Bool}(hD:s.heap.get? D=some (uv w b)){g slot:Nat}{Q:Option (af × Nat)->ag->Prop}(hg:(g=0/\slot=0)\/(g=1/\slot=rR w b))
  (h:Q (if g=0 then some (.bool b,rR w b)else none) s):aq (aw pw w) A (setNext D slot g 1) Q E s:=by
 obtain⟨t1,t2,t3,t4,t5,j,t6,t7⟩:=oQ w b
 unfold setNext AQ
 refine aa (dQ hD rfl t3 (aa (aa (gO (ab ?_)))))
 cases hbt:mj w with
 | true=>
  have hn:rR w b=0:=by unfold rR;rw [hbt,if_pos rfl]
  refine Ds hbt ?_
  refine rW (by decide) ?_
  refine aa ?_
  unfold setWalk AQ
  refine aa (dQ hD rfl t3 (aa (aa (gO (ab ?_)))))
  refine Ds hbt ?_
  refine aa (gO (ab ?_))
  try dsimp only
  rw [G8]
  rcases hg with ⟨rfl,rfl⟩ | ⟨rfl,rfl⟩
  ·rw [if_pos rfl,hn]at h
   exact ab h
  ·rw [if_neg (by decide)]at h
   exact ab h
 | false=>
  have hn:rR w b=j+1:=by unfold rR;rw [hbt,t6];rfl
  refine rW hbt ?_
  refine rW ?_ ?_
  ·show(!(nA w b).plain&&decide ((1:Nat)>1))=false
   rw [t1];rfl
  refine aa ?_
  show aq _ _ (if(!(nA w b).led && !(#[(hB b,dT b)]).isEmpty)=true then _ else _) _ _ _
  refine rW (by rw [t4,hbt];rfl) (ab ?_)
  rcases hg with ⟨rfl,rfl⟩ | ⟨rfl,rfl⟩
  ·rw [if_pos rfl,hn]at h
   rw [t5]
   show aq _ _ (b8 (match (#[(hB b,dT b)])[0]?,(nA w b).place[0]? with | some (_,x),some j=>some (x,j+1) | _,_=>none)) Q E s
   rw [t6]
   exact ab h
  ·rw [if_neg (by decide)]at h
   rw [hn,t7]
   exact ab h
theorem GI{D J:aB}{b:Bool}(hD:s.heap.get? D=some (uv w b))(hJ:s.heap.get? J=some (mc D 0 0)){Q:Option af->ag->Prop}
  (h:∀h',sm J s.heap h'->h'.get? J=some (mc D (rR w b) 1)->Q (some (.bool b)) { s with heap:=h' }):aq (aw pw w) A (fQ (.ref J)) Q E s:=by
 obtain⟨t1,t2,t3,t4,t5,j,t6,t7⟩:=oQ w b
 unfold fQ
 refine aa (nR (gN (name:=em "__next__") ⟨_,hJ,rfl⟩ fL
  (ei fL ⟨_,hJ,rfl⟩ lr ?_ (lU _))))
 unfold Builtin.«set_iterator.__next__» Mv
 refine aa (ab ?_)
 refine aa (wpAny_fieldsOf hJ rfl ?_)
 try dsimp only
 refine aa (aa (dQ hD rfl t3 (ab ?_)))
 refine rW (by rfl) ?_
 try dsimp only
 refine aa (sw hD (av ⟨rfl,rfl⟩) ?_)
 rw [if_pos (show tZ 0=0 from rfl)]
 try dsimp only
 have e1:(s.heap.update J (rB λvs=>vs.setIfInBounds 0 (gD (rR w b)))).get? J=some (mc D (rR w b) 0):=cz (h:=s.heap) _ hJ rfl
 have e2:((s.heap.update J (rB λvs=>vs.setIfInBounds 0 (gD (rR w b)))).update J (rB λvs=>vs.setIfInBounds 1 (gD (0+1)))).get? J=some (mc D (rR w b) 1):=cz _ e1 rfl
 refine aa (AN hJ rfl (by simp) ?_)
 refine aa (AN (s:={ s with heap:=s.heap.update J (rB λvs=>vs.setIfInBounds 0 (gD (rR w b))) }) e1 rfl (by simp) ?_)
 exact ab ⟨_,rfl,ab (h _ ((jP ..).trans (jP ..)) e2)⟩
theorem J2(hh:A.handled=none){D J:aB}{b:Bool}(hD:s.heap.get? D=some (uv w b))(hJ:s.heap.get? J=some (mc D (rR w b) 1)){Q:Option af->ag->Prop}
  (h:∀h',CW J s.heap h'->Q none { s with heap:=h' }):aq (aw pw w) A (fQ (.ref J)) Q E s:=by
 obtain⟨t1,t2,t3,t4,t5,j,t6,t7⟩:=oQ w b
 unfold fQ
 refine aa (nR (gN (name:=em "__next__") ⟨_,hJ,rfl⟩ fL
  (ei fL ⟨_,hJ,rfl⟩ lr ?_ (lU _))))
 unfold Builtin.«set_iterator.__next__» Mv
 refine aa (ab ?_)
 refine aa (wpAny_fieldsOf hJ rfl ?_)
 try dsimp only
 refine aa (aa (dQ hD rfl t3 (ab ?_)))
 refine rW (by rfl) ?_
 try dsimp only
 refine aa (sw hD (am ⟨rfl,rfl⟩) ?_)
 rw [if_neg (by decide)]
 try dsimp only
 refine aa (AN hJ rfl (by simp) ?_)
 refine aa ?_
 simp only [newExc,newTuple]
 refine aa (ce ?_ (by size_fits))
 refine aa (m:=firstArgMember _ _) (cF (a:=Value.none) (by first | rfl | (simp only [firstArgMember];rfl)) ?_)
 refine ce ?_ (by size_fits)
 refine aa (m:=PySem.handled) (wpAny_handled ?_)
 rw [show A.in1.handled=none from hh]
 refine aa (ab (wpAny_throw ?_))
 refine aa (kR (T:="StopIteration") (b:=true) ⟨_,aU _ rfl,rfl⟩ AT ?_)
 exact ab (h _ (((jP ..).extBut.push _).push _))
theorem Br(hh:A.handled=none){D:aB}{b:Bool}(hD:s.heap.get? D=some (uv w b)){Q:List af->ag->Prop}(h:∀h',(∀a o,s.heap.get? a=some o->h'.get? a=some o)->Q [.bool b] { s with heap:=h' }) :
  aq (aw pw w) A (unpackItems (.ref D) 1 none) Q E s:=by
 have hne:D≠s.heap.objs.size:=dU (c7 hD)
 have old:∀{h1 h2:fv},(∀a o,s.heap.get? a=some o->h1.get? a=some o)->CW s.heap.objs.size h1 h2->∀a o,s.heap.get? a=some o->h2.get? a=some o:=λk x a o e=>x a o (dU (c7 e)) (k a o e)
 unfold unpackItems
 refine aa ?_
 unfold notIterableAtAll
 refine aa (gn ⟨_,hD,rfl⟩ nv.lookup ?_)
 refine ab ?_
 simp only [a8,if_false]
 refine aa (aY (GJ hD ?_))
 have eJ:(s.heap.push (mc D 0 0)).get? s.heap.objs.size=some (mc D 0 0):=aU _ rfl
 have k0:∀a o,s.heap.get? a=some o->(s.heap.push (mc D 0 0)).get? a=some o:=λa o e=>au _ e
 refine aa (aY ?_)
 refine aa (GI (s:={ s with heap:=s.heap.push (mc D 0 0) }) (k0 _ _ hD) eJ λh1 hs1 eJ1=>?_)
 have k1:=old k0 hs1.extBut
 try dsimp only
 refine aa (aY ?_)
 refine ab (ab ?_)
 rw [if_neg (show ¬([dT b].length<1)from by simp)]
 refine aa (aY (J2 (s:={ s with heap:=h1 }) hh (k1 _ _ hD) eJ1 λh2 hs2=>?_))
 simp only [Option.isSome_none,a8,if_false]
 exact ab (h h2 (old k1 hs2))
noncomputable def GD(w:bG)(b:Bool)(done:List PV):jh:=if done.isEmpty then MU w else uv w b
theorem sv(w:bG)(b:Bool)(done:List PV):∀es ep,(GD w b done).data ≠ .dict es ep:=λes ep=>by
 unfold GD
 split<;>exact λq=>nomatch q
theorem yu(elt target iter:Expr)(ifs:List Expr)(scope:Scope)(pos:dS)(it acc:af)(env:d7) :
  compTurn (.SetComp elt [⟨target,iter,ifs,0⟩] scope pos) 0 it acc env=(do
   nG iter.pos
   match <-fQ it with
   | none=>b8 (.done .next)
   | some v=>
    c0 target it v
    iZ target env v
    let mut ok:=true
    for c in ifs do
     if ok then ok <-isTrue c env (ej c env)
    if ok then
     (do let v <-ej elt env;nG elt.pos;let _ <-call (.builtin "set.add") [acc,v])
    again (.compLoop (.SetComp elt [⟨target,iter,ifs,0⟩] scope pos) 0 it acc env)):=by rfl
theorem mC{elt target iter:Expr}{ifs:List Expr}{scope:Scope}{pos:dS}{it acc:af}{R:fS->ag->Prop}(I:Nat->ag->Prop)
  (turn:∀n s,I n s->aq (aw pw w) A (fQ it) (λr s₁=>match r with
   | none=>R (.ok .next) s₁
   | some v=>aq (aw pw w) A (iZ target env v) (λζ s₂=>
     aq (aw pw w) A (nI ifs true λc r=>if r=true then do let ok <-isTrue c env (ej c env);b8 (j4 ok)else b8 (j4 r)) (λok s₃=>
      if ok=true then aq (aw pw w) A (ej elt env) (λx s₄=>
       aq (aw pw w) A (call (.builtin "set.add") [acc,x]) (λζ s₅=>∃m,m<n/\I m s₅) (AE (aw pw w) A env λe s'=>R (.error e) s') s₄) (AE (aw pw w) A env λe s'=>R (.error e) s') s₃
      else ∃m,m<n/\I m s₃) (AE (aw pw w) A env λe s'=>R (.error e) s') s₂) (AE (aw pw w) A env λe s'=>R (.error e) s') s₁) (AE (aw pw w) A env λe s'=>R (.error e) s') s)
  (n:Nat)(h:I n s)(ht:∀v,c0 target it v=b8 ()) :
  cA (aw pw w) A (.compLoop (.SetComp elt [⟨target,iter,ifs,0⟩] scope pos) 0 it acc env) R s:=by
 refine codeAny_loop rfl I (λn s hI=>?_) n h
 show aq _ A ((compTurn (.SetComp elt [⟨target,iter,ifs,0⟩] scope pos) 0 it acc env).onRaise (λx=>do noteFrame x env;theTreesLotGoes x)) _ _ s
 refine wpAny_noted ?_
 rw [yu]
 refine aa (fh (aa (ar (turn n s hI) (λr s₁ h₁=>?_) λζ ζ h'=>h')))
 cases r with
 | none=>exact ab h₁
 | some v=>
  refine aa (cF (ht v) ?_)
  refine aa (ar h₁ (λζ s₂ h₂=>aa (ar h₂ (λok s₃ h₃=>?_) λζ ζ h'=>h')) λζ ζ h'=>h')
  cases ok with
  | false=>exact ab ⟨rfl,h₃⟩
  | true=>
   exact aa (aa (ar h₃ (λx s₄ h₄=>aa (fh (aa (ar h₄ (λζ s₅ h₅=>ab (ab ⟨rfl,h₅⟩)) λζ ζ h'=>h')))) λζ ζ h'=>h'))
theorem Cj{tgt iter elt:Expr}{ifs:List Expr}{sc:Scope}{pos:dS}{it:af}{D:aB}{cenv:d7}{RR:fS->ag->Prop}(hnm:qm tgt=true):rA w A (.SetComp elt [⟨tgt,iter,ifs,0⟩] sc pos) tgt elt ifs it D "set.add" cenv RR:=λInv turn n s h=>
 mC Inv (λk s h=>turn _ _ _ _ _ k s h (λs' h=>h) (λv s' h=>h) (λs' h=>h) (λs' h=>h) (λu s' h=>h) (λm s' a b=>⟨m,a,b⟩)) n h (λv=>yd hnm _ _)
noncomputable def VM(w:bG)(b:Bool)(D:aB)(done:List PV)(I:dB)(ρ:dI)(s:ag):Prop:=s.heap.get? D=some (GD w b done) /\ ¬fK I ρ D
theorem Ly{D:aB}{ys:List PV}{b:Bool}(hall:∀y∈ys,y = .bool b):QN H0 w A D "set.add" ys (VM w b D) where
 keep:=λdone I ρ s I' ρ' R' s' X0 Z0 h x hx hz=>x.held h.1 (sv w b done) h.2 hx hz
 add:=by
  intro done v r u I ρ R s E Q hys G h hu k
  obtain⟨h1,h2⟩:=h
  have hvb:v = .bool b:=hall v (by rw [hys];exact cf _ aj)
  rw [hvb]at hu
  have fin:∀h7,(∀a,a≠D->h7.get? a=s.heap.get? a)->h7.get? D=some (uv w b)->Q { s with heap:=h7,toks:=s.toks+1 }:=λh7 hs7 hl7=>
   k _ (aR.quiet G (λa ha=>ha▸h2) (λa o ha e=>(hs7 a ha).trans e) rfl rfl (λa ha=>ha▸G.notStk h1 (sv w b done))) ⟨hl7.trans (by unfold GD;cases done<;>rfl),h2⟩
  refine hu.bool_el ?_
  cases done with
  | nil=>exact GL h1 λh7 hs7 hl7=>fin h7 hs7.2 hl7
  | cons d ds=>exact GK h1 (fin s.heap (λζ ζ=>rfl) h1)
theorem nE{elt target iter:Expr}{ifs:List Expr}{scope:Scope}{pos:dS}{it acc:af}{R:fS->ag->Prop}
  (h0:cA (aw pw w) A (.compLoop (.SetComp elt [⟨target,iter,ifs,0⟩] scope pos) 0 it acc env) R s)
  (h:aq (aw pw w) A (mP it) (λit' s'=>cA (aw pw w) A (.compLoop (.SetComp elt [⟨target,iter,ifs,0⟩] scope pos) 0 it' acc env) R s')
   (AE (aw pw w) A env λx s'=>R (.error x) s') s) :
  cA (aw pw w) A (.compStart (.SetComp elt [⟨target,iter,ifs,0⟩] scope pos) 0 it acc env) R s:=by
 refine qt ?_
 show aq _ _ ((compStart (.SetComp elt [⟨target,iter,ifs,0⟩] scope pos) 0 it acc env).onRaise (λx=>do noteFrame x env;nG theWindowsPlace)) _ _ s
 refine wpAny_notedAt ?_
 unfold compStart
 show aq _ _ (ask>>=_) _ _ s
 refine aa (gO (wpAny_ite ?_))
 split
 ·first
   | exact aa (ab (ab (t9 rfl h0)))
   | exact ab (t9 rfl h0)
 ·first
   | exact aa (iX (aa (fh (aa (ar h (λit' s' h'=>ab (t9 rfl h')) λζ ζ x=>x)))))
   | (refine aa (iX ?_);show aq _ _ (nG iter.pos>>=_) _ _ s;exact aa (fh (aa (ar h (λit' s' h'=>ab (t9 rfl h')) λζ ζ x=>x))))
theorem Ci{b:Bool}{tgt iter elt:Expr}{ifs:List Expr}{sc:Scope}{pos:dS}{it:af}{St:List PV->dB->dI->ag->Prop}{use:Option (af->tn Unit)}{Q:af->ag->Prop}{l ys:List PV}{F:AB}
  (hR:cE H0 A (n+1))(K:Ay cx σ sc)(G:Gd H0 I ρ R s.heap)(O:b5 I ρ cx σ env s.heap)(hZF:∀a,Z a->¬kL env a)(its:Jb H0 w A tgt it Z St)(st:St l I ρ s)
  (htst:∀σ R,aA (wj H0 w n ⟨sc.names,cx.base⟩ ifs σ R) (F.tvs ⟨sc.names,cx.base⟩ .And ifs σ R))(helt:∀σ R,aA (tU H0 w n ⟨sc.names,cx.base⟩ elt σ R) (F.ev ⟨sc.names,cx.base⟩ elt σ R))(hnm:cL tgt=true)
  (hm:mf (nt F ⟨sc.names,cx.base⟩ tgt elt ifs (eU sc.names σ)) l R=some (ys,R'))(hall:∀y∈ys,y = .bool b)
  (hQ:∀I' ρ' s' C D m',s.heap.get? C=none->s.heap.get? D=none->C≠D->aR H0 eg (λa=>Z a\/a=D\/a=C) I ρ s I' ρ' R' s'->s'.heap.Ns C m'->¬fK I' ρ' C->VM w b D ys I' ρ' s'->rF (aw pw w) A E use Q (.ref D) C (.ok .next) s') :
  aq (aw pw w) A (newSet (.type "set")) (λacc s3=>aq (aw pw w) A (kl sc env.globals (iS env sc.names []) [] env.qual none .none (some env)) (λcenv s4=>
    cA (aw pw w) A (.compStart (.SetComp elt [⟨tgt,iter,ifs,0⟩] sc pos) 0 it acc { cenv with scope:=relabel sc env }) (rF (aw pw w) A E use Q acc cenv.locals) s4) E s3) E s:=by
 unfold newSet AQ
 refine aa (aa (gO (ab ?_)))
 exact ce (xd (F:=F) (o:=MU w) hR K G O hZF its st htst helt hnm hm rfl rfl (Ly hall) (λs' e h=>⟨e,h⟩) (λζ ζ=>Cj (rU hnm)) (λcenv RR s4 h0 h=>nE h0 (h _)) λI' ρ' s' C m' hC hD hCD x hns hCo hac=>hQ I' ρ' s' C _ m' hC hD hCD x hns hCo hac)
theorem B9{tgt iter elt:Expr}{ifs:List Expr}{sc:Scope}{pos spos px tp:dS}{k:Nat}{x:Str}{l ys:List PV}{b:Bool}{F:AB}(K0:qN cx σ sc=true)(hi:FZ H0 w n cx tgt iter σ R l σ R1)
  (htst:∀σ R,aA (wj H0 w n ⟨sc.names,cx.base⟩ ifs σ R) (F.tvs ⟨sc.names,cx.base⟩ .And ifs σ R))(helt:∀σ R,aA (tU H0 w n ⟨sc.names,cx.base⟩ elt σ R) (F.ev ⟨sc.names,cx.base⟩ elt σ R))(hnm:cL tgt=true)
  (hm:mf (nt F ⟨sc.names,cx.base⟩ tgt elt ifs (eU sc.names σ)) l R1=some (ys,R2))(hne:ys≠[])(hall:∀y∈ys,y = .bool b)(hs:qL cx σ x (.bool b)=some σ') :
  yT H0 w n cx (.Assign [.Tuple [.Name x px] k tp] (.SetComp elt [⟨tgt,iter,ifs,0⟩] sc pos) spos) σ R .next σ' R2:=by
 intro A E I ρ env s hR G O
 have K:=rL K0
 refine sP ?_ rfl rfl
 show aq _ A (comprehension (.SetComp elt [⟨tgt,iter,ifs,0⟩] sc pos) sc env (firstIterPos [⟨tgt,iter,ifs,0⟩] pos) (newSet (.type "set")) false (ej iter env)) _ E s
 refine nQ (use:=none) rfl (hi.1 env) (lc K O).1 K.kind (λx hx hl=>by rw [K.uniq x hx,hl]) (ar (hi.2 A _ I ρ env s hR G O) (λu s1 q=>ar q (λit s2 q=>?_) λζ ζ e=>e) λζ ζ e=>e)
 obtain⟨I2,ρ2,Z,St,its,st,x2,O2,hz⟩:=q
 refine Ci (b:=b) hR K x2.good O2 (λa ha hf=>O.alive a hf (hz a ha)) its st htst helt hnm hm hall λI' ρ' s' C D m' hC hD hCD x' hns hCo hac=>⟨m',hns,λh' hs'=>?_⟩
 have hDs':h'.get? D=some (uv w b):=(hs'.2 D (dg hCD)).trans (hac.1.trans (by unfold GD;cases ys<;>first | exact absurd rfl hne | rfl))
 have x7:a9 H0 eg I ρ s I' ρ' R2 { s' with heap:=h' }:=aR.close G x2 (x'.trans x2.good (aR.moreZ (Z:=λa=>a=C) (aR.quiet x'.good (λa ha=>ha▸hCo) (λa o ha e=>(hs'.2 a ha).trans e) rfl rfl (λa ha=>ha▸x2.good.freshStk hC)) λa ha=>am (am ha)))
  λa ha=>ha.elim (hz a) λha=>ha.elim (λe=>e▸mE x2 hD) λe=>e▸mE x2 hC
 show aq _ A (iZ (.Tuple [.Name x px] k tp) env (.ref D)) _ E _
 rw [arm_assign_Tuple]
 refine aa (fh ?_)
 unfold unpack
 refine aa (aY (Br (s:={ s' with heap:=h' }) hR.1 hDs' λh2 hk2=>?_))
 have x9:=x7.trans G (a9.quiet (s':={ s' with heap:=h2 }) x7.good m6 (λa o ζ e=>hk2 a o e) (λζ h=>h.elim) rfl rfl)
 refine ME (ar (pj (v:=.bool b) x9.good (O.step x9) hs jr) (λζ s5 q=>?_) λζ ζ e=>e)
 obtain⟨I5,ρ5,x5,O5⟩:=q
 exact assignInOrder_nil ⟨I5,ρ5,x9.weaken.trans G x5,O5,rfl⟩
theorem dA.mono{n0:Nat}(h:dA H0 w n0 sp)(hn:n0<=n):dA H0 w n sp:=λf pos kw R v R' e A E I ρ s pvs kvs hR G hp hk=>h f pos kw R v R' e A E I ρ s pvs kvs (hR.le hn) G hp hk
noncomputable def QT:EV->Bool
 | .oth=>false
 | .slice _ _ _=>false
 | .lam _ _ _=>false
 | .setc _ _ _=>false
 | _=>true
noncomputable def BX:EV->Bool
 | .listc _ _ _=>true
 | _=>false
structure WO(e:Expr):Prop where
 star:eL e=true
 marks:∀op,nU op e=false
 sub:∀o k,lz e false o k=vL [o,k] (lw o k)
 swap:BX (jE e)=false->∀(t:Option Expr) (line:Nat) (env:d7),xl e t line env=b8 false
theorem ol(e:Expr):QT (jE e)=true->WO e:=by
 intro h
 have k:(BX (jE e)=false->∀(t:Option Expr) (line:Nat) (env:d7),xl e t line env=b8 false)/\eL e=true/\(∀op,nU op e=false) /\ ∀o k,lz e false o k=vL [o,k] (lw o k):=by
  refine fD (C:=λe v=>QT v=true->(BX v=false->∀(t:Option Expr) (line:Nat) (env:d7),xl e t line env=b8 false)/\eL e=true/\(∀op,nU op e=false) /\ ∀o k,lz e false o k=vL [o,k] (lw o k)) e ?_ ?_ ?_ ?_ ?_ ?_ ?_ ?_ ?_ ?_ ?_ ?_ ?_ ?_ ?_ ?_ ?_ h
  all_goals first
   | exact λζ h=>d9 h
   | exact λζ ζ h=>d9 h
   | exact λζ ζ ζ h=>d9 h
   | exact λζ ζ ζ ζ h=>d9 h
   | exact λζ ζ ζ=>⟨λζ ζ ζ ζ=>rfl,rfl,λζ=>rfl,λζ ζ=>rfl⟩
   | exact λζ ζ ζ ζ=>⟨λζ ζ ζ ζ=>rfl,rfl,λζ=>rfl,λζ ζ=>rfl⟩
   | exact λζ ζ ζ ζ ζ=>⟨λζ ζ ζ ζ=>rfl,rfl,λζ=>rfl,λζ ζ=>rfl⟩
   | exact λζ ζ ζ ζ ζ=>⟨λh=>(nomatch h),rfl,λζ=>rfl,λζ ζ=>rfl⟩
 exact⟨k.2.1,k.2.2.1,k.2.2.2,k.1⟩
inductive FI(H0:Bs)(w:bG)(n:Nat)(cx:Cx)(elt:Expr)(gs:List fJ)(sc:Scope)(σ:br)(R:List aN)(y:List PV × List aN):Prop
 | mk (t it:Expr) (ifs:List Expr) (l:List PV) (R1:List aN) (F:AB) (e:gs=[⟨t,it,ifs,0⟩]) (ht:cL t=true) (hs:qN cx σ sc=true) (hi:FZ H0 w n cx t it σ R l σ R1) (htst:∀σ R,aA (wj H0 w n ⟨sc.names,cx.base⟩ ifs σ R) (F.tvs ⟨sc.names,cx.base⟩ .And ifs σ R))
   (helt:∀σ R,aA (tU H0 w n ⟨sc.names,cx.base⟩ elt σ R) (F.ev ⟨sc.names,cx.base⟩ elt σ R)) (hm:mf (nt F ⟨sc.names,cx.base⟩ t elt ifs (eU sc.names σ)) l R1=some (y.1,y.2)):FI H0 w n cx elt gs sc σ R y
noncomputable def Qm(H0:Bs)(w:bG)(n:Nat)(cx:Cx)(σ:br)(R:List aN)(v:EV)(y:PV × List aN):Prop:=match v with
 | .listc elt gs sc=>∃ys,y.1 = .list ys/\ys.length<=SZ/\FI H0 w n cx elt gs sc σ R (ys,y.2)
 | _=>True
structure LC(H0:Bs)(w:bG)(n:Nat)(cx:Cx)(e:Expr)(σ:br)(R:List aN)(y:PV × List aN):Prop where
 s:dP H0 w n cx e σ R y.1 y.2
 ok:QT (jE e)=true
 c:Qm H0 w n cx σ R (jE e) y
inductive Op(H0:Bs)(w:bG)(n:Nat)(cx:Cx)(l:Expr)(σ:br)(R:List aN)(y:Bool × List aN):List mU->List Expr->Prop
 | mk (op:mU) (r:Expr) (h:Oo H0 w n cx l op r σ R y.1 y.2):Op H0 w n cx l σ R y [op] [r]
noncomputable def Ql(H0:Bs)(w:bG)(n:Nat)(cx:Cx)(σ:br)(R:List aN)(es:List Expr)(y:List PV × List aN):Prop:=match es with
 | []=>y=([],R)
 | e::r=>r=[]->∃a,y.1=[a]/\dP H0 w n cx e σ R a y.2
structure wm(H0:Bs)(w:bG)(n:Nat)(cx:Cx)(es:List Expr)(σ:br)(R:List aN)(y:List PV × List aN):Prop where
 s:qr H0 w n cx es σ R y.1 y.2
 ok:∀e∈es,eL e=true
 len:y.1.length=es.length
 sh:Ql H0 w n cx σ R es y
noncomputable def Qw(H0:Bs)(w:bG)(n:Nat)(cx:Cx)(σ:br)(R:List aN)(op:BoolOp)(es:List Expr)(y:Bool × List aN):Prop:=FF H0 w n cx op es σ R y.1 y.2
structure QC(H0:Bs)(w:bG)(n:Nat)(cx:Cx)(σ:br)(R:List aN)(ks:List cQ)(y:List (Str × PV) × List aN):Prop where
 s:Jh H0 w n cx ks σ R y.1 y.2
 nil:ks=[]->y=([],R)
noncomputable def QA(H0:Bs)(w:bG)(n:Nat)(cx:Cx)(σ:br)(R:List aN)(e:Option Expr)(y:Option Int × List aN):Prop:=Jg H0 w n cx e σ R y.1 y.2
noncomputable def VK(H0:Bs)(w:bG)(n:Nat)(cx:Cx)(σ:br)(R:List aN)(tgt e:Expr)(y:List PV × List aN):Prop:=FZ H0 w n cx tgt e σ R y.1 σ y.2
noncomputable def QM(H0:Bs)(w:bG)(n:Nat)(cx:Cx)(σ:br)(R:List aN)(tgt e:Expr)(y:List PV × br × List aN):Prop:=FZ H0 w n cx tgt e σ R y.1 y.2.1 y.2.2
structure QB(H0:Bs)(w:bG)(n:Nat)(cx:Cx)(σ:br)(R:List aN)(e:Expr)(y:PV × List aN):Prop where
 s:dP H0 w n cx e σ R y.1 y.2
 ok:eL e=true
structure Mt(H0:Bs)(w:bG)(n:Nat)(cx:Cx)(σ:br)(R:List aN)(es:List Expr)(y:List PV × List aN):Prop where
 s:qr H0 w n cx es σ R y.1 y.2
 ok:∀e∈es,eL e=true
structure All(H0:Bs)(w:bG)(n:Nat)(F:AB):Prop where
 ev:∀cx e σ R,aA (LC H0 w n cx e σ R) (F.ev cx e σ R)
 callv:∀cx g np args kws pos σ R,gl cx g=true->aA (tU H0 w n cx (.Call (.Name g np) args kws pos) σ R) (F.callv cx (lT (ff g) args kws) args kws σ R)
 orv:∀cx op es pos σ R,aA (tU H0 w n cx (.BoolOp op es pos) σ R) (F.orv cx op es σ R)
 sbv:∀cx ve x i pos σ R R1,dP H0 w n cx ve σ R x R1->(cL ve||mh x)=true->aA (tU H0 w n cx (.Subscript ve i pos) σ R) (F.sbv cx x i σ R1)
 cmpv:∀cx elt gs sc σ R,aA (FI H0 w n cx elt gs sc σ R) (F.cmpv cx elt gs sc σ R)
 cp:∀cx l ops rs σ R,aA (λy=>Op H0 w n cx l σ R y ops rs) (F.cp cx l ops rs σ R)
 tv:∀cx e σ R,aA (Om H0 w n cx e σ R) (F.tv cx e σ R)
 tvs:∀cx op es σ R,aA (Qw H0 w n cx σ R op es) (F.tvs cx op es σ R)
 tst:∀cx es σ R,aA (wj H0 w n cx es σ R) (F.tvs cx .And es σ R)
 evs:∀cx es σ R,aA (wm H0 w n cx es σ R) (F.evs cx es σ R)
 evk:∀cx ks σ R,aA (QC H0 w n cx σ R ks) (F.evk cx ks σ R)
 evo:∀cx e σ R,aA (QA H0 w n cx σ R e) (F.evo cx e σ R)
 itv:∀cx tgt e σ R,(iI cx e=true->fy tgt=true)->aA (VK H0 w n cx σ R tgt e) (F.itv cx e σ R)
 evm:∀cx e σ R,aA (QB H0 w n cx σ R e) (F.evm cx e σ R)
 evms:∀cx es σ R,aA (Mt H0 w n cx σ R es) (F.evms cx es σ R)
 ex:∀cx s σ R,aA (AC H0 w n cx s σ R) (F.ex cx s σ R)
 forIt:∀cx tgt e σ R,(iI cx e=true->fy tgt=true)->aA (QM H0 w n cx σ R tgt e) (F.forIt cx e σ R)
 asg:∀cx t e pos σ R,aA (AC H0 w n cx (.Assign [t] e pos) σ R) (F.asg cx t e σ R)
 aug:∀cx t op e pos σ R,aA (AC H0 w n cx (.AugAssign t op e pos) σ R) (F.aug cx t op e σ R)
 exs:∀cx ss σ R,aA (CH H0 w n cx ss σ R) (F.exs cx ss σ R)
variable {F:AB}
theorem LC.star{y:PV × List aN}(h:LC H0 w n cx e σ R y):eL e=true:=(ol e h.ok).star
theorem LC.one{y:PV × List aN}(h:LC H0 w n cx e σ R y)(env:d7):bU [e] env=[(false,ej e env)]:=gg h.star
theorem wm.one{es:List Expr}{a:PV}(h:wm H0 w n cx es σ R ([a],R1)):∃e,es=[e]/\eL e=true/\dP H0 w n cx e σ R a R1:=by
 obtain⟨e,rfl⟩:=AH.mp h.len.symm
 obtain⟨b,q1,q2⟩:=h.sh rfl
 exact⟨e,rfl,h.ok e aj,(jJ q1).1▸q2⟩
theorem wm.nil{es:List Expr}(h:wm H0 w n cx es σ R ([],R1)):es=[]/\R1=R:=by
 obtain⟨_,h2,h3,h4⟩:=h
 cases es with
 | nil=>exact⟨rfl,(eR h4).2⟩
 | cons e r=>cases h3
theorem P3(H:All H0 w n F)(cx:Cx)(es:List Expr)(σ:br)(R:List aN):aA (wm H0 w n cx es σ R) (PD F cx es σ R):=by
 cases es with
 | nil=>exact aA.some ⟨tO,λe he=>(nomatch he),rfl,rfl⟩
 | cons e es=>
  show aA _ (bnd (F.ev cx e σ R) λv R1=>bnd (F.evs cx es σ R1) λvs R2=>some (v::vs,R2))
  refine aA.bnd (H.ev cx e σ R) λv R1 h1=>aA.bnd (H.evs cx es σ R1) λvs R2 h2=>aA.some ⟨ri h1.s h2.s λenv=>gg h1.star,iA.mpr ⟨h1.star,h2.ok⟩,congrArg Nat.succ h2.len,λe=>?_⟩
  subst e
  obtain⟨q1,q2⟩:=eR h2.sh
  exact⟨v,congrArg (v :: ·) q1,q2▸h1.s⟩
theorem Np(H:All H0 w n F)(cx:Cx)(es:List Expr)(σ:br)(R:List aN):aA (Mt H0 w n cx σ R es) (LZ F cx es σ R):=by
 cases es with
 | nil=>exact aA.some ⟨tO,λe he=>nomatch he⟩
 | cons e es=>
  show aA _ (bnd (F.evm cx e σ R) λv R1=>bnd (F.evms cx es σ R1) λvs R2=>some (v::vs,R2))
  exact aA.bnd (H.evm cx e σ R) λv R1 h1=>aA.bnd (H.evms cx es σ R1) λvs R2 h2=>aA.some ⟨ri h1.s h2.s λenv=>gg h1.ok,iA.mpr ⟨h1.ok,h2.ok⟩⟩
set_option tactic.hygienic true in
theorem Aj{es:List Expr}(h:rV e=some es):∃p,e = .List es p:=by
 refine fD (C:=λe v=>Md v=some es->∃p,e = .List es p) e ?_ ?_ ?_ ?_ ?_ ?_ ?_ (λl p h=>⟨p,aW h▸rfl⟩) ?_ ?_ ?_ ?_ ?_ ?_ ?_ ?_ ?_ h
 all_goals (intros;rename_i h;exact(gF h).elim)
theorem P5(H:All H0 w n F)(cx:Cx)(e:Expr)(σ:br)(R:List aN):aA (QB H0 w n cx σ R e) (PF F cx e σ R):=
 aA.optO (λζ=>(H.ev cx e σ R).mono λy h=>⟨h.s,h.star⟩) λes he=>aA.bnd (H.evms cx es σ R) λvs R1 h=>aA.grd λhl=>aA.some (by
  obtain⟨p,rfl⟩:=Aj he
  exact⟨La h.s (of_decide_eq_true hl),rfl⟩)
theorem P6(H:All H0 w n F)(cx:Cx)(ks:List cQ)(σ:br)(R:List aN):aA (QC H0 w n cx σ R ks) (PG F cx ks σ R):=by
 cases ks with
 | nil=>exact aA.some ⟨K4,λζ=>rfl⟩
 | cons k ks=>
  obtain⟨a,e,p⟩:=k
  cases a with
  | none=>exact aA.none
  | some x=>
   show aA _ (bnd (F.ev cx e σ R) λv R1=>bnd (F.evk cx ks σ R1) λvs R2=>some ((x,v)::vs,R2))
   exact aA.bnd (H.ev cx e σ R) λv R1 h1=>aA.bnd (H.evk cx ks σ R1) λvs R2 h2=>aA.some ⟨Ib h1.s h2.s,λh=>nomatch h⟩
theorem P4(H:All H0 w n F)(cx:Cx)(e:Option Expr)(σ:br)(R:List aN):aA (QA H0 w n cx σ R e) (PE F cx e σ R):=by
 cases e with
 | none=>exact aA.some H9
 | some e=>
  show aA _ (bnd (F.ev cx e σ R) λv R1=>nC v none λi=>some (some i,R1))
  exact aA.bnd (H.ev cx e σ R) λv R1 h1=>KJ (λv=>dP H0 w n cx e σ R v R1) h1.s λi h=>aA.some (H8 h)
theorem PX(H:All H0 w n F)(cx:Cx)(op:BoolOp)(es:List Expr)(σ:br)(R:List aN):aA (Qw H0 w n cx σ R op es) (Nd F cx op es σ R):=by
 cases es with
 | nil=>exact aA.some (JQ (by cases op;exact av rfl;exact am rfl))
 | cons e es=>
  show aA _ (bnd (F.tv cx e σ R) λb R1=>bif b==(op == .Or)then some (b,R1)else F.tvs cx op es σ R1)
  exact aA.bnd (H.tv cx e σ R) λb R1 h1=>aA.bif (λhb=>aA.some (kZ h1 hb)) λhb=>(H.tvs cx op es σ R1).mono λy h2=>nY h1 hb h2
theorem PY(H:All H0 w n F)(cx:Cx)(es:List Expr)(σ:br)(R:List aN):aA (wj H0 w n cx es σ R) (Nd F cx .And es σ R):=by
 cases es with
 | nil=>exact aA.some JR
 | cons e es=>
  show aA _ (bnd (F.tv cx e σ R) λb R1=>bif b==(BoolOp.And == .Or)then some (b,R1)else F.tvs cx .And es σ R1)
  refine aA.bnd (H.tv cx e σ R) λb R1 h1=>?_
  cases b with
  | false=>exact aA.some (Gn h1)
  | true=>exact(H.tst cx es σ R1).mono λy h2=>MQ h1 h2
theorem Bc(h1:dP H0 w n cx e σ R v R1){c:Bool}(hc:qh R1 v=some c)(he:∀(env:d7) (whole:tn af),isTrue e env whole=(do let v <-whole;nG e.pos;km [v] (F1 v))):CA H0 w n cx e σ R c R1:=by
 intro A E I ρ env s hR G O
 refine wpAny_isTrue_value (h1.then hR G O λI1 ρ1 u s1 x1 hu O1 G1=>?_) (he env _)
 exact ar (zg vo G1 hc hu) (λζ ζ q=>ry.mono_ G x1 q) λζ ζ e=>e
theorem Dn(H:All H0 w n F)(he:∀(env:d7) (whole:tn af),isTrue e env whole=(do let v <-whole;nG e.pos;km [v] (F1 v))):aA (Om H0 w n cx e σ R) (wy F cx e σ R):=
 aA.bnd (H.ev cx e σ R) λv R1 h1=>aA.ret λb hb=>Bc h1.s hb he
set_option tactic.hygienic true in
theorem UU(H:All H0 w n F)(cx:Cx)(e:Expr)(σ:br)(R:List aN):aA (Om H0 w n cx e σ R) (UP F cx e σ R):=
 fD (C:=λe v=>aA (Om H0 w n cx e σ R) (Vh F cx v e σ R)) e (λζ=>aA.none) (λζ ζ=>Dn H λζ ζ=>rfl) (λζ ζ ζ=>Dn H λζ ζ=>rfl) (λζ ζ ζ ζ=>Dn H λζ ζ=>rfl) (λζ ζ ζ=>Dn H λζ ζ=>rfl) (λζ ζ ζ ζ=>aA.none) (λζ ζ ζ=>aA.none) (λζ ζ=>aA.none)
  (λζ ζ ζ ζ=>aA.none) (λζ ζ ζ ζ=>aA.none) (λζ ζ ζ ζ=>aA.none) (λop x p=>by
   cases op
   case Not=>
    show aA _ (bnd (F.tv cx x σ R) λc R1=>some (!c,R1))
    exact aA.bnd (H.tv cx x σ R) λc R1 h=>aA.some (Be h)
   all_goals exact aA.none) (λζ ζ ζ ζ=>aA.none) (λop es p=>(H.tvs cx op es σ R).mono λy h=>Gm h) (λl ops rs p=>(H.cp cx l ops rs σ R).mono λy h=>by
   obtain⟨op,r,hc⟩:=h
   exact ja hc) (λζ ζ ζ=>aA.none) (λζ ζ ζ ζ=>aA.none)
theorem GB{γ:Type}{C:Expr->γ->Prop}{d:γ}{k:Str->Expr->γ}(e:Expr)(hd:∀e,C e d)(hk:∀g np a p,C (.Call (.Name g np) [a] [] p) (k g a)):C e (C2 e d k):=
 rp e hd λf as ks p=>ii (C:=λf y=>C (.Call f as ks p) y) f (λζ=>hd _) λg np=>fx (C:=λas y=>C (.Call (.Name g np) as ks p) y) as (λζ=>hd _) λa=>iv (C:=λks y=>C (.Call (.Name g np) [a] ks p) y) ks (λζ=>hd _) (hk g np a p)
theorem ED(h:yb r=true):∃k p,r = .Constant .none k p:=
 xc (C:=λr b=>b=true->∃k p,r = .Constant .none k p) (k:=λc=>match c with | .none=>true | _=>false) r (λζ=>d9) (λc k p h=>by cases c<;>first | exact⟨k,p,rfl⟩ | exact d9 h) h
theorem UX(B:dC w H0.heap)(H:All H0 w n F)(cx:Cx)(l:Expr)(ops:List mU)(rs:List Expr)(σ:br)(R:List aN):aA (λy=>Op H0 w n cx l σ R y ops rs) (Vy F cx l ops rs σ R):=
 fx (C:=λops o=>aA (λy=>Op H0 w n cx l σ R y ops rs) o) ops (λζ=>aA.none) λop=>fx (C:=λrs o=>aA (λy=>Op H0 w n cx l σ R y [op] rs) o) rs (λζ=>aA.none) λr=>aA.bif (λhs=>aA.grd λh1=>by
   obtain⟨q1,q2⟩:=eB h1
   obtain⟨ck,cp,rfl⟩:=ED q2
   cases aJ q1
   refine GB (C:=λl o=>uW cx l=true->aA (λy=>Op H0 w n cx l σ R y [.Is] [.Constant .none ck cp]) o) l (λζ ζ=>aA.none) (λg np a p hs=>?_) hs
   obtain⟨g1,g2⟩:=eB hs
   exact aA.bnd (H.ev cx a σ R) λv R1 h=>Oy (λv=>dP H0 w n cx a σ R v R1) h.s λx h1=>aA.some ⟨_,_,Fp B g1 (aJ g2) h1 h.one⟩)
  λζ=>aA.bnd (H.ev cx l σ R) λa R1 h1=>aA.bnd (H.ev cx r σ R1) λb R2 h2=>aA.ret λc hc=>⟨op,r,Mf h1.s h2.s hc ((ol r h2.ok).marks op)⟩
theorem P0(H:All H0 w n F)(cx:Cx)(op:BoolOp)(es:List Expr)(pos:dS)(σ:br)(R:List aN):aA (tU H0 w n cx (.BoolOp op es pos) σ R) (PB F cx op es σ R):=aA.grd λh=>by
 cases aJ h
 refine oP (C:=λes o=>aA (tU H0 w n cx (.BoolOp .Or es pos) σ R) o) es (λζ=>aA.none) λa b=>aA.bnd (H.ev cx a σ R) λx R1 h1=>aA.opt λc hc=>?_
 cases c with
 | true=>exact aA.some (Ig vo h1.s hc ⟨rfl,rfl⟩)
 | false=>exact(H.ev cx b σ R1).mono λy h2=>Ig vo h1.s hc h2.s
theorem No(H:All H0 w n F){ve:Expr}{x:PV}{i:Expr}{pos:dS}(h1:dP H0 w n cx ve σ R x R1)(hg:(cL ve||mh x)=true):aA (tU H0 w n cx (.Subscript ve i pos) σ R) (bnd (F.ev cx i σ R1) λu R2=>nC u none λk=>fM (wY R2 x k) R2):=
 aA.bnd (H.ev cx i σ R1) λu R2 h2=>KJ (λu=>dP H0 w n cx i σ R1 u R2) h2.s λk h3=>aA.ret λv hv=>K8 h1 hg h3 hv (ol i h2.ok).sub
theorem PZ(H:All H0 w n F)(cx:Cx)(ve:Expr)(x:PV)(i:Expr)(pos:dS)(σ:br)(R R1:List aN)(h1:dP H0 w n cx ve σ R x R1)(hg:(cL ve||mh x)=true):aA (tU H0 w n cx (.Subscript ve i pos) σ R) (PA F cx x i σ R1):=by
 refine fD (C:=λi v=>aA (tU H0 w n cx (.Subscript ve i pos) σ R) (OB F cx x i v σ R1)) i ?_ ?_ ?_ ?_ ?_ ?_ ?_ ?_ ?_ ?_ ?_ ?_ ?_ ?_ ?_ ?_ λa b c p=>tG (C:=λc o=>aA (tU H0 w n cx (.Subscript ve (.Slice a b c p) pos) σ R) o) c
  (aA.bnd (H.evo cx a σ R1) λi1 R2 h2=>aA.bnd (H.evo cx b σ R2) λj1 R3 h3=>aA.ret λv hv=>Ie h1 hg h2 h3 hv) (λζ=>aA.none)
 all_goals (intros;exact No H h1 hg)
noncomputable def qq(cx:Cx)(e:Expr):IK->Prop
 | .range a=>∃f np p,e = .Call (.Name f np) [a] [] p/\gl cx f=true/\ff f=some (.type "range")
 | .enum a=>∃f np p,e = .Call (.Name f np) [a] [] p/\gl cx f=true/\ff f=some (.type "enumerate")
 | .plain=>∀(env:d7) x,ko e env x=b8 x
 | .bad=>True
set_option tactic.hygienic true in
theorem KM(cx:Cx)(e:Expr):qq cx e (ik cx e):=by
 refine fD (C:=λe v=>qq cx e (VB cx v)) e ?_ ?_ ?_ (λf as ks p=>fD (C:=λf v=>qq cx (.Call f as ks p) (VC cx v as ks)) f ?_ (λg np=>?_) ?_ ?_ ?_ ?_ ?_ ?_ ?_ ?_ ?_ ?_ ?_ ?_ ?_ ?_ ?_) ?_ ?_ ?_ ?_ ?_ ?_ ?_ ?_ ?_ ?_ ?_ ?_ ?_
 case refine_5=>
  refine fx (C:=λas y=>qq cx (.Call (.Name g np) as ks p) y) as (λζ=>trivial) λa=>iv (C:=λks y=>qq cx (.Call (.Name g np) [a] ks p) y) ks (λζ=>trivial) ?_
  refine kA (C:=qq cx (.Call (.Name g np) [a] [] p)) (λh=>⟨g,np,p,rfl,(eB h).1,aJ (eB h).2⟩) λζ=>kA (C:=qq cx (.Call (.Name g np) [a] [] p)) (λh=>⟨g,np,p,rfl,(eB h).1,aJ (eB h).2⟩) λζ=>trivial
 all_goals (intros;first | exact trivial | exact λζ ζ=>rfl)
theorem P1(B:dC w H0.heap)(H:All H0 w n F)(cx:Cx)(tgt e:Expr)(σ:br)(R:List aN)(hen:iI cx e=true->fy tgt=true):aA (VK H0 w n cx σ R tgt e) (Nf F cx e σ R):=by
 have hk:=KM cx e
 unfold Nf KE
 unfold iI at hen
 generalize ik cx e=k at hk hen ⊢
 cases k with
 | bad=>exact aA.none
 | plain=>
  show aA _ (bnd (F.ev cx e σ R) λv R1=>Ei v none λl=>some (l,R1))
  exact aA.bnd (H.ev cx e σ R) λv R1 h=>QR (λv=>dP H0 w n cx e σ R v R1) h.s (λl h=>aA.some (HH h hk)) (λl h=>aA.some (KF h hk))
 | range a=>
  obtain⟨f,np,p,rfl,g1,g2⟩:=hk
  show aA _ (bnd (F.ev cx a σ R) λv R1=>nC v none λi=>grd (decide (-1000000<=i)&&decide (i<=1000000)) (some (iH i,R1)))
  exact aA.bnd (H.ev cx a σ R) λv R1 h=>KJ (λv=>dP H0 w n cx a σ R v R1) h.s λi h1=>aA.grd λhb=>aA.some (EX B g1 g2 h1 (yp hb).1 (yp hb).2 h.one)
 | enum a=>
  obtain⟨f,np,p,rfl,g1,g2⟩:=hk
  show aA _ (bnd (F.ev cx a σ R) λv R1=>jL v none λl=>some (mz 0 l,R1))
  exact aA.bnd (H.ev cx a σ R) λv R1 h=>Di (λv=>dP H0 w n cx a σ R v R1) h.s λl h1=>aA.some (HI B (hen rfl) g1 g2 h1 h.one)
theorem Nq(H:All H0 w n F)(cx:Cx)(elt:Expr)(gs:List fJ)(sc:Scope)(σ:br)(R:List aN):aA (FI H0 w n cx elt gs sc σ R) (L1 F cx elt gs sc σ R):=
 fx (C:=λgs o=>aA (FI H0 w n cx elt gs sc σ R) o) gs (λζ=>aA.none) λg=>aA.grd λhc=>by
  obtain⟨t,it,ifs,a⟩:=g
  obtain⟨q1,hc⟩:=eB hc
  obtain⟨q2,hc⟩:=eB hc
  obtain⟨q3,q4⟩:=eB hc
  cases of_decide_eq_true q1
  exact aA.bnd (H.itv cx t it σ R λh=>by rw [h]at q3;exact d9 q3) λl R1 hi=>λy hm=>⟨t,it,ifs,l,R1,F,rfl,q2,q4,hi,λσ R=>H.tst _ _ _ _,λσ R=>(H.ev _ _ _ _).mono λζ h=>h.s,hm⟩
theorem KC(H:All H0 w n F)(cx:Cx)(tgt e:Expr)(σ:br)(R:List aN)(hen:iI cx e=true->fy tgt=true):aA (QM H0 w n cx σ R tgt e) (Hh F cx e σ R):=
 aA.optO (λζ=>aA.bnd (H.itv cx tgt e σ R hen) λl R1 h=>aA.some h) λy hy=>aA.some (by
  revert hy
  refine ii (C:=λe o=>o=some y->QM H0 w n cx σ R tgt e (y.2,rf y.1 σ R)) e (λζ h=>(gF h).elim) λx p h=>?_
  obtain⟨v,hv,h⟩:=ig h
  revert h hv
  refine Km (C:=λv o=>σ.lookup x=some v->o=some y->QM H0 w n cx σ R tgt (.Name x p) (y.2,rf y.1 σ R)) v (λζ ζ h=>(gF h).elim) λk hx h=>?_
  obtain⟨r,hr,h⟩:=ig h
  cases r with
  | lst l=>
   cases h
   exact KG (ni hx) hr (λζ ζ=>rfl)
  | _=>cases h)
theorem P2(H:All H0 w n F)(cx:Cx)(ss:List ir)(σ:br)(R:List aN):aA (CH H0 w n cx ss σ R) (PC F cx ss σ R):=by
 cases ss with
 | nil=>exact aA.some DF
 | cons s ss=>
  show aA _ (bnd (F.ex cx s σ R) λf y=>uC f y (F.exs cx ss y.1 y.2))
  refine aA.bnd (H.ex cx s σ R) λf y h1=>?_
  cases f with
  | next=>exact(H.exs cx ss y.1 y.2).mono λz h2=>H3 h1 h2
  | _=>exact aA.some (rh h1 λq=>nomatch q)
end
end
end Mine
end
section
open PySem PySem.W PyProof.Rows PySem.Spec
namespace Mine
noncomputable section
section
variable {H0:Bs} {w:bG} {n m:Nat} {sp:Spec} {I I' I'':dB} {ρ ρ' ρ'':dI} {R R' R'' R1 R2 R3:List aN} {cx:Cx} {σ σ' σ1 σ2:br} {env:d7} {A:bD} {E:af->ag->Prop} {s s' s'':ag} {e l r t o tgt:Expr} {v:PV} {f:Fl} {X Y Z:aB->Prop} {F:AB}
theorem BP{x:Str}{st:ir}(h:∀σ',qL cx σ x v=some σ'->yT H0 w n cx st σ R .next σ' R1):aA (AC H0 w n cx st σ R) (Eg cx σ x v R1):=aA.opt λσ' e=>aA.some (h σ' e)
set_option tactic.hygienic true in
theorem P8(B:dC w H0.heap)(H:All H0 w n F)(cx:Cx)(t:Expr)(op:cw)(e:Expr)(pos:dS)(σ:br)(R:List aN):aA (AC H0 w n cx (.AugAssign t op e pos) σ R) (PH F cx t op e σ R):=by
 refine fD (C:=λt v=>aA (AC H0 w n cx (.AugAssign t op e pos) σ R) (Qu F cx v op e σ R)) t ?_ (λx p=>(show aA _ (optO (σ.lookup x) none λa=>bnd (F.ev cx e σ R) λb R1=>optO (rt op a b) none λv=>Eg cx σ x v R1)from aA.opt λa ha=>aA.bnd (H.ev cx e σ R) λb R1 h1=>aA.opt λv hv=>BP λσ' hs=>Ca ha h1.s hv hs)) ?_ ?_ (λo a p=>?_) ?_ ?_ ?_ ?_ ?_ ?_ ?_ ?_ ?_ ?_ ?_ ?_
 case refine_4=>
  show aA _ (bnd (F.ev cx o σ R) λov R1=>jv R1 ov λk C fs=>grd (ta C a) (optO (fs.lookup a) none λx=>bnd (F.ev cx e σ R1) λb R2=>jv R2 (.obj k) λζ D fs'=>grd (decide (D=C)&&decide (fs'.length<900)) (optO (rt op x b) none λv=>some (Fl.next,σ,R2.set k (.inst C (iG fs' a v))))))
  refine aA.bnd (H.ev cx o σ R) λov R1 h1=>zW (λov=>dP H0 w n cx o σ R ov R1) h1.s λk C fs h1 hr=>aA.grd λhf=>aA.opt λx hx=>aA.bnd (H.ev cx e σ R1) λb R2 h2=>zW (λv=>v = .obj k) rfl λk' D fs' q hr2=>aA.grd λhc=>?_
  cases q
  obtain⟨q1,q2⟩:=yp hc
  cases q1
  exact aA.opt λv hv=>aA.some (Cb B h1 hr hf hx h2.s hr2 q2 hv)
 all_goals (intros;exact aA.none)
noncomputable def se(t e:Expr):AK->Prop
 | .disp x=>∃p es q,t = .Name x p/\e = .List es q
 | .one x elt gs sc=>∃px k p q,t = .Tuple [.Name x px] k p/\e = .SetComp elt gs sc q
 | .attr o a=>∃p,t = .Attribute o a p
 | .plain=>True
set_option tactic.hygienic true in
theorem Lw(t e:Expr):se t e (ak t e):=by
 refine fD (C:=λt v=>se t e (VH v e)) t ?_ (λx p=>?_) ?_ ?_ (λo a p=>⟨p,rfl⟩) ?_ (λts k p=>?_) ?_ ?_ ?_ ?_ ?_ ?_ ?_ ?_ ?_ ?_
 case refine_2=>exact(tG (C:=λo y=>o=rV e->se (.Name x p) e y) (d:=.plain) (k:=λζ=>.disp x) (rV e) (λζ=>trivial) (λes h=>by obtain⟨q,rfl⟩:=Aj h.symm;exact⟨p,es,q,rfl,rfl⟩)) rfl
 case refine_6=>
  refine fx (C:=λts y=>se (.Tuple ts k p) e y) ts (λζ=>trivial) λt1=>ii (C:=λt1 y=>se (.Tuple [t1] k p) e y) t1 (λζ=>trivial) λx px=>?_
  refine fD (C:=λe v=>se (.Tuple [.Name x px] k p) e (VI x v)) e ?_ ?_ ?_ ?_ ?_ ?_ ?_ ?_ (λelt gs sc q=>⟨px,k,p,q,rfl,rfl⟩) ?_ ?_ ?_ ?_ ?_ ?_ ?_ ?_
  all_goals (intros;trivial)
 all_goals (intros;trivial)
theorem Bf(h:iE cx t v σ=some σ1)(htt:(fy t&&fy e)=false)(env:d7):tj [t] e env=b8 none:=by
 cases t<;>first | rfl | (cases e<;>first | rfl | (cases h;done) | cases htt) | cases h
theorem Iu(h:iE cx t v σ=some σ1)(env:d7):(tV [t] env).map (·.2)=[iZ t env]:=by cases t<;>first | rfl | cases h
theorem D5{a:Str}{p:dS}(env:d7):tj [.Attribute o a p] e env=b8 none:=rfl
theorem Ee{a:Str}{p pos:dS}(env:d7):ti [.Attribute o a p] e pos.line env=b8 false:=by cases e<;>rfl
set_option tactic.hygienic true in
theorem Hu(h:BX (jE e)=true):∃elt gs sc p,e = .ListComp elt gs sc p:=by
 refine fD (C:=λe v=>BX v=true->∃elt gs sc p,e = .ListComp elt gs sc p) e ?_ ?_ ?_ ?_ ?_ ?_ ?_ ?_ ?_ (λelt gs sc p ζ=>⟨elt,gs,sc,p,rfl⟩) ?_ ?_ ?_ ?_ ?_ ?_ ?_ h
 all_goals (intros;rename_i h;exact d9 h)
theorem JW{elt:Expr}{gs:List fJ}{sc:Scope}{p:dS}(env:d7)(ht:cL t=false)(pos:dS):ti [t] (.ListComp elt gs sc p) pos.line env=b8 false:=by
 cases t<;>first | rfl | cases ht
theorem KB(B:dC w H0.heap)(H:All H0 w n F)(cx:Cx)(t e:Expr)(pos:dS)(σ:br)(R:List aN)(htt:(!(fy t&&fy e))=true):aA (AC H0 w n cx (.Assign [t] e pos) σ R) (bnd (F.ev cx e σ R) λv R1=>optO (iE cx t v σ) none λσ'=>some (.next,σ',R1)):=by
 refine aA.bnd (H.ev cx e σ R) λv R1 h1=>aA.opt λσ1 hb=>aA.some ?_
 have go:=λh=>r4 (pos:=pos) h1.s hb h (Bf hb (by cases q:fy t&&fy e with | false=>rfl | true=>rw [q]at htt;exact d9 htt)) (Iu hb)
 cases hl:BX (jE e)with
 | false=>exact go λenv=>(ol e h1.ok).swap hl _ _ _
 | true=>
  obtain⟨elt,gs,sc,p,rfl⟩:=Hu hl
  cases hn:cL t with
  | false=>exact go λenv=>JW env hn pos
  | true=>
   obtain⟨x,px,rfl⟩:=oB hn
   obtain⟨ys,e1,hlen,t',it,ifs,l,R2,F',rfl,htn,hsc,hi,htst,helt,hm⟩:=h1.c
   cases e1
   exact K3 hsc hi htst helt htn hm hlen hb
theorem P9(B:dC w H0.heap)(H:All H0 w n F)(cx:Cx)(t e:Expr)(pos:dS)(σ:br)(R:List aN):aA (AC H0 w n cx (.Assign [t] e pos) σ R) (Ng F cx t e σ R):=by
 have hk:=Lw t e
 unfold Ng FC
 generalize ak t e=k at hk ⊢
 cases k with
 | disp x=>
  obtain⟨p,es,q,rfl,rfl⟩:=hk
  exact aA.bnd (H.evm cx _ σ R) λv R1 h=>BP λσ' hs=>r4 h.s hs (λζ=>rfl) (λζ=>rfl) (λζ=>rfl)
 | one x elt gs sc=>
  obtain⟨px,k,p,q,rfl,rfl⟩:=hk
  refine aA.bnd (H.cmpv cx elt gs sc σ R) λys R2 h=>?_
  cases ys with
  | nil=>exact aA.none
  | cons y r=>
   refine Qr (λy=>FI H0 w n cx elt gs sc σ R (y::r,R2)) h λb h=>aA.grd λhall=>BP λσ' hs=>?_
   obtain⟨t,it,ifs,l,R1,F',rfl,htn,hsc,hi,htst,helt,hm⟩:=h
   refine B9 (b:=b) hsc hi htst helt htn hm (λq=>nomatch q) (iA.mpr ⟨rfl,λz hz=>?_⟩) hs
   exact Ar (C:=λz y=>y=true->z = .bool b) (k:=λc=>c==b) z (λζ=>d9) (λc h=>congrArg PV.bool (aJ h)) (bu.mp hall z hz)
 | attr o a=>
  obtain⟨p,rfl⟩:=hk
  exact aA.bnd (H.ev cx e σ R) λv R1 h1=>aA.bnd (H.ev cx o σ R1) λov R2 h2=>zW (λov=>dP H0 w n cx o σ R1 ov R2) h2.s λk C fs h2 hr=>aA.grd λhc=>aA.some (B8 B h1.s h2 hr (eB hc).1 (of_decide_eq_true (eB hc).2) Ee D5)
 | plain=>exact aA.grd λhtt=>KB B H cx t e pos σ R htt
set_option tactic.hygienic true in
theorem UV(B:dC w H0.heap)(H:All H0 w n F)(cx:Cx)(s:ir)(σ:br)(R:List aN):aA (AC H0 w n cx s σ R) (Vw F cx s σ R):=by
 cases s
 case Expr e pos=>
  show aA _ (bnd (F.ev cx e σ R) λv R1=>grd (qU v) (some (Fl.next,σ,R1)))
  refine aA.bnd (H.ev cx e σ R) λv R1 h1=>aA.grd λhv=>aA.some (iw h1.s hv λenv=>(ol e h1.ok).swap ?_ _ _ _)
  cases hl:BX (jE e)with
  | false=>rfl
  | true=>
   obtain⟨elt,gs,sc,p,rfl⟩:=Hu hl
   obtain⟨ys,e1,_⟩:=h1.c
   cases e1
   exact d9 hv
 case Assign ts e pos=>exact fx (C:=λts o=>aA (AC H0 w n cx (.Assign ts e pos) σ R) o) ts (λζ=>aA.none) λt=>H.asg cx t e pos σ R
 case AugAssign t op e pos=>exact H.aug cx t op e pos σ R
 case If t a b pos=>exact show aA _ (bnd (F.tv cx t σ R) λc R1=>F.exs cx (bif c then a else b) σ R1)from aA.bnd (H.tv cx t σ R) λc R1 h1=>(H.exs cx _ σ R1).mono λy h2=>Ma h1 h2
 case While t b o pos=>exact iv (C:=λo y=>aA (AC H0 w n cx (.While t b o pos) σ R) y) o (λζ=>aA.none) (H4 (H.tv cx t) (H.exs cx b) _)
 case For t it b o pos=>exact iv (C:=λo y=>aA (AC H0 w n cx (.For t it b o pos) σ R) y) o (λζ=>aA.none) (aA.grd λhc=>aA.bnd (H.forIt cx t it σ R λq=>by
   rw [q]at hc
   cases q2:fy t with
   | true=>rfl
   | false=>rw [q2]at hc;exact d9 hc) λl y hi=>NY hi (H.exs cx b))
 case Try b hs o f pos=>exact iv (C:=λo y=>aA (AC H0 w n cx (.Try b hs o f pos) σ R) y) o (λζ=>aA.none) (iv (C:=λf y=>aA (AC H0 w n cx (.Try b hs [] f pos) σ R) y) f (λζ=>aA.none) (by
   cases hs with
   | nil=>exact aA.none
   | cons h hs=>exact(H.exs cx b σ R).mono λy h=>NX h))
 case Return e pos=>exact tG (C:=λe y=>aA (AC H0 w n cx (.Return e pos) σ R) y) e aA.none λe=>aA.bnd (H.ev cx e _ _) λv R1 h=>aA.some (pe h.s)
 case Break pos=>exact aA.some H6
 case Continue pos=>exact aA.some Aa
 case Pass pos=>exact aA.some K1
 all_goals exact aA.none
noncomputable def eW(g:Option af)(args:List Expr)(kws:List cQ):CK->Prop
 | .tupMap f e=>g=some (.type "tuple")/\kws=[] /\ ∃g2 np2 h hp p,args=[.Call (.Name g2 np2) [.Name h hp,e] [] p]/\ff g2=some (.type "map")/\ff h=some (.ref f)
 | .maxLen e=>g=some (.builtin "max")/\args=[e] /\ ∃k,kws=[k]/\kE k.value false (λk=>ff k==some (.builtin "len"))=true
 | .sortKey e=>g=some (.builtin "sorted")/\args=[e]/\Dl kws=true
 | .listOf e=>g=some (.type "list")/\args=[e]/\kws=[]
 | .deque=>g=some (.type "collections.deque")/\args=[]/\kws=[]
 | .new C f=>(C=737/\f=507/\g=some (.ref 737)/\kws=[] /\ ∃e,args=[e])\/(C=872/\f=796/\g=some (.ref 872) /\ ∃e es,args=e::es)
 | .fn f=>g=some (.ref f)
 | .bi f=>g=some f/\kws=[]/\((∃T,f = .type T) \/ ∃T,f = .builtin T)
 | .bad=>True
theorem Fw(T:String)(args:List Expr):eW (some (.type T)) args [] (Qp T args):=by
 refine kA (C:=eW (some (.type T)) args []) (λh=>?_) λζ=>kA (C:=eW (some (.type T)) args []) (λh=>?_) λζ=>kA (C:=eW (some (.type T)) args []) (λh=>?_) λζ=>⟨rfl,rfl,av ⟨T,rfl⟩⟩
 ·cases aJ h
  refine fx (C:=λargs y=>eW _ args [] y) args (λζ=>trivial) λc=>rp (C:=λc y=>eW _ [c] [] y) c (λζ=>trivial) λf as ks p=>ii (C:=λf y=>eW _ [.Call f as ks p] [] y) f (λζ=>trivial) λg2 np2=>kA (C:=eW _ _ []) (λq=>?_) λζ=>trivial
  obtain⟨q1,q2⟩:=eB q
  cases eP.mp q1
  refine oP (C:=λas y=>eW _ [.Call (.Name g2 np2) as [] p] [] y) as (λζ=>trivial) λh e=>ii (C:=λh y=>eW _ [.Call (.Name g2 np2) [h,e] [] p] [] y) h (λζ=>trivial) λh hp=>?_
  refine tG (C:=λo y=>ff h=o->eW _ _ [] y) (ff h) (λζ=>trivial) (λv=>Kf (C:=λv y=>ff h=some v->eW _ _ [] y) v (λζ ζ=>trivial) λa hv=>⟨rfl,rfl,g2,np2,h,hp,p,rfl,aJ q2,hv⟩) rfl
 ·cases aJ h
  exact fx (C:=λargs y=>eW _ args [] y) args (λζ=>trivial) λc=>⟨rfl,rfl,rfl⟩
 ·cases aJ h
  exact iv (C:=λargs y=>eW _ args [] y) args (λζ=>trivial) ⟨rfl,rfl,rfl⟩
theorem Fx(T:String)(args:List Expr)(kws:List cQ):eW (some (.builtin T)) args kws (Qq T args kws):=by
 cases kws with
 | nil=>exact⟨rfl,rfl,am ⟨T,rfl⟩⟩
 | cons k r=>
  refine fx (C:=λargs y=>eW _ args (k::r) y) args (λζ=>trivial) λe=>iv (C:=λr y=>eW _ [e] (k::r) y) r (λζ=>trivial) (kA (C:=eW _ [e] [k]) (λh=>?_) λζ=>kA (C:=eW _ [e] [k]) (λh=>?_) λζ=>trivial)
  ·obtain⟨q1,q2⟩:=eB h
   cases aJ q1
   exact⟨rfl,rfl,k,rfl,q2⟩
  ·obtain⟨q1,q2⟩:=eB h
   cases aJ q1
   exact⟨rfl,rfl,q2⟩
theorem Cp(f:aB)(args:List Expr)(kws:List cQ):eW (some (.ref f)) args kws (Mh f args kws):=by
 refine kA (C:=eW (some (.ref f)) args kws) (λh=>?_) λζ=>kA (C:=eW (some (.ref f)) args kws) (λh=>?_) λζ=>rfl
 ·cases aJ h
  exact iv (C:=λkws y=>eW _ args kws y) kws (λζ=>trivial) (fx (C:=λargs y=>eW _ args [] y) args (λζ=>trivial) λe=>av ⟨rfl,rfl,rfl,rfl,e,rfl⟩)
 ·cases aJ h
  cases args with
  | nil=>exact trivial
  | cons e es=>exact am ⟨rfl,rfl,rfl,e,es,rfl⟩
set_option tactic.hygienic true in
theorem Cr(g:Option af)(args:List Expr)(kws:List cQ):eW g args kws (lT g args kws):=by
 cases g with
 | none=>exact trivial
 | some v=>
  cases v
  case type T=>exact iv (C:=λkws y=>eW _ args kws y) kws (λζ=>trivial) (Fw T args)
  case builtin T=>exact Fx T args kws
  case ref f=>exact Cp f args kws
  all_goals exact trivial
theorem HW{f:aB}(h:Ok f=true)(P:dX):∃o fd,(KK pw P).lookup f=some o/\o.data = .func fd:=by
 have k:(VD.all λf=>(Fe pw f).isSome)=true:=∅
 obtain⟨fi,hf⟩:=fX.mp (bu.mp k f (cY.mp h))
 obtain⟨qual,dV,pm,cd,g1,_⟩:=rg P hf
 exact⟨_,_,g1,rfl⟩
theorem BG{C fa:aB}{a:Str}(h:De C a=some fa)(P:dX):∃ob fd,(KK pw P).lookup fa=some ob/\ob.data = .func fd:=by
 have k:(Dd.all λx=>(Fe pw x.2.2).isSome)=true:=∅
 obtain⟨fi,hf⟩:=fX.mp (bu.mp k _ (wL h))
 obtain⟨qual,dV,pm,cd,g1,_⟩:=rg P hf
 exact⟨_,_,g1,rfl⟩
theorem qp{es:List Expr}{pos:dS}(h:∀e∈es,eL e=true)(hne:es≠[])(env:d7):(hU pos (bU es env)).any (·.1)=false /\ ∃x rest,hU pos (bU es env)=(false,x)::rest:=by
 refine⟨rq h,?_⟩
 cases es with
 | nil=>exact absurd rfl hne
 | cons e es=>exact⟨_,_,jA h⟩
noncomputable def yI(H0:Bs)(w:bG)(A:bD)(E:af->ag->Prop)(I:dB)(ρ:dI)(R:List aN)(s:ag)(f:af)(us:List af)(v:PV):Prop:=aq (aw pw w) A (call f us) (fP H0 I ρ s v R) E s
theorem Qa(G:Gd H0 I ρ R s.heap){x t:PV}{u y:af}(hu:cn I ρ x u)(hy:cn I ρ t y):aA (yI H0 w A E I ρ R s (.builtin "isinstance") [u,y]) (uf t none λT=>grd (T=="str"||(T=="bytes"||T=="tuple")) (optO (BM x T) none λb=>some (.bool b))):=
 oO (C:=λt o=>cn I ρ t y->aA (yI H0 w A E I ρ R s (.builtin "isinstance") [u,y]) o) t (λζ ζ=>aA.none) (λT hy=>aA.grd λhT=>aA.opt λb hb=>aA.some (Nw G ((fz.mp hT).imp aJ λh=>(fz.mp h).imp aJ aJ) hb hu hy)) hy
theorem KI(G:Gd H0 I ρ R s.heap){t l:PV}{u y:af}(hu:cn I ρ t u)(hy:cn I ρ l y):aA (yI H0 w A E I ρ R s (.builtin "issubclass") [u,y]) (uf t none λT=>aV l none λus=>xB us none λu v=>uf u none λU=>uf v none λW=>grd (T=="str"&&(U=="str"&&W=="bytes")) (some (.bool true))):=by
 refine oO (C:=λt o=>cn I ρ t u->aA (yI H0 w A E I ρ R s (.builtin "issubclass") [u,y]) o) t (λζ ζ=>aA.none) (λT hu=>?_) hu
 refine xC (C:=λl o=>cn I ρ l y->aA (yI H0 w A E I ρ R s (.builtin "issubclass") [u,y]) o) l (λζ ζ=>aA.none) (λus hy=>?_) hy
 refine oP (C:=λus o=>cn I ρ (.tup us) y->aA (yI H0 w A E I ρ R s (.builtin "issubclass") [u,y]) o) us (λζ ζ=>aA.none) (λa b hy=>?_) hy
 refine oO (C:=λa o=>cn I ρ (.tup [a,b]) y->aA (yI H0 w A E I ρ R s (.builtin "issubclass") [u,y]) o) a (λζ ζ=>aA.none) (λU hy=>?_) hy
 refine oO (C:=λb o=>cn I ρ (.tup [.val (.type U),b]) y->aA (yI H0 w A E I ρ R s (.builtin "issubclass") [u,y]) o) b (λζ ζ=>aA.none) (λW hy=>aA.grd λhc=>?_) hy
 obtain⟨q1,q2⟩:=eB hc
 obtain⟨q2,q3⟩:=eB q2
 cases aJ q1
 cases aJ q2
 cases aJ q3
 exact hu.val_el (aA.some (HL G hy))
section
variable {T:String} {x:PV} {u:af}
theorem BJ{k:List PV->Option PV}(hu:cn I ρ x u)(h:∀l,cn I ρ (.list l) u->aA (yI H0 w A E I ρ R s (.builtin T) [u]) (k l)):aA (yI H0 w A E I ρ R s (.builtin T) [u]) (jL x none k):=
 uP (C:=λx o=>cn I ρ x u->aA (yI H0 w A E I ρ R s (.builtin T) [u]) o) x (λζ ζ=>aA.none) h hu
theorem Qt(hR:cE H0 A 2)(G:Gd H0 I ρ R s.heap)(hu:cn I ρ x u):aA (yI H0 w A E I ρ R s (.builtin T) [u]) (
  bif T=="abs" then nC x none λi=>some (.int i.natAbs)
  else bif T=="len" then optO (q8 R x) none λn=>some (.int n)
  else bif T=="sorted" then jL x none λl=>optO (fg l) none λss=>grd (decide (ss.length<64)) (some (.list ((ga ss).map .str)))
  else bif T=="min" then jL x none λl=>optO (gf l) none λss=>optO (iJ (λa b=>decide (a<b)) ss) none λs=>some (.list (s.map .str))
  else bif T=="max" then jL x none λl=>optO (gf l) none λss=>optO (iJ (λa b=>decide (b<a)) ss) none λs=>some (.list (s.map .str))
  else none):=
 aA.bif (λq=>by
  cases aJ q
  exact nf (C:=λx o=>cn I ρ x u->aA (yI H0 w A E I ρ R s (.builtin "abs") [u]) o) x (λζ ζ=>aA.none) (λi hu=>aA.some (Oc G hu)) hu) λζ=>
 aA.bif (λq=>by cases aJ q;exact aA.opt λk hl=>aA.some (BK G hu hl)) λζ=>
 aA.bif (λq=>by cases aJ q;exact BJ hu λl hu=>aA.opt λss hs=>aA.grd λhl=>aA.some (Ec G hu hs (of_decide_eq_true hl))) λζ=>
 aA.bif (λq=>by cases aJ q;exact BJ hu λl hu=>aA.opt λss hs=>aA.opt λb hb=>aA.some (Nh (m:=0) hR G hu hs hb)) λζ=>
 aA.bif (λq=>by cases aJ q;exact BJ hu λl hu=>aA.opt λss hs=>aA.opt λb hb=>aA.some (Ni (m:=0) hR G hu hs hb)) λζ=>aA.none
end
theorem Qs{T:String}{vs:List PV}{us:List af}(hR:cE H0 A 2)(G:Gd H0 I ρ R s.heap)(hu:a0 I ρ vs us):aA (yI H0 w A E I ρ R s (.builtin T) us) (VG R T vs):=
 aA.bif (λq=>by
  cases aJ q
  exact oP (C:=λvs o=>a0 I ρ vs us->aA (yI H0 w A E I ρ R s (.builtin "isinstance") us) o) vs (λζ ζ=>aA.none) (λa b hu=>hu.two_el λu v h1 h2=>Qa G h1 h2) hu) λζ=>
 aA.bif (λq=>by
  cases aJ q
  exact oP (C:=λvs o=>a0 I ρ vs us->aA (yI H0 w A E I ρ R s (.builtin "issubclass") us) o) vs (λζ ζ=>aA.none) (λa b hu=>hu.two_el λu v h1 h2=>KI G h1 h2) hu) λζ=>
 fx (C:=λvs o=>a0 I ρ vs us->aA (yI H0 w A E I ρ R s (.builtin T) us) o) vs (λζ ζ=>aA.none) (λa hu=>hu.one_el λu h1=>Qt hR G h1) hu
set_option tactic.hygienic true in
theorem Oq{T:String}{x:PV}{u:af}(G:Gd H0 I ρ R s.heap)(hu:cn I ρ x u):aA (yI H0 w A E I ρ R s (.type T) [u]) (VF T [x]):=
 aA.bif (λq=>by
  cases aJ q
  cases x
  case str=>exact aA.some (zc G hu)
  case int=>exact aA.some (zd G hu)
  all_goals exact aA.none) λζ=>aA.bif (λq=>by
  cases aJ q
  exact nf (C:=λx o=>cn I ρ x u->aA (yI H0 w A E I ρ R s (.type "int") [u]) o) x (λζ ζ=>aA.none) (λi hu=>aA.some (Nx G hu)) hu) λζ=>aA.none
set_option tactic.hygienic true in
theorem KD(B:dC w H0.heap){n0:Nat}(hn0:n0+3<=n)(hspL:∀L,dA ⟨H0.heap,L::H0.stk⟩ w n0 sp)(hsp0:dA H0 w n0 sp)(H:All H0 w n F)(cx:Cx)(g:Str)(np:dS)(args:List Expr)(kws:List cQ)(pos:dS)(σ:br)(R:List aN)(hg:gl cx g=true) :
  aA (tU H0 w n cx (.Call (.Name g np) args kws pos) σ R) (ll sp F cx (lT (ff g) args kws) args kws σ R):=by
 have hn:3<=n:=ah (gZ ..) hn0
 have hsp:dA H0 w n sp:=hsp0.mono (ah (dz ..) hn0)
 have hck:=Cr (ff g) args kws
 generalize lT (ff g) args kws=ck at hck ⊢
 cases ck with
 | tupMap f e=>
  obtain⟨q1,rfl,g2,np2,hh,hp,p2,rfl,q2,q3⟩:=hck
  unfold ll
  dsimp only
  refine aA.grd λhmap=>aA.bnd (H.ev cx e σ R) λv R1 h1=>Di (λv=>dP H0 w n cx e σ R v R1) h1.s λl h2=>aA.bnd' λys R2 hm=>aA.ret λu hv=>?_
  obtain⟨m1,m2⟩:=eB hmap
  exact r5 B hsp hg q1 m1 q2 (ri (tQ B m2 q3) (ri h2 tO λenv=>gg h1.star) λenv=>rfl) hm hv (qp (iA.mpr ⟨rfl,iA.mpr ⟨h1.star,λζ h=>nomatch h⟩⟩) λh=>nomatch h)
 | maxLen e=>
  obtain⟨q1,rfl,k,rfl,q2⟩:=hck
  unfold ll
  dsimp only
  obtain⟨kn,ke,kp2⟩:=k
  refine aA.grd λhk=>?_
  obtain⟨k1,k2⟩:=eB hk
  cases aJ k1
  refine ii (C:=λke b=>b=true->kE ke false (λk=>ff k==some (.builtin "len"))=true->aA (tU H0 w n cx (.Call (.Name g np) [e] [⟨some "key",ke,kp2⟩] pos) σ R) _) ke (λζ h=>d9 h) (λk kp h1 h2=>?_) k2 q2
  exact aA.bnd (H.ev cx e σ R) λv R1 h3=>Di (λv=>dP H0 w n cx e σ R v R1) h3.s λl h4=>aA.ret λu hv=>pg B (ah (by decide) hn) hg q1 h1 (aJ h2) h4 h3.star hv
 | sortKey e=>
  obtain⟨q1,rfl,q2⟩:=hck
  unfold ll
  dsimp only
  refine aA.bnd (H.ev cx e σ R) λv R1 h1=>Di (λv=>dP H0 w n cx e σ R v R1) h1.s λl h2=>aA.opt λss hs=>aA.grd λhc=>?_
  obtain⟨c1,hc⟩:=eB hc
  obtain⟨c2,hc⟩:=eB hc
  obtain⟨c3,hc⟩:=eB hc
  exact aA.some (Cc B hn hg q1 (aJ (eB hc).2) h2 h1.star q2 hs (of_decide_eq_true c1) (of_decide_eq_true c2) c3 (eB hc).1)
 | listOf e=>
  obtain⟨q1,rfl,rfl⟩:=hck
  unfold ll
  dsimp only
  refine aA.bnd (H.ev cx e σ R) λv R1 h1=>zW (λv=>dP H0 w n cx e σ R v R1) h1.s λk C fs h2 hr=>aA.grd λhC=>?_
  cases of_decide_eq_true hC
  exact aA.bnd' λys R2 hd=>aA.ret λu hv=>Fj B (ah (di _) hn0) hspL hg q1 h2 hr h1.one hd hv
 | deque=>
  obtain⟨q1,rfl,rfl⟩:=hck
  exact aA.some (Ij B hg q1)
 | new C f=>
  unfold ll
  dsimp only
  refine aA.bnd (H.evs cx args σ R) λas R1 h1=>aA.bnd (H.evk cx kws σ R1) λks R2 h2=>aA.bnd' λy R3 hc=>?_
  cases y
  case none=>
   refine aA.some ?_
   rcases hck with ⟨rfl,rfl,q1,rfl,e,rfl⟩ | ⟨rfl,rfl,q1,e,es,rfl⟩
   ·obtain⟨q2,q3⟩:=eR (h2.nil rfl)
    cases q2
    cases q3
    obtain⟨a,q4,h3⟩:=h1.sh rfl
    cases q4
    exact Fi B (ah (di _) hn0) hsp0 hg q1 (h1.ok e aj) h3 hc
   ·exact Fh B hsp hg q1 h1.ok h1.s h2.s hc
  all_goals exact aA.none
 | fn f=>
  refine iv (C:=λkws y=>aA (tU H0 w n cx (.Call (.Name g np) args kws pos) σ R) y) kws (λζ=>aA.none) (aA.grd λhc=>aA.bnd (H.evs cx args σ R) λas R1 h1=>λy hy=>?_)
  obtain⟨c1,c2⟩:=eB hc
  exact Lb B hsp hg hck h1.s hy (HW c1) λenv=>(qp h1.ok (λq=>by subst q;exact d9 c2) env).2
 | bi f=>
  obtain⟨q1,rfl,q2⟩:=hck
  unfold ll
  dsimp only
  refine aA.bnd (H.evs cx args σ R) λas R1 h1=>aA.ret λu hv=>?_
  rcases q2 with ⟨T,rfl⟩ | ⟨T,rfl⟩
  ·revert hv h1
   refine fx (C:=λas o=>wm H0 w n cx args σ R (as,R1)->o=some u->tU H0 w n cx _ σ R (u,R1)) as (λζ ζ h=>(gF h).elim) λa h1 hv=>?_
   obtain⟨e,rfl,hs,h3⟩:=h1.one
   exact NZ B hg q1 h3 (λenv=>gg hs) λA E I ρ s u' ζ G hu=>Oq G hu u hv
  ·refine sF B hg q1 h1.s (qp h1.ok λq=>?_) λA E I ρ s us hR G hu=>Qs (hR.le (ah (by decide) hn)) G hu u hv
   subst q
   obtain⟨q3,_⟩:=eR h1.sh
   subst q3
   revert hv
   exact kA (C:=λo=>o=some u->False) (λζ h=>gF h) λζ=>kA (C:=λo=>o=some u->False) (λζ h=>gF h) λζ h=>gF h
 | bad=>exact aA.none
set_option tactic.hygienic true in
theorem pn{a:Str}(h:qo o=true)(env:d7):fI o a env (ej o env)=ej o env:=by
 cases o<;>first | rfl | skip
 rename_i f as ks p
 cases f<;>first | rfl | skip
 cases as<;>cases ks<;>first | rfl | exact d9 h
theorem xj{a:Str}{pos:dS}(hb:qo o=true)(env:d7):ej (.Attribute o a pos) env=(do
   let x <-ej o env
   nG pos.atName
   let r <-km [x] (vO x a true)
   iY o x r
   b8 r):=
 congrArg (λb=>(do
   let x <-b
   nG pos.atName
   let r <-km [x] (vO x a true)
   iY o x r
   b8 r:tn af)) (pn (a:=a) hb env)
theorem KT{es:List Expr}{pos:dS}(h:∀e∈es,eL e=true)(hlen:es.length<2)(env:d7):mQ (es.length+0) (hU pos (bU es env)) []=true:=by
 unfold mQ
 rw [show(hU pos (bU es env)).all (λx =>!x.1)=true by rw [jA h];simp]
 simp
 exact Ud hlen
set_option tactic.hygienic true in
theorem Nn(B:dC w H0.heap)(hsp:dA H0 w n sp)(H:All H0 w n F){mm:Str}{apos pos:dS}{args:List Expr}(hb:qo o=true)(hl:(apos.endLine==pos.line)=true)(hlen:args.length<2) :
  aA (tU H0 w n cx (.Call (.Attribute o mm apos) args [] pos) σ R) (bnd (F.ev cx o σ R) λov R1=>bnd (F.evs cx args σ R1) λas R2=>sB sp R1 ov mm as R2):=by
 refine aA.bnd (H.ev cx o σ R) λov R1 h1=>aA.bnd (H.evs cx args σ R1) λas R2 h2=>?_
 have e1:=h1.s
 cases ov
 case str x=>
  refine OI (λas=>wm H0 w n cx args σ R1 (as,R2)) h2 λa h2=>?_
  obtain⟨e,rfl,hst,e2⟩:=h2.one
  refine aA.bif (λhj=>?_) λζ=>aA.ret λv hv=>Ih e1 e2 (λa=>pn hb) (λenv=>gg hst) hl v hv
  cases aJ hj
  exact aA.opt λl hs=>aA.opt λss hss=>aA.grd λhz=>aA.opt λv hv=>aA.some ((ou hv).2▸K7 e1 e2 hs hss (of_decide_eq_true hz) (ou hv).1 (pn hb) (λenv=>gg hst) hl)
 case obj k=>
  refine aA.opt λr hr=>?_
  cases r with
  | lst l0=>
   refine aA.lst λl1 hr2=>aA.bif (λha=>?_) λζ=>aA.grd λha=>?_
   ·cases aJ ha
    refine OI (λas=>wm H0 w n cx args σ R1 (as,R2)) h2 λa h2=>aA.grd λhz=>aA.some ?_
    obtain⟨e,rfl,hst,e2⟩:=h2.one
    exact Fk e1 hr e2 hr2 (of_decide_eq_true hz) (pn hb) (λenv=>gg hst) hl
   ·cases aJ ha
    refine UO (λas=>wm H0 w n cx args σ R1 (as,R2)) h2 λh2=>aA.opt λv hv=>aA.some ?_
    obtain⟨rfl,rfl⟩:=h2.nil
    exact N1 e1 hr2 hv (pn hb) hl
  | inst C fs=>
   refine aA.opt λf hf=>aA.grd λhno=>λy hy=>Af B hsp e1 hr hf (cK.mp hno) h2.s hy (BG hf) (pn hb) (KT h2.ok hlen) hl (λenv=>?_) λq=>?_
   ·cases args with
    | nil=>exact av ⟨rfl,rfl⟩
    | cons e r=>exact am ⟨_,_,jA h2.ok⟩
   ·subst q
    exact eR h2.sh
  | _=>exact aA.none
 all_goals exact aA.none
theorem wI(h:BB v=true)(x:af):v ≠ .val x:=λq=>by subst q;exact d9 h
theorem Nr(B:dC w H0.heap)(hsp:dA H0 w n sp)(H:All H0 w n F){a:Str}{p:dS}:aA (tU H0 w n cx (.Attribute o a p) σ R) (Io sp F cx o a σ R):=by
 refine aA.grd λhb=>aA.bnd (H.ev cx o σ R) λv R1 h1=>zW (λv=>dP H0 w n cx o σ R v R1) h1.s λk C fs h2 hr=>?_
 ·refine aA.bif (λhf=>aA.opt λu hu=>aA.grd λhnv=>aA.some (Ag B h2 hr hf hu (wI hnv) (xj hb))) λζ=>aA.opt λf hp=>aA.bnd' λu R2 hc=>aA.grd λhnv=>aA.some ?_
  obtain⟨q,hp⟩:=nh (c:=C==872&&a=="punctuation_chars") (o:=some 803) hp
  obtain⟨q1,q2⟩:=eB q
  cases aJ q1
  cases aJ q2
  cases hp
  exact K6 B hsp h2 hr hc (wI hnv) (xj hb)
inductive pU:Expr->cw->Expr->RK->Prop
 | mk (a:Str) (k0:Nat) (p0:dS) (x:Str) (px apos:dS) (c:Str) (k1:Nat) (p1:dS) (b:Str) (k2:Nat) (p2 pos:dS) (k:Nat) (hc:ls c=[k]) (h1:(c==b)=false) (h2:(apos.endLine==pos.line)=true) (h3:jb (ls a)=true) (h4:jb (ls b)=true) (h5:(ls b).length<=14) (h6:(ls a).length<=SZ) :
   pU (.Constant (.str a) k0 p0) .Add (.Call (.Attribute (.Name x px) "replace" apos) [.Constant (.str c) k1 p1,.Constant (.str b) k2 p2] [] pos) ⟨ls a,x,k,ls b⟩
theorem Ke(l:Expr)(op:cw)(r:Expr):aA (pU l op r) (GT l op r):=by
 refine tD (C:=λl o=>aA (pU l op r) o) l (λζ=>aA.none) λa k0 p0=>rp (C:=λr o=>aA (pU _ op r) o) r (λζ=>aA.none) λf as ks pos=>Au (C:=λf o=>aA (pU _ op (.Call f as ks pos)) o) f (λζ=>aA.none) λo m apos=>ii (C:=λo y=>aA (pU _ op (.Call (.Attribute o m apos) as ks pos)) y) o (λζ=>aA.none) λx px=>
  oP (C:=λas y=>aA (pU _ op (.Call (.Attribute (.Name x px) m apos) as ks pos)) y) as (λζ=>aA.none) λc b=>tD (C:=λc y=>aA (pU _ op (.Call (.Attribute (.Name x px) m apos) [c,b] ks pos)) y) c (λζ=>aA.none) λc k1 p1=>tD (C:=λb y=>aA (pU _ op (.Call (.Attribute (.Name x px) m apos) [_,b] ks pos)) y) b (λζ=>aA.none) λb k2 p2=>?_
 refine fx (C:=λl y=>ls c=l->aA (pU _ op (.Call (.Attribute (.Name x px) m apos) _ ks pos)) y) (ls c) (λζ ζ=>aA.none) (λk hc=>aA.grd λh=>aA.some ?_) rfl
 obtain⟨g1,h⟩:=eB h
 obtain⟨g2,h⟩:=eB h
 obtain⟨g3,h⟩:=eB h
 obtain⟨g4,h⟩:=eB h
 obtain⟨g5,h⟩:=eB h
 obtain⟨g6,h⟩:=eB h
 obtain⟨g7,h8⟩:=eB h
 cases aJ g1
 cases eP.mp g2
 cases aJ g3
 exact⟨a,k0,p0,x,px,apos,c,k1,p1,b,k2,p2,pos,k,hc,by simpa using g4,g5,g6,g7,(yp h8).1,(yp h8).2⟩
theorem P7(H:All H0 w n F){op:cw}{p:dS}:aA (tU H0 w n cx (.BinOp l op r p) σ R) (Im F cx l op r σ R):=
 aA.optO (λζ=>aA.bnd (H.ev cx l σ R) λa R1 h1=>aA.bnd (H.ev cx r σ R1) λb R2 h2=>aA.ret λv hv=>Ik h1.s h2.s hv) λk hk=>aA.opt λv hx=>Oy (λv=>σ.lookup k.x=some v) hx λy hy=>aA.ret λu hu=>by
  obtain⟨a,k0,p0,x,px,apos,c,k1,p1,b,k2,p2,pos,k,hc,h1,h2,h3,h4,h5,h6⟩:=Ke l op r k hk
  exact Cd hy hc h5 h1 h3 h4 h6 h2 hu
set_option tactic.hygienic true in
theorem UW(B:dC w H0.heap)(hsp:dA H0 w n sp)(H:All H0 w n F)(cx:Cx)(e:Expr)(σ:br)(R:List aN):aA (LC H0 w n cx e σ R) (Vx sp F cx e σ R):=
 fD (C:=λe v=>aA (LC H0 w n cx e σ R) (VE sp F cx v σ R)) e (λζ=>aA.none) (λx p=>show aA _ (bif gl cx x then optO (ff x) none λv=>some (PV.val v,R)else fM (σ.lookup x) R)from aA.bif (λhg=>aA.opt λu hu=>aA.some ⟨tQ B hg hu,rfl,trivial⟩) λζ=>aA.ret λu hu=>⟨ni hu,rfl,trivial⟩) (λc k p=>show aA _ (fM (yt c) R)from aA.ret λu hu=>⟨Ah hu,rfl,trivial⟩)
  (λf args kws pos=>fD (C:=λf v=>aA (LC H0 w n cx (.Call f args kws pos) σ R) (Il sp F cx v args kws pos σ R)) f (λζ=>aA.none) (λg np=>aA.grd λhg=>(H.callv cx g np args kws pos σ R hg).mono λy h=>⟨h,rfl,trivial⟩) (λζ ζ ζ=>aA.none) (λζ ζ ζ ζ=>aA.none)
   (λo mm apos=>iv (C:=λkws y=>aA (LC H0 w n cx (.Call (.Attribute o mm apos) args kws pos) σ R) y) kws (λζ=>aA.none) (aA.grd λhc=>(Nn B hsp H (eB hc).1 (eB (eB hc).2).1 (of_decide_eq_true (eB (eB hc).2).2)).mono λy h=>⟨h,rfl,trivial⟩))
   (λζ ζ ζ ζ=>aA.none) (λζ ζ ζ=>aA.none) (λζ ζ=>aA.none) (λζ ζ ζ ζ=>aA.none) (λζ ζ ζ ζ=>aA.none) (λζ ζ ζ ζ=>aA.none) (λζ ζ ζ=>aA.none) (λζ ζ ζ ζ=>aA.none) (λζ ζ ζ=>aA.none) (λζ ζ ζ ζ=>aA.none) (λζ ζ ζ=>aA.none) (λζ ζ ζ ζ=>aA.none))
  (λo a p=>(Nr B hsp H).mono λy h=>⟨h,rfl,trivial⟩) (λζ ζ ζ ζ=>aA.none) (λes k p=>(show aA _ (bnd (F.evs cx es σ R) λl R1=>fM (mkT l) R1)from aA.bnd (H.evs cx es σ R) λl R1 h=>aA.ret λv hv=>⟨Ic h.s hv,rfl,trivial⟩)) (λes p=>(show aA _ (bnd (F.evs cx es σ R) λl R1=>fM (mkL l) R1)from aA.bnd (H.evs cx es σ R) λl R1 h=>aA.ret λv hv=>⟨yj h.s hv,rfl,trivial⟩)) (λζ ζ ζ ζ=>aA.none)
  (λelt gs sc p=>show aA _ (bnd (F.cmpv cx elt gs sc σ R) λl R1=>fM (mkL l) R1)from aA.bnd (H.cmpv cx elt gs sc σ R) λys R1 h=>aA.ret λv hv=>by
   obtain⟨hl,rfl⟩:=ow hv
   refine⟨?_,rfl,ys,rfl,hl,h⟩
   obtain⟨t,it,ifs,l,R2,F',rfl,htn,hsc,hi,htst,helt,hm⟩:=h
   exact ge hsc hi htst helt htn hm hl)
  (λl op r p=>(P7 H).mono λy h=>⟨h,rfl,trivial⟩) (λop x p=>by
   cases op
   case USub=>
    show aA _ (bnd (F.ev cx x σ R) λv R1=>nC v none λi=>some (PV.int (-i),R1))
    exact aA.bnd (H.ev cx x σ R) λv R1 h=>KJ (λv=>dP H0 w n cx x σ R v R1) h.s λi h=>aA.some ⟨K5 h,rfl,trivial⟩
   all_goals exact aA.none) (λt a b p=>show aA _ (bnd (F.tv cx t σ R) λc R1=>F.ev cx (bif c then a else b) σ R1)from aA.bnd (H.tv cx t σ R) λc R1 h1=>(H.ev cx _ σ R1).mono λy h2=>⟨Ii h1 h2.s,rfl,trivial⟩) (λop es p=>(H.orv cx op es p σ R).mono λy h=>⟨h,rfl,trivial⟩)
  (λl ops rs p=>show aA _ (bnd (F.cp cx l ops rs σ R) λb R1=>some (PV.bool b,R1))from aA.bnd (H.cp cx l ops rs σ R) λb R1 h=>aA.some ⟨by obtain⟨op,r,hc⟩:=h;exact N2 hc,rfl,trivial⟩) (λv i p=>show aA _ (bnd (F.ev cx v σ R) λx R1=>grd (cL v||mh x) (F.sbv cx x i σ R1))from aA.bnd (H.ev cx v σ R) λx R1 h1=>aA.grd λhg=>(H.sbv cx v x i p σ R R1 h1.s hg).mono λy h=>⟨h,rfl,trivial⟩) (λζ ζ ζ ζ=>aA.none)
theorem Ob(B:dC w H0.heap){n0:Nat}(hn0:n0+3<=n)(hspL:∀L,dA ⟨H0.heap,L::H0.stk⟩ w n0 sp)(hsp0:dA H0 w n0 sp)(m:Nat):All H0 w n (mn sp m):=by
 have hsp:dA H0 w n sp:=hsp0.mono (ah (dz ..) hn0)
 induction m with
 | zero=>constructor<;>intros<;>exact aA.none
 | succ m H=>exact⟨UW B hsp H,KD B hn0 hspL hsp0 H,P0 H,PZ H,Nq H,UX B H,UU H,PX H,PY H,P3 H,P6 H,P4 H,P1 B H,P5 H,Np H,UV B H,KC H,P9 B H,P8 B H,P2 H⟩
theorem Eb{hp:fv}(B:dC w hp){n0 k:Nat}(h:∀st,dA ⟨hp,st⟩ w n0 sp)(st:List aB):dA ⟨hp,st⟩ w (n0+5) (nB sp pw k):=
 Ka (H0:=⟨hp,st⟩) (n:=n0+3) B λL=>(Ob (H0:=⟨hp,L::st⟩) (n:=n0+3) B (aF _) (λL'=>h _) (h _) k).exs
theorem JZ{hp:fv}(B:dC w hp)(k:Nat):∀st,dA ⟨hp,st⟩ w (5*k) (fE k):=by
 induction k with
 | zero=>exact λst f pos kw R v R' h=>nomatch h
 | succ k ih=>exact λst=>Nt (Eb (k:=400) B ih st)
end
end
end Mine
end
section
open PySem PySem.W PyProof.Rows PySem.Spec
namespace Mine
noncomputable section
section
variable {H0:Bs} {w:bG} {n m:Nat} {sp:Spec} {I I' I'':dB} {ρ ρ' ρ'':dI} {R R' R'' R1 R2 R3:List aN} {cx:Cx} {σ σ' σ1 σ2:br} {env:d7} {A:bD} {E:af->ag->Prop} {s s' s'':ag} {e l r t o tgt:Expr} {v:PV} {f:Fl} {X Y Z:aB->Prop}
theorem GV{vs:List af}{ns:List Int}(h:IntsAre vs ns):a0 I ρ (ns.map .int) vs:=by
 induction h with
 | nil=>exact a0.nil
 | cons n t h ih=>exact a0.cons tF ih
theorem law_from(hlaw:∀ns:List Int,ns.length<=63->∃R',fE 11 964 [.list (ns.map .int)] [] [.tab]=some (.bool true,R')/\R'[0]? = some .tab):Ja:=by
 intro w s l vs ns B tb hl hi hlen
 obtain⟨R',h,h0⟩:=hlaw ns hlen
 have Bh:=B.hide tb
 have hs:=JZ Bh 11 [] 964 _ _ _ _ _ h
 have ne:∀a o,s.heap.get? a=some o->a≠949->(sf s.heap [949]).get? a=some o:=λa o e hc=>lC _ e λq=>hc (aC.mp q)
 have G:Gd ⟨sf s.heap [949],[]⟩ (λa=>(sf s.heap [949]).get? a) [(949,949)] [.tab] s.heap:=by
  refine⟨λa o e=>of_hideAll _ e,λa o e=>e,rfl,λk p r h1 h2=>?_,λk p r h1 h2 h3=>?_,λj k p q h1 h2 hjk=>?_,λa ha=>nomatch ha⟩
  ·cases k with
   | zero=>
    cases h1
    cases h2
    exact⟨rfl,rfl,#[],tb,trivial,λpos c e=>by cases e⟩
   | succ k=>cases h1
  ·cases k with
   | zero=>
    cases h1
    have e:=hideAll_none [949] (h:=s.heap) (b:=949) (aC.mpr rfl)
    exact⟨e,e⟩
   | succ k=>cases h1
  ·cases j<;>cases k<;>first | exact absurd rfl hjk | (cases h1;done) | (cases h2;done)
 have hl9:l≠949:=λq=>by rw [q,tb]at hl;cases hl
 have hvl:vs.length=ns.length:=hi.length
 have hrep:a0 (λa=>(sf s.heap [949]).get? a) [(949,949)] [PV.list (ns.map .int)] [j2 l]:=by
  exact a0.cons (qP (n:=0) (by rw [ae];exact ah hlen (by decide)) (ne l _ hl hl9) (GV hi)) a0.nil
 have hR:cE ⟨sf s.heap [949],[]⟩ callerA (5*11):=⟨rfl,by decide,by decide,[],rfl,rfl,λe he=>nomatch he⟩
 refine fc (gv (hs callerA (λζ ζ=>False) _ _ s [.ref l] [] hR G hrep ⟨rfl,a0.nil⟩) λr s' q=>?_)
 rcases r with e | fl
 ·exact q
 ·cases fl with
  | ret u=>
   obtain⟨I',ρ',x,hu⟩:=q
   refine⟨hu,λb o hb e=>?_,?_,x.os,x.gens⟩
   ·exact x.good.imm b o (x.le b o (ne b o e hb))
   ·obtain⟨δ,hδ⟩:=x.pre
    have hp:ρ'[0]? = some ((949,949):aB × aB):=by rw [hδ];rfl
    obtain⟨_,_,ps,h3,_⟩:=x.good.recs 0 _ _ hp h0
    exact⟨ps,h3⟩
  | _=>exact q
end
end
end Mine
end
section
namespace Mine.W
section
theorem bo{α β γ:Type}{x:Option (α × β)}{a:α}{b:β}{k:α->β->Option γ}{z:Option γ}(h:x=some (a,b))(hk:k a b=z):bnd x k=z:=by subst h;exact hk
theorem c9{α γ:Type}{o:Option α}{a:α}{d:γ}{k:α->γ}{z:γ}(h:o=some a)(hk:k a=z):optO o d k=z:=by subst h;exact hk
theorem MZ{α γ:Type}{o:Option α}{d:γ}{k:α->γ}{z:γ}(h:o=none)(hk:d=z):optO o d k=z:=by subst h;exact hk
theorem gU{α:Type}{o:Option α}{v:α}{R:List aN}(h:o=some v):fM o R=some (v,R):=by subst h;rfl
theorem fV{γ:Type}{c:Bool}{o z:Option γ}(h:c=true)(hk:o=z):grd c o=z:=by subst h;exact hk
theorem At{γ:Type}{c:Bool}{x y z:γ}(h:c=true)(hk:x=z):(bif c then x else y)=z:=by subst h;exact hk
theorem DL{γ:Type}{c:Bool}{x y z:γ}(h:c=false)(hk:y=z):(bif c then x else y)=z:=by subst h;exact hk
variable {sp:Spec} {n k:Nat} {cx:Cx} {s:ir} {r ss a c b:List ir} {σ σ1 σ':br} {R R1 R2:List aN} {t e it l o:bE} {v x y:PV} {p q:dS}
noncomputable abbrev St:=Fl × br × List aN
noncomputable def po(sp:Spec)(n:Nat)(cx:Cx)(ss:List ir)(σ:br)(R:List aN)(Φ:St->Prop):Prop:=∃o,exs sp n cx ss σ R=some o/\Φ o
noncomputable def sN(sp:Spec)(n:Nat)(cx:Cx)(r:List ir)(Φ:St->Prop)(o:St):Prop:=match o.1 with
 | .next=>po sp n cx r o.2.1 o.2.2 Φ
 | _=>Φ o
theorem aZ{Φ:St->Prop}(h:Φ (.next,σ,R)):po sp (n+1) cx [] σ R Φ:=⟨_,rfl,h⟩
theorem vi{z:St}(h:ex sp n cx s σ R=some z):exs sp (n+1) cx (s::r) σ R=uC z.1 z.2 (exs sp n cx r z.2.1 z.2.2):=bo (k:=λf y=>uC f y ((mn sp n).exs cx r y.1 y.2)) h rfl
theorem jq{Φ:St->Prop}{z:St}(h:ex sp n cx s σ R=some z)(k:sN sp n cx r Φ z):po sp (n+1) cx (s::r) σ R Φ:=by
 obtain⟨f,σ1,R1⟩:=z
 unfold po
 rw [vi h]
 cases f with
 | next=>exact k
 | _=>exact⟨_,rfl,k⟩
theorem aS(σ1:br){Φ:St->Prop}(h:ex sp n cx s σ R=some (.next,σ1,R1))(k:po sp n cx r σ1 R1 Φ):po sp (n+1) cx (s::r) σ R Φ:=jq h k
theorem Bu{Φ:St->Prop}(h:po sp n cx ss σ R (sN sp (n+1) cx r Φ))(hs:∀z,exs sp n cx ss σ R=some z->ex sp (n+1) cx s σ1 R1=some z):po sp (n+2) cx (s::r) σ1 R1 Φ:=by
 obtain⟨z,h1,h2⟩:=h
 exact jq (hs z h1) h2
theorem vj{z:St}(h:tv sp n cx t σ R=some (true,R1))(k:exs sp n cx a σ R1=some z):ex sp (n+1) cx (.If t a c p) σ R=some z:=bo (k:=λb R1=>(mn sp n).exs cx (bif b then a else c) σ R1) h k
theorem gV{z:St}(h:tv sp n cx t σ R=some (false,R1))(k:exs sp n cx c σ R1=some z):ex sp (n+1) cx (.If t a c p) σ R=some z:=bo (k:=λb R1=>(mn sp n).exs cx (bif b then a else c) σ R1) h k
theorem fb{Φ:St->Prop}(h:tv sp n cx t σ R=some (true,R1))(k:po sp n cx a σ R1 (sN sp (n+1) cx r Φ)):po sp (n+2) cx (.If t a c p::r) σ R Φ:=Bu k λz hz=>vj h hz
theorem cW{Φ:St->Prop}(h:tv sp n cx t σ R=some (false,R1))(k:po sp n cx c σ R1 (sN sp (n+1) cx r Φ)):po sp (n+2) cx (.If t a c p::r) σ R Φ:=Bu k λz hz=>gV h hz
theorem xM{hs:List tw}{h0:tw}{Φ:St->Prop}(k:po sp n cx b σ R (sN sp (n+1) cx r Φ)):po sp (n+2) cx (.Try b (h0::hs) [] [] p::r) σ R Φ:=Bu k λz hz=>hz
theorem zx{Φ:St->Prop}(h:Φ (.cont,σ,R)):po sp (n+2) cx (.Continue p::r) σ R Φ:=jq (z:=(.cont,σ,R)) rfl h
theorem nz{o:Option (Bool × List aN)}{b c:Bool}(h:o=some (b,R))(e:b=c):o=some (c,R):=e▸h
theorem Ce{o:Option (PV × List aN)}{b c:PV}(h:o=some (b,R))(e:b=c):o=some (c,R):=e▸h
theorem Cw{ak0:AK}{z:Option FS}(ha:ak t e=ak0)(h:FC (mn sp n) cx ak0 t e σ R=z):ex sp (n+2) cx (.Assign [t] e p) σ R=z:=show FC (mn sp n) cx (ak t e) t e σ R=z from ha.symm▸h
theorem H7(h:ev sp n cx e σ R=some (v,R1))(ha:ak t e = .plain)(hn:(fy t&&fy e)=false)(hb:iE cx t v σ=some σ1):ex sp (n+2) cx (.Assign [t] e p) σ R=some (.next,σ1,R1):=
 Cw ha (fV (c :=!(fy t&&fy e)) (by rw [hn];rfl) (bo h (c9 (k:=λσ'=>some (Fl.next,σ',R1)) hb rfl)))
theorem ch{Φ:St->Prop}(v:PV)(σ1:br)(h:ev sp n cx e σ R=some (v,R1))(ha:ak t e = .plain)(hn:(fy t&&fy e)=false)(hb:iE cx t v σ=some σ1)(k:po sp (n+2) cx r σ1 R1 Φ):po sp (n+3) cx (.Assign [t] e p::r) σ R Φ:=
 aS _ (H7 h ha hn hb) k
theorem cV{Φ:St->Prop}(v:PV)(h:ev sp n cx e (u8 (below cx.base R.length) σ R).1 (u8 (below cx.base R.length) σ R).2=some (v,R1))(k:Φ (.ret v,(u8 (below cx.base R.length) σ R).1,R1)):po sp (n+2) cx (.Return (some e) p::r) σ R Φ:=
 jq (z:=(.ret v,(u8 (below cx.base R.length) σ R).1,R1)) (bo (k:=λv R1=>some (Fl.ret v,(u8 (below cx.base R.length) σ R).1,R1)) h rfl) k
theorem yB{a b c:LS}(h:mkS c=some (.str c))(e:a++b=c):Cu .Add (.str a) (.str b)=some (.str c):=by subst e;exact h
theorem jx{op:cw}(h1:ev sp n cx l σ R=some (x,R1))(h2:ev sp n cx e σ R1=some (y,R2))(hn:GT l op e=none)(hb:Cu op x y=some v):ev sp (n+1) cx (.BinOp l op e p) σ R=some (v,R2):=
 show Im (mn sp n) cx l op e σ R=_ from MZ hn (bo h1 (bo h2 (gU hb)))
theorem kd{d:bE}{b:Bool}(h:tv sp n cx t σ R=some (b,R1))(k:ev sp n cx (bif b then e else d) σ R1=some (v,R2)):ev sp (n+1) cx (.IfExp t e d p) σ R=some (v,R2):=bo (k:=λc R1=>(mn sp n).ev cx (bif c then e else d) σ R1) h k
theorem jp(σ1:br){Φ:St->Prop}(h:po sp (n+2) cx [s] σ R λo=>o=(.next,σ1,R1))(k:po sp (n+1) cx r σ1 R1 Φ):po sp (n+2) cx (s::r) σ R Φ:=by
 obtain⟨z,h1,rfl⟩:=h
 refine aS σ1 (R1:=R1) ?_ k
 obtain⟨f,y,h2,h3⟩:=gH (x:=ex sp (n+1) cx s σ R) (k:=λf y=>uC f y ((mn sp (n+1)).exs cx [] y.1 y.2)) h1
 cases f with
 | next=>exact h2.trans (congrArg (λz=>some (Fl.next,z)) (si (eR (eR (aW h3)).2).1 (eR (eR (aW h3)).2).2))
 | _=>cases h3
theorem cN{f:aB}{fi:Jf}{pos:List PV}{kw:List (Str × PV)}(h1:Fe pw f=some fi)(h2:vA fi.fd.params fi.dflt pos kw=some σ)(h3:po sp n ⟨fi.fd.scope.names,R.length⟩ fi.fd.body σ R λo=>o.1 = .ret v/\o.2.2=R1):nB sp pw n f pos kw R=some (v,R1):=by
 obtain⟨⟨f,σ',R'⟩,h4,h5,h6⟩:=h3
 cases h5
 cases h6
 exact c9 h1 (c9 h2 (bo h4 rfl))
theorem et{f:aB}{pos:List PV}(h:nB (fE k) pw 400 f pos [] [.tab]=some (v,R1))(h1:bF pos=true)(h3:noObj v=true)(h4:lO R1=true)(h2:xU R=true):fE (k+1) f pos [] R=some (v,R):=by
 show Nv (nB (fE k) pw 400) f pos [] R=_
 unfold Nv
 simp only [h1,h2,h,h3,h4,tu,MK,if_true]
theorem qJ{f:aB}{pos:List PV}{kw:List (Str × PV)}(h1:(bF pos&&(kw.isEmpty&&xU R))=false):fE (k+1) f pos kw R=nB (fE k) pw 400 f pos kw R:=by
 show Nv (nB (fE k) pw 400) f pos kw R=_
 unfold Nv
 rw [h1,if_neg aX]
theorem qO{Φ Ψ:St->Prop}(h:po sp n cx ss σ R Φ)(k:∀z,Φ z->Ψ z):po sp n cx ss σ R Ψ:=let ⟨z,h1,h2⟩:=h;⟨z,h1,k z h2⟩
noncomputable def FH(step:br->List aN->PV->Option St)(l:List PV)(σ:br)(R:List aN)(Φ:St->Prop):Prop:=∃z,u9 step l σ R=some z/\Φ z
noncomputable def CJ(Inv:List PV->br->List aN->Prop)(xs:List PV)(Φ:St->Prop)(z:St):Prop:=match z.1 with
 | .next=>Inv xs z.2.1 z.2.2
 | .cont=>Inv xs z.2.1 z.2.2
 | .brk=>Φ (.next,z.2.1,z.2.2)
 | .ret _=>Φ z
theorem ij{step:br->List aN->PV->Option St}(Inv:List PV->br->List aN->Prop){Φ:St->Prop}(h:∀x xs σ R,Inv (x::xs) σ R->∃z,step σ R x=some z/\CJ Inv xs Φ z)(h0:∀σ R,Inv [] σ R->Φ (.next,σ,R))(l:List PV):∀σ R,Inv l σ R->FH step l σ R Φ:=by
 induction l with
 | nil=>exact λσ R i=>⟨_,rfl,h0 σ R i⟩
 | cons x xs ih=>
  intro σ R i
  obtain⟨⟨f,σ',R'⟩,h1,h2⟩:=h x xs σ R i
  cases f with
  | next=>obtain⟨z,h3,h4⟩:=ih σ' R' h2;exact⟨z,bo (k:=λf y=>lg f y (u9 step xs y.1 y.2)) h1 h3,h4⟩
  | cont=>obtain⟨z,h3,h4⟩:=ih σ' R' h2;exact⟨z,bo (k:=λf y=>lg f y (u9 step xs y.1 y.2)) h1 h3,h4⟩
  | brk=>exact⟨_,bo (k:=λf y=>lg f y (u9 step xs y.1 y.2)) h1 rfl,h2⟩
  | ret v=>exact⟨_,bo (k:=λf y=>lg f y (u9 step xs y.1 y.2)) h1 rfl,h2⟩
noncomputable abbrev ul(sp:Spec)(n:Nat)(cx:Cx)(t:bE)(b:List ir):br->List aN->PV->Option St:=w8 (mn sp n) cx t b
theorem gY{xs:List PV}{Φ:St->Prop}(h0:forIt sp n cx it σ R=some (xs,σ1,R1))(he:(iI cx it && !fy t)=false)(k:FH (ul sp n cx t b) xs σ1 R1 (sN sp (n+1) cx r Φ)):po sp (n+2) cx (.For t it b [] p::r) σ R Φ:=by
 obtain⟨z,h1,h2⟩:=k
 exact jq (z:=z) (show grd (!(iI cx it && !fy t)) (bnd (forIt sp n cx it σ R) λl y=>u9 (w8 (mn sp n) cx t b) l y.1 y.2)=_ from fV (by rw [he];rfl) (bo h0 h1)) h2
theorem xZ{ik0:IK}{z:Option (List PV × List aN)}(ha:ik cx it=ik0)(h:KE (mn sp n) cx ik0 it σ R=z):itv sp (n+1) cx it σ R=z:=show KE (mn sp n) cx (ik cx it) it σ R=z from ha.symm▸h
theorem z6{xs:List PV}(h:itv sp n cx it σ R=some (xs,R1))(hl:qW R σ it=none):forIt sp (n+1) cx it σ R=some (xs,σ,R1):=show optO (qW R σ it) (bnd (itv sp n cx it σ R) λl R1=>some (l,σ,R1)) (λy=>some (y.2,rf y.1 σ R))=_ from MZ hl (bo h rfl)
theorem il{xs:List PV}(h:ev sp n cx it σ R=some (.list xs,R1))(hk:ik cx it = .plain):itv sp (n+1) cx it σ R=some (xs,R1):=xZ hk (bo (k:=λv R1=>Ei v none λl=>some (l,R1)) h rfl)
theorem gG{xs:List PV}(h:ev sp n cx it σ R=some (.list xs,R1))(hk:ik cx it = .plain)(hl:qW R σ it=none):forIt sp (n+2) cx it σ R=some (xs,σ,R1):=z6 (il h hk) hl
theorem jn{Φ:St->Prop}(σ':br)(hb:iE cx t x σ=some σ')(k:po sp n cx b σ' R Φ):∃z,ul sp n cx t b σ R x=some z/\Φ z:=by
 obtain⟨z,h1,h2⟩:=k
 exact⟨z,c9 hb h1,h2⟩
theorem qI{z:St}(σ':br)(hb:iE cx t x σ=some σ')(k:exs sp n cx b σ' R=some z):ul sp n cx t b σ R x=some z:=c9 hb k
theorem dp(h:ex sp (n+1) cx s σ R=some (.next,σ1,R1)):exs sp (n+2) cx [s] σ R=some (.next,σ1,R1):=vi h
theorem A9{test:br->List aN->Option (Bool × List aN)}{body:br->List aN->Option FS}{m:Nat}{f:Fl}{y':br × List aN}(h:test σ R=some (true,R1))(hb:body σ R1=some (f,y')):Ba test body (m+1) σ R=lg f y' (Ba test body m y'.1 y'.2):=
 bo (k:=λc R'=>bif c then bnd (body σ R') λf y=>lg f y (Ba test body m y.1 y.2)else some (.next,σ,R')) h (bo (k:=λf y=>lg f y (Ba test body m y.1 y.2)) hb rfl)
theorem CZ{test:br->List aN->Option (Bool × List aN)}{body:br->List aN->Option FS}{m:Nat}(h:test σ R=some (false,R1)):Ba test body (m+1) σ R=some (.next,σ,R1):=
 bo (k:=λc R'=>bif c then bnd (body σ R') λf y=>lg f y (Ba test body m y.1 y.2)else some (.next,σ,R')) h rfl
theorem Ai{nx:List aN->Option (Option PV × List aN)}{m:Nat}{l:List PV}(h:nx R=some (some v,R1))(hb:kz nx m R1=some (l,R2)):kz nx (m+1) R=some (v::l,R2):=
 bo (k:=λo R'=>optO o (some ([],R')) λv=>bnd (kz nx m R') λys R''=>some (v::ys,R'')) h (bo (k:=λys R''=>some (v::ys,R'')) hb rfl)
theorem Fm{nx:List aN->Option (Option PV × List aN)}{m:Nat}(h:nx R=some (none,R1)):kz nx (m+1) R=some ([],R1):=
 bo (k:=λo R'=>optO o (some ([],R')) λv=>bnd (kz nx m R') λys R''=>some (v::ys,R'')) h rfl
theorem tJ{γ:Type}{j:Nat}{C:aB}{fs:List (Str × PV)}{k:Nat->aB->List (Str × PV)->Option γ}{z:Option γ}(h:R[j]? = some (.inst C fs))(hk:k j C fs=z):jv R (.obj j) k=z:=c9 h hk
theorem Ek{z:St}{Φ:St->Prop}(h:Ba (λσ R=>tv sp n cx t σ R) (λσ R=>exs sp n cx b σ R) 100000 σ R=some z)(k:sN sp (n+1) cx r Φ z):po sp (n+2) cx (.While t b [] p::r) σ R Φ:=
 jq (z:=z) h k
noncomputable def eh(k:Nat)(f:aB)(pos:List PV)(v:PV):Prop:=∀R,xU R=true->fE k f pos [] R=some (v,R)
theorem zL{f:List aN->PV->Option (Option PV × List aN)}{g:PV->Option PV}{l:List PV}{R:List aN}:(∀x∈l,f R x=some (g x,R))->mf f l R=some (l.filterMap g,R):=by
 induction l with
 | nil=>exact λζ=>rfl
 | cons x r ih=>
  intro h
  refine bo (k:=λo R'=>bnd (mf f r R') λys R''=>some (optO o ys (· :: ys),R'')) (h x aj) (bo (ih λy hy=>h y (an _ hy)) ?_)
  rw [gy]
  cases g x<;>rfl
theorem ro{f:Str}{fp:dS}{args:List bE}{kws:List cQ}{ck:CK}{z:Option (PV × List aN)}(hg:gl cx f=true)(hk:lT (ff f) args kws=ck)(h:ll sp (mn sp n) cx ck args kws σ R=z):ev sp (n+2) cx (.Call (.Name f fp) args kws p) σ R=z:=
 show grd (gl cx f) (ll sp (mn sp n) cx (lT (ff f) args kws) args kws σ R)=z from fV hg (hk.symm▸h)
theorem eA{f:Str}{fp:dS}{g:aB}{args:List bE}{as:List PV}(hg:gl cx f=true)(hk:lT (ff f) args [] = .fn g)(hc:(!Ok g||args.isEmpty)=false)(ha:evs sp n cx args σ R=some (as,R1))(hs:sp g as [] R1=some (v,R2)):ev sp (n+2) cx (.Call (.Name f fp) args [] p) σ R=some (v,R2):=
 ro hg hk (fV (c:=Ok g && !args.isEmpty) (by cases h1:Ok g<;>cases h2:args.isEmpty<;>rw [h1,h2]at hc<;>first | rfl | cases hc) (bo ha hs))
theorem sF{f:Str}{fp:dS}{g:af}{args:List bE}{as:List PV}(hg:gl cx f=true)(hk:lT (ff f) args [] = .bi g)(ha:evs sp n cx args σ R=some (as,R1))(hs:Ol R1 g as=some v):ev sp (n+2) cx (.Call (.Name f fp) args [] p) σ R=some (v,R1):=ro hg hk (bo (k:=λas R1=>fM (Ol R1 g as) R1) ha (gU hs))
theorem fF(h:ev sp (n+1) cx e σ R=some (v,R1)):evs sp (n+2) cx [e] σ R=some ([v],R1):=bo (k:=λv R1=>bnd ((mn sp (n+1)).evs cx [] σ R1) λvs R2=>some (v::vs,R2)) h rfl
theorem pf(h:ev sp (n+2) cx l σ R=some (x,R1))(k:ev sp (n+1) cx e σ R1=some (y,R2)):evs sp (n+3) cx [l,e] σ R=some ([x,y],R2):=bo (k:=λv R1=>bnd ((mn sp (n+2)).evs cx [e] σ R1) λvs R2=>some (v::vs,R2)) h (bo (fF k) rfl)
theorem eN{m:Str}{apos:dS}{args:List bE}{as:List PV}(hg:(qo o&&(apos.endLine==p.line)&&decide (args.length<2))=true)(ho:ev sp n cx o σ R=some (x,R1))(ha:evs sp n cx args σ R1=some (as,R2)){z:PV × List aN}(hs:sB sp R1 x m as R2=some z):ev sp (n+1) cx (.Call (.Attribute o m apos) args [] p) σ R=some z:=
 show grd (qo o&&((apos.endLine==p.line)&&decide (args.length<2))) (bnd (ev sp n cx o σ R) λov R1=>bnd (evs sp n cx args σ R1) λas R2=>sB sp R1 ov m as R2)=_ from fV (LU .. ▸ hg) (bo ho (bo ha hs))
theorem mi{i:bE}(h:ev sp n cx e σ R=some (x,R1))(hg:(cL e||mh x)=true)(k:sbv sp n cx x i σ R1=some (v,R2)):ev sp (n+1) cx (.Subscript e i p) σ R=some (v,R2):=bo (k:=λx R1=>grd (cL e||mh x) ((mn sp n).sbv cx x i σ R1)) h (fV hg k)
theorem ge{elt:bE}{gs:List fJ}{sc:Scope}{ys:List PV}(h:cmpv sp n cx elt gs sc σ R=some (ys,R1))(hl:ys.length<=SZ):ev sp (n+1) cx (.ListComp elt gs sc p) σ R=some (.list ys,R1):=bo (k:=λl R1=>fM (mkL l) R1) h (gU (if_pos hl))
theorem yv{elt:bE}{ifs:List bE}{sc:Scope}{l ys:List PV}(hc:(cL t && !iI cx it&&qN cx σ sc)=true)(hi:itv sp (n+1) cx it σ R=some (l,R1))(h:mf (nt (mn sp (n+1)) ⟨sc.names,cx.base⟩ t elt ifs (eU sc.names σ)) l R1=some (ys,R2)) :
  cmpv sp (n+2) cx elt [⟨t,it,ifs,0⟩] sc σ R=some (ys,R2):=
 show grd (decide ((0:Int)=0)&&(cL t&&(!iI cx it&&qN cx σ sc))) (bnd (itv sp (n+1) cx it σ R) λl R1=>mf (nt (mn sp (n+1)) ⟨sc.names,cx.base⟩ t elt ifs (eU sc.names σ)) l R1)=_ from fV (show(cL t&&(!iI cx it&&qN cx σ sc))=true from LU .. ▸ hc) (bo hi h)
theorem vu{elt:bE}{ifs:List bE}{sc:Scope}{l:List PV}(g:PV->Option PV)(hc:(cL t && !iI cx it&&qN cx σ sc)=true)(hi:itv sp (n+1) cx it σ R=some (l,R1))
  (h:∀x∈l,∃σ' b,iE ⟨sc.names,cx.base⟩ t x (eU sc.names σ)=some σ'/\tvs sp (n+1) ⟨sc.names,cx.base⟩ .And ifs σ' R1=some (b,R1)/\(b=true->∃v,ev sp (n+1) ⟨sc.names,cx.base⟩ elt σ' R1=some (v,R1)/\g x=some v)/\(b=false->g x=none)) :
  cmpv sp (n+2) cx elt [⟨t,it,ifs,0⟩] sc σ R=some (l.filterMap g,R1):=yv hc hi (zL λx hx=>by
 obtain⟨σ',b,k1,k2,k3,k4⟩:=h x hx
 refine c9 k1 (bo k2 ?_)
 cases b with
 | true=>
  obtain⟨v,k5,k6⟩:=k3 rfl
  exact bo (k:=λv R3=>some (some v,R3)) k5 (by rw [k6])
 | false=>exact congrArg (λz=>some (z,R1)) (k4 rfl).symm)
theorem jy{elt:bE}{sc:Scope}{l:List PV}(g:PV->PV)(hc:(cL t && !iI cx it&&qN cx σ sc)=true)(hi:itv sp (n+1) cx it σ R=some (l,R1))
  (h:∀x∈l,∃σ',iE ⟨sc.names,cx.base⟩ t x (eU sc.names σ)=some σ'/\ev sp (n+1) ⟨sc.names,cx.base⟩ elt σ' R1=some (g x,R1)) :
  cmpv sp (n+2) cx elt [⟨t,it,[],0⟩] sc σ R=some (l.map g,R1):=by
 rw [<-List.filterMap_eq_map]
 refine vu (λx=>some (g x)) hc hi λx hx=>?_
 obtain⟨σ',k1,k2⟩:=h x hx
 exact⟨σ',true,k1,rfl,λζ=>⟨_,k2,rfl⟩,λq=>nomatch q⟩
theorem uK{step:br->List aN->PV->Option St}{Φ:St->Prop}(S:Option PV->br)(f:PV->PV)(init vs:List PV)(hb:init.length+vs.length<100000)
  (hs:∀o x acc,x∈vs->acc.length<100000->step (S o) [.tab,.lst acc] x=some (.next,S (some x),[.tab,.lst (acc++[f x])]))(he:∀o,Φ (.next,S o,[.tab,.lst (init++vs.map f)])):FH step vs (S none) [.tab,.lst init] Φ:=by
 refine ij (λxs σ R=>∃o done,vs=done++xs/\σ=S o/\R=([.tab,.lst (init++done.map f)]:List aN)) ?_ ?_ _ _ _ ⟨none,[],rfl,rfl,by rw [nO,aM]⟩
 ·rintro x xs σ R ⟨o,done,h1,rfl,rfl⟩
  have hm:x∈vs:=by rw [h1];exact cf _ aj
  have hl:(init++done.map f).length<100000:=by rw [ai,ae];rw [h1,ai]at hb;exact Pp hb
  refine⟨_,hs o x _ hm hl,some x,done++[x],by rw [h1,aP];rfl,rfl,?_⟩
  rw [bW,aP];rfl
 ·rintro σ R ⟨o,done,h1,rfl,rfl⟩
  rw [aM]at h1
  subst h1
  exact he o
theorem ja{op:mU}{c:Bool}(h1:uW cx l=false)(h2:ev sp n cx l σ R=some (x,R1))(h3:ev sp n cx e σ R1=some (y,R2))(h4:td R2 op x y=some c):tv sp (n+2) cx (.Compare l [op] [e] p) σ R=some (c,R2):=
 DL (x:=grd (Qb op&&yb e) (C2 l none λζ e=>bnd ((mn sp n).ev cx e σ R) λv R1=>sY v none λs=>some (!s.any cU,R1))) h1 (bo (k:=λa R1=>bnd ((mn sp n).ev cx e σ R1) λb R2=>fM (td R2 op a b) R2) h2 (bo (k:=λb R2=>fM (td R2 op x b) R2) h3 (gU h4)))
section
variable {es:List bE} {c:Bool}
theorem kZ{op:BoolOp}(h:tv sp n cx e σ R=some (c,R1))(hc:(c==(op == .Or))=true):tvs sp (n+1) cx op (e::es) σ R=some (c,R1):=bo (k:=λb R1=>bif b==(op == .Or)then some (b,R1)else(mn sp n).tvs cx op es σ R1) h (At hc rfl)
theorem nY{op:BoolOp}{z:Option (Bool × List aN)}(h:tv sp n cx e σ R=some (c,R1))(hc:(c==(op == .Or))=false)(k:tvs sp n cx op es σ R1=z):tvs sp (n+1) cx op (e::es) σ R=z:=bo (k:=λb R1=>bif b==(op == .Or)then some (b,R1)else(mn sp n).tvs cx op es σ R1) h (DL hc k)
theorem JP(h:tv sp n cx e σ R=some (true,R1)):tvs sp (n+1) cx .Or (e::es) σ R=some (true,R1):=kZ h rfl
theorem mX(h:tv sp n cx e σ R=some (false,R1))(k:tvs sp n cx .Or es σ R1=some (c,R2)):tvs sp (n+1) cx .Or (e::es) σ R=some (c,R2):=nY h rfl k
theorem Gl(h:tv sp n cx e σ R=some (true,R1))(k:tvs sp n cx .And es σ R1=some (c,R2)):tvs sp (n+1) cx .And (e::es) σ R=some (c,R2):=nY h rfl k
theorem ze(h:tv sp n cx e σ R=some (false,R1)):tvs sp (n+1) cx .And (e::es) σ R=some (false,R1):=kZ h rfl
theorem Bd(h:tv sp n cx e σ R=some (true,R1)):tv sp (n+2) cx (.BoolOp .Or (e::es) p) σ R=some (true,R1):=kZ (op:=.Or) h rfl
theorem qg(h:tv sp n cx e σ R=some (false,R1))(k:tvs sp n cx .Or es σ R1=some (c,R2)):tv sp (n+2) cx (.BoolOp .Or (e::es) p) σ R=some (c,R2):=nY (op:=.Or) h rfl k
theorem tB(h:tv sp n cx e σ R=some (true,R1))(k:tvs sp n cx .And es σ R1=some (c,R2)):tv sp (n+2) cx (.BoolOp .And (e::es) p) σ R=some (c,R2):=nY (op:=.And) h rfl k
theorem mW(h:tv sp (n+1) cx e σ R=some (c,R1)):tvs sp (n+2) cx .And [e] σ R=some (c,R1):=by
 cases c with
 | true=>exact nY h rfl rfl
 | false=>exact kZ h rfl
end
theorem iw(h:ev sp n cx e σ R=some (.none,R1)):ex sp (n+1) cx (.Expr e p) σ R=some (.next,σ,R1):=bo (k:=λv R1=>grd (qU v) (some (Fl.next,σ,R1))) h rfl
theorem H5{y:LS}(h:ev sp n cx e σ R=some (.str y,R1)):ex sp (n+1) cx (.Expr e p) σ R=some (.next,σ,R1):=bo (k:=λv R1=>grd (qU v) (some (Fl.next,σ,R1))) h rfl
theorem yi{f:Str}{fp:dS}{op:cw}(hl:σ.lookup f=some x)(h:ev sp n cx e σ R=some (y,R1))(ha:rt op x y=some v)(hs:qL cx σ f v=some σ1):ex sp (n+2) cx (.AugAssign (.Name f fp) op e p) σ R=some (.next,σ1,R1):=
 c9 (k:=λa=>bnd ((mn sp n).ev cx e σ R) λb R1=>optO (rt op a b) none λv=>Eg cx σ f v R1) hl (bo h (c9 ha (c9 (k:=λσ'=>some (Fl.next,σ',R1)) hs rfl)))
end
end Mine.W
end
section
namespace Mine.W
noncomputable def GZ:List LS:=[[97],[97,98],[46,46],[97,32,99],[],[39],[65],[35],[46,46,46],[92,34]]
noncomputable def js(i:Nat):LS:=GZ.getD i []
noncomputable def pF(x:Int):LS:=(bif decide (x<0)then [47,46]else [46])++[47]++js (x.natAbs % 10)
noncomputable def nX(x:Int):LS:=bif decide (99<x.natAbs)then pF x++[47]++js (x.natAbs / 100 % 10)else pF x
noncomputable def gz(x:Int):LS:=bif nX x==[46,47]then []else nX x
theorem qR(i:Nat)(h:i<10):iD [PV.str [97],.str [97,98],.str [46,46],.str [97,32,99],.str [],.str [39],.str [65],.str [35],.str [46,46,46],.str [92,34]] (i:Int)=some (.str (js i))/\(js i).length<=3:=by
 have:∀i:Fin 10,iD [PV.str [97],.str [97,98],.str [46,46],.str [97,32,99],.str [],.str [39],.str [65],.str [35],.str [46,46,46],.str [92,34]] ((i.1:Nat):Int)=some (.str (js i.1))/\(js i.1).length<=3:=by
  intro i
  match i with
  | ⟨0,_⟩ | ⟨1,_⟩ | ⟨2,_⟩ | ⟨3,_⟩ | ⟨4,_⟩ | ⟨5,_⟩ | ⟨6,_⟩ | ⟨7,_⟩ | ⟨8,_⟩ | ⟨9,_⟩=>exact⟨rfl,bw rfl⟩
  | ⟨n+10,h⟩=>exact absurd h (kr (gZ 10 n))
 exact this ⟨i,h⟩
theorem jc{l:LS}(h:l.length<=SZ):mkS l=some (.str l):=by unfold mkS;rw [if_pos h]
theorem oC(a b:Nat):qb (a:Int) (b:Int)=((a % b:Nat):Int):=by
 rw [Int.fmod_eq_emod_of_nonneg _ (gT b)];rfl
theorem kc(a b:Nat):kH (a:Int) (b:Int)=((a / b:Nat):Int):=by
 rw [Int.fdiv_eq_ediv_of_nonneg _ (gT b)];rfl
theorem uS(b:Bool)(x y:LS)(n:Nat)(hx:x.length<=n)(hy:y.length<=n):(bif b then x else y).length<=n:=by cases b<;>assumption
theorem ud(x:Int):(pF x).length<=6:=by
 have h1:=(qR (x.natAbs % 10) (l7 _ (by decide))).2
 have h2:=uS (decide (x<0)) [47,46] [46] 2 (by decide) (by decide)
 unfold pF
 rw [ai,ai]
 exact cq (cq h2 (aF 1)) h1
theorem zb(x:Int):(nX x).length<=10:=by
 have h1:=(qR (x.natAbs / 100 % 10) (l7 _ (by decide))).2
 have h2:=ud x
 refine uS _ _ _ _ ?_ (ah h2 (by decide))
 rw [ai,ai]
 exact cq (cq h2 (aF 1)) h1
theorem q9{a b:Nat}(h:a<=b)(hb:b<=SZ):a<=SZ:=ah h hb
noncomputable abbrev gc:List PV:=[.str [97],.str [97,98],.str [46,46],.str [97,32,99],.str [],.str [39],.str [65],.str [35],.str [46,46,46],.str [92,34]]
theorem J9(k:Nat)(x:Int):nB (fE k) pw 400 899 [.int x] [] [.tab]=some (.str (gz x),[.tab,.dead]):=by
 have p1:=qR (x.natAbs % 10) (l7 _ (by decide))
 have p2:=qR (x.natAbs / 100 % 10) (l7 _ (by decide))
 have hl0:=uS (decide (x<0)) [47,46] [46] 2 (by decide) (by decide)
 refine cN (fi:=⟨bv (aL pw 51),[]⟩) (σ:=[("x",.int x)]) ∅ ∅ ?_
 refine aS [("x",.int x),("pieces",.obj 1)] (R1:=[.tab,.lst gc]) ∅ ?_
 refine aS [("x",.int x),("pieces",.obj 1),("size",.int x.natAbs)] (R1:=[.tab,.lst gc]) ∅ ?_
 refine ch (.str (pF x)) [("x",.int x),("pieces",.obj 1),("size",.int x.natAbs),("way",.str (pF x))] (R1:=[.tab,.lst gc]) ?_ ∅ ∅ ∅ ?_
 ·refine jx (x:=.str ((bif decide (x<0)then [47,46]else [46])++[47])) (y:=.str (js (x.natAbs % 10))) (R1:=[.tab,.lst gc]) (jx (x:=.str (bif decide (x<0)then [47,46]else [46])) (y:=.str [47]) (R1:=[.tab,.lst gc]) (kd (b:=decide (x<0)) (R1:=[.tab,.lst gc]) ∅ ?_) ∅ ∅ ?_) ?_ ∅ ?_
  ·cases decide (x<0)<;>kernel_rfl
  ·exact jc (q9 (by rw [ai];exact cq hl0 (aF 1)) (by decide))
  ·refine cS (b:=(iD gc (qb (x.natAbs:Int) (10:Nat))).map λv=>(v,[.tab,.lst gc])) ∅ ?_
   rw [oC,p1.1];rfl
  ·exact jc (q9 (ud x) (by decide))
 refine jp [("x",.int x),("pieces",.obj 1),("size",.int x.natAbs),("way",.str (nX x))] (R1:=[.tab,.lst gc]) ?_ ?_
 ·by_cases h:99<x.natAbs
  ·refine fb (R1:=[.tab,.lst gc]) (nz (b:=decide ((x.natAbs:Int)>99)) ∅ (by rw [decide_eq_true_eq];exact Uc h)) ?_
   have hw:nX x=pF x++[47]++js (x.natAbs / 100 % 10):=by unfold nX;rw [decide_eq_true h];rfl
   refine ch (.str (nX x)) [("x",.int x),("pieces",.obj 1),("size",.int x.natAbs),("way",.str (nX x))] (R1:=[.tab,.lst gc]) ?_ ∅ ∅ ∅ ?_
   ·refine jx (x:=.str (pF x++[47])) (y:=.str (js (x.natAbs / 100 % 10))) (R1:=[.tab,.lst gc]) (jx (x:=.str (pF x)) (y:=.str [47]) (R1:=[.tab,.lst gc]) ∅ ∅ ∅ ?_) ?_ ∅ ?_
    ·exact jc (q9 (by rw [ai];exact cq (ud x) (aF 1)) (by decide))
    ·refine cS (b:=(iD gc (qb (kH (x.natAbs:Int) (100:Nat)) (10:Nat))).map λv=>(v,[.tab,.lst gc])) ∅ ?_
     rw [kc,oC,p2.1];rfl
    ·rw [hw];exact jc (q9 (hw▸zb x) (by decide))
   exact aZ (aZ rfl)
  ·refine cW (R1:=[.tab,.lst gc]) (nz (b:=decide ((x.natAbs:Int)>99)) ∅ (by rw [decide_eq_false_iff_not];exact Ua h)) ?_
   have hw:nX x=pF x:=by unfold nX;rw [decide_eq_false h];rfl
   rw [hw]
   exact aZ (aZ rfl)
 refine cV (.str (gz x)) (R1:=[.tab,.dead]) (kd (b:=nX x==[46,47]) (R1:=[.tab,.dead]) ∅ ?_) ⟨rfl,rfl⟩
 unfold gz
 cases nX x==[46,47]<;>kernel_rfl
theorem Dx{k:Nat}{x:Int}{R:List aN}(hR:xU R=true):fE (k+1) 899 [.int x] [] R=some (.str (gz x),R):=et (J9 k x) rfl rfl rfl hR
end Mine.W
end
section
namespace Mine.W
theorem H2{k:Nat}{s:LS}{R:List aN}(hR:xU R=true):fE (k+1) 144 [.str s] [] R=some (.str s,R):=
 et (R1:=[.tab]) ∅ rfl rfl rfl hR
theorem GO(k:Nat)(p:LS)(h:(p.take 1==[47])=false):nB (fE (k+1)) pw 400 172 [.str (47::p)] [] [.tab]=some (.tup [.str [],.str [47],.str p],[.tab]):=by
 refine cN (fi:=⟨bv (aL pw 23),[]⟩) (σ:=[("p",.str (47::p))]) ∅ ∅ ?_
 refine aS [("p",.str (47::p))] (R1:=[.tab]) ∅ ?_
 refine aS [("p",.str (47::p)),("sep",.str [47]),("empty",.str [])] (R1:=[.tab]) ∅ ?_
 refine cW (R1:=[.tab]) ∅ ?_
 refine fb (R1:=[.tab]) (Bd (R1:=[.tab]) (nz (b :=!(p.take 1==[47])) ∅ (by rw [h];rfl))) ?_
 exact cV (.tup [.str [],.str [47],.str p]) (R1:=[.tab]) ∅ ⟨rfl,rfl⟩
theorem NS{k:Nat}{p:LS}{R:List aN}(h:(p.take 1==[47])=false)(hR:xU R=true):fE (k+2) 172 [.str (47::p)] [] R=some (.tup [.str [],.str [47],.str p],R):=
 et (GO k p h) rfl rfl rfl hR
noncomputable def It(s:LS):Bool:=(s.drop (s.length-1)).take 1==[47]
noncomputable def CE(a b c:LS):Prop:=(∃b',b=47::b'/\c=b)\/((b=[] \/ ∃b',b=46::b')/\((a=[47]/\c=47::b)\/(∃a',a=47::a'/\It a=false/\c=a++(47::b))))/\a.length+b.length<100000
theorem GR(k:Nat)(a b c:LS)(hj:CE a b c):nB (fE (k+1)) pw 400 165 [.str a,.str b] [] [.tab]=some (.str c,[.tab]):=by
 refine cN (fi:=⟨bv (aL pw 21),[]⟩) (σ:=[("a",.str a),("p",.tup [.str b])]) ∅ ∅ ?_
 refine aS [("a",.str a),("p",.tup [.str b])] (R1:=[.tab]) ∅ ?_
 refine aS [("a",.str a),("p",.tup [.str b]),("sep",.str [47])] (R1:=[.tab]) ∅ ?_
 refine aS [("a",.str a),("p",.tup [.str b]),("sep",.str [47]),("path",.str a)] (R1:=[.tab]) ∅ ?_
 refine xM ?_
 refine gY (xs:=[.str b]) (σ1:=[("a",.str a),("p",.tup [.str b]),("sep",.str [47]),("path",.str a)]) (R1:=[.tab]) ∅ ∅ ?_
 refine ij (λxs σ R=>(xs=([.str b]:List PV)/\σ=([("a",.str a),("p",.tup [.str b]),("sep",.str [47]),("path",.str a)]:br)/\R=([.tab]:List aN))\/(xs=[]/\σ=([("a",.str a),("p",.tup [.str b]),("sep",.str [47]),("path",.str c),("b",.str b)]:br)/\R=([.tab]:List aN))) ?_ ?_ _ _ _ (av ⟨rfl,rfl,rfl⟩)
 ·rintro x xs σ R (⟨h1,rfl,rfl⟩ | ⟨h1,_⟩)
  ·cases h1
   refine jn [("a",.str a),("p",.tup [.str b]),("sep",.str [47]),("path",.str a),("b",.str b)] ∅ ?_
   refine aS [("a",.str a),("p",.tup [.str b]),("sep",.str [47]),("path",.str a),("b",.str b)] (R1:=[.tab]) ∅ ?_
   refine jp [("a",.str a),("p",.tup [.str b]),("sep",.str [47]),("path",.str c),("b",.str b)] (R1:=[.tab]) ?_ (aZ (am ⟨rfl,rfl,rfl⟩))
   rcases hj with ⟨b',rfl,rfl⟩ | ⟨⟨hb,hc⟩,hl⟩
   ·refine fb (R1:=[.tab]) ∅ ?_
    exact aS _ ∅ (aZ (aZ rfl))
   ·have hla:a≠[]:=by rcases hc with ⟨rfl,_⟩ | ⟨a',rfl,_⟩<;>exact λq=>nomatch q
    refine cW (R1:=[.tab]) ?_ ?_
    ·rcases hc with ⟨rfl,_⟩ | ⟨a',rfl,_⟩<;>rcases hb with rfl | ⟨b',rfl⟩<;>kernel_rfl
    rcases hc with ⟨rfl,rfl⟩ | ⟨a',rfl,he,rfl⟩
    ·refine fb (R1:=[.tab]) ∅ ?_
     exact aS _ (yi (x:=.str [47]) (y:=.str b) (v:=.str (47::b)) (R1:=[.tab]) ∅ ∅ (jc (q9 (b:=100000) (by show b.length+1<=_;simp only [ao,ci]at hl;exact T9 hl) (by decide))) ∅) (aZ (aZ (aZ rfl)))
    ·refine cW (R1:=[.tab]) (nz (b:=decide (1<=(47::a').length)&&It (47::a')) ∅ (by rw [he,jK])) ?_
     refine aS _ (yi (x:=.str (47::a')) (y:=.str (47::b)) (v:=.str (47::a'++47::b)) (R1:=[.tab]) ∅ (jx (x:=.str [47]) (y:=.str b) (R1:=[.tab]) ∅ ∅ ∅ (jc (l:=47::b) (q9 (b:=100000) (by show b.length+1<=_;simp only [ao]at hl;exact T8 hl) (by decide)))) (jc (q9 (b:=100001) (by rw [ai];show _+(b.length+1)<=_;exact T7 hl) (by decide))) ∅) (aZ (aZ (aZ rfl)))
  ·cases h1
 ·rintro σ R (⟨h1,_⟩ | ⟨_,rfl,rfl⟩)
  ·cases h1
  ·refine aZ ?_
   exact cV (.str c) (R1:=[.tab]) ∅ ⟨rfl,rfl⟩
theorem NU{k:Nat}{a b c:LS}{R:List aN}(hj:CE a b c)(hR:xU R=true):fE (k+2) 165 [.str a,.str b] [] R=some (.str c,R):=
 et (GR k a b c hj) rfl rfl rfl hR
end Mine.W
end
section
namespace Mine.W
theorem Hp{γ:Type}{R:List aN}{j:Nat}{l:List PV}{k:List PV->Option γ}{z:Option γ}(h:R[j]? = some (.lst l))(hk:k l=z):C9 R j k=z:=c9 h hk
theorem eb{sp:Spec}{R1 R2:List aN}{k:Nat}{l0 l:List PV}{v:PV}(h1:R1[k]? = some (.lst l0))(h2:R2[k]? = some (.lst l))(hl:l.length<SZ):sB sp R1 (.obj k) "append" [v] R2=some (.none,R2.set k (.lst (l++[v]))):=
 c9 (k:=λr=>Hk sp r k "append" [v] R2) h1 (Hp h2 (At ∅ (fV (decide_eq_true hl) rfl)))
theorem EI{sp:Spec}{R1 R2:List aN}{k:Nat}{l0 l:List PV}{v:PV}(h1:R1[k]? = some (.lst l0))(h2:R2[k]? = some (.lst (l++[v]))):sB sp R1 (.obj k) "pop" [] R2=some (v,R2.set k (.lst l)):=
 c9 (k:=λr=>Hk sp r k "pop" [] R2) h1 (Hp h2 (DL ∅ (fV ∅ (c9 (o:=(l++[v]).getLast?) (d:=none) (k:=λv'=>some (v',R2.set k (.lst (l++[v]).dropLast))) List.getLast?_concat (by rw [List.dropLast_concat])))))
theorem jT(s:LS):∀l:List LS,(cj s l).length<=(l.map bY).sum+l.length*s.length
 | []=>bp _
 | [x]=>by simp only [cj,aK,nO,qz,List.sum_nil];exact T6
 | x::y::r=>by
  have ih:=jT s (y::r)
  simp only [cj,ai,aK,qz,ao,DW]at ih ⊢
  exact T5 ih
theorem gI(l:List LS):fg (l.map .str)=some l:=by
 unfold fg
 induction l with
 | nil=>rfl
 | cons x r ih=>simp only [aK,gB,pS,ih];rfl
theorem m7{sp:Spec}{R1 R2:List aN}{v:PV}{s:LS}{l:List LS}(h:lJ R2 v=some (l.map .str))(hl:(l.map bY).sum+l.length*s.length<=SZ):sB sp R1 (.str s) "join" [v] R2=some (.str (cj s l),R2):=
 At (c:=("join":Str)=="join") (y:=fM (xG s "join" [v]) R2) ∅ (c9 h (c9 (gI l) (fV (decide_eq_true hl) (gU (jc (ah (jT s l) hl))))))
theorem oy{sp:Spec}{R1 R2:List aN}{c:Nat}{s:LS}(hl:(aQ c s).length<=SZ):sB sp R1 (.str s) "split" [.str [c]] R2=some (.list ((aQ c s).map .str),R2):=by
 refine cS (b:=fM (mkL ((aQ c s).map .str)) R2) ∅ (gU (if_pos (by rw [ae];exact hl)))
noncomputable def cO(acc:List LS)(c:LS):List LS:=bif c==[]||c==[46]then acc else bif c==[46,46]then acc.dropLast else acc++[c]
noncomputable def ic(acc:List LS)(l:List LS):List LS:=l.foldl cO acc
noncomputable def aI(row:List LS):LS:=47::cj [47] row
noncomputable def cc(l:List LS):Nat:=(l.map bY).sum+l.length
theorem eH(x:LS)(l:List LS):cc (x::l)=x.length+1+cc l:=by unfold cc;simp only [aK,qz,ao];exact T4
theorem gE(a b:List LS):cc (a++b)=cc a+cc b:=by
 induction a with
 | nil=>simp [cc]
 | cons x a ih=>rw [eQ,eH,eH,ih];exact Po
theorem gh(c:Nat)(s:LS):aQ c s≠[]:=by
 cases s with
 | nil=>exact λq=>nomatch q
 | cons x r=>
  rw [cy]
  split
  ·exact λq=>nomatch q
  ·split<;>exact λq=>nomatch q
theorem j8(c:Nat):∀s:LS,cc (aQ c s)=s.length+1:=by
 intro s
 induction s with
 | nil=>
  exact rfl
 | cons x r ih=>
  have ih:=ih
  rw [cy]
  split
  ·rw [eH,ih];simp only [ci,ao];exact T3
  ·cases e:aQ c r with
   | nil=>exact absurd e (gh c r)
   | cons h t=>
    rw [e]at ih
    simp only [eH,ao]at ih ⊢
    exact T2 ih
theorem kb(l:List LS):l.length<=cc l:=by unfold cc;exact Pn
noncomputable abbrev Oz(p:LS)(c:PV)(tl:br):br:=("path",.str p)::("sep",.str [47])::("dot",.str [46])::("dotdot",.str [46,46])::("_",.str [])::("initial_slashes",.str [47])::("comps",c)::("new_comps",.obj 1)::tl
noncomputable abbrev QQ(p:LS)(c:PV):br:=Oz p c []
noncomputable abbrev QF(p:LS)(c:PV)(v:PV):br:=Oz p c [("comp",v)]
theorem Ex{α:Type}(l:List α)(x:α):iD (l++[x]) (-1)=some x:=by
 unfold iD
 rw [if_neg (by decide),if_pos (by rw [ai];simp only [ao,ci];exact T1)]
 have:(-1+((l++[x]).length:Int)).toNat=l.length:=by rw [ai];simp only [ao,ci];exact T0
 rw [this,bI (aF _),eX]
 rfl
theorem GP(k:Nat)(p:LS)(h:(p.take 1==[47])=false)(hl:p.length<=300000):nB (fE (k+2)) pw 400 179 [.str (47::p)] [] [.tab]=some (.str (aI (ic [] (aQ 47 p))),[.tab,.dead]):=by
 have hsz:=j8 47 p
 have hsl:(aQ 47 p).length<=SZ:=ah (kb _) (by rw [hsz];exact ah (kG hl 1) (by decide))
 refine cN (fi:=⟨bv (aL pw 24),[]⟩) (σ:=[("path",.str (47::p))]) ∅ ∅ ?_
 refine aS [("path",.str (47::p))] (R1:=[.tab]) ∅ ?_
 refine aS [("path",.str (47::p)),("sep",.str [47]),("dot",.str [46]),("dotdot",.str [46,46])] (R1:=[.tab]) ∅ ?_
 refine aS [("path",.str (47::p)),("sep",.str [47]),("dot",.str [46]),("dotdot",.str [46,46])] (R1:=[.tab]) ∅ ?_
 refine ch (.tup [.str [],.str [47],.str p]) [("path",.str p),("sep",.str [47]),("dot",.str [46]),("dotdot",.str [46,46]),("_",.str []),("initial_slashes",.str [47])] (R1:=[.tab]) (eA (g:=172) (as:=[.str (47::p)]) (R1:=[.tab]) ∅ ∅ ∅ ∅ (NS h rfl)) ∅ ∅ ∅ ?_
 refine ch (.list ((aQ 47 p).map .str)) [("path",.str p),("sep",.str [47]),("dot",.str [46]),("dotdot",.str [46,46]),("_",.str []),("initial_slashes",.str [47]),("comps",.list ((aQ 47 p).map .str))] (R1:=[.tab]) (eN (x:=.str p) (as:=[.str [47]]) (R1:=[.tab]) (R2:=[.tab]) ∅ ∅ ∅ (oy hsl)) ∅ ∅ ∅ ?_
 refine aS (QQ p (.list ((aQ 47 p).map .str))) (R1:=[.tab,.lst []]) ∅ ?_
 refine gY (xs:=(aQ 47 p).map .str) (σ1:=QQ p (.list ((aQ 47 p).map .str))) (R1:=[.tab,.lst []]) ∅ ∅ ?_
 refine ij (λxs σ R=>∃(rest acc:List LS) (cm:PV),xs=rest.map .str/\(σ=QQ p (.list ((aQ 47 p).map .str))\/σ=QF p (.list ((aQ 47 p).map .str)) cm)/\R=([.tab,.lst (acc.map .str)]:List aN)/\ic acc rest=ic [] (aQ 47 p)/\[46,46] ∉ acc/\cc acc+cc rest<=p.length+1) ?_ ?_ _ _ _ ⟨aQ 47 p,[],.none,rfl,av rfl,rfl,rfl,bJ,by rw [hsz];simp [cc]⟩
 ·rintro x xs σ R ⟨rest,acc,cm,h1,h2,rfl,h4,h5,h6⟩
  cases rest with
  | nil=>cases h1
  | cons c rest=>
   simp only [aK,dG]at h1
   obtain⟨rfl,rfl⟩:=h1
   have h4':ic (cO acc c) rest=ic [] (aQ 47 p):=h4
   rw [eH]at h6
   refine jn (QF p (.list ((aQ 47 p).map .str)) (.str c)) (by rcases h2 with rfl | rfl<;>kernel_rfl) ?_
   by_cases e1:c=[]
   ·subst e1
    refine fb (R1:=[.tab,.lst (acc.map .str)]) ∅ ?_
    refine zx ?_
    exact⟨rest,acc,_,rfl,am rfl,rfl,h4',h5,by simp only [ci]at h6;exact TZ h6⟩
   by_cases e2:c=[46]
   ·subst e2
    refine fb (R1:=[.tab,.lst (acc.map .str)]) ∅ ?_
    refine zx ?_
    exact⟨rest,acc,_,rfl,am rfl,rfl,h4',h5,by simp only [ao,ci]at h6;exact TY h6⟩
   by_cases e3:c=[46,46]
   ·subst e3
    refine cW (R1:=[.tab,.lst (acc.map .str)]) ∅ (aZ ?_)
    rcases oM acc with rfl | ⟨acc',last,hcc⟩
    ·refine cW (R1:=[.tab,.lst []]) ∅ ?_
     refine cW (R1:=[.tab,.lst []]) ∅ (aZ (aZ (aZ ?_)))
     exact⟨rest,[],_,rfl,am rfl,rfl,h4',h5,by simp only [ao,ci]at h6;exact TX h6⟩
    ·rw [A5]at hcc
     subst hcc
     have hlast:(last==[46,46])=false:=by
      rw [beq_eq_false_iff_ne]
      rintro rfl
      exact h5 (cf _ (aC.mpr rfl))
     have hR:∀b:Bool,b = !(((acc'++[last]).map PV.str).isEmpty)->b=true:=λb e=>by rw [e];simp
     refine cW (R1:=[.tab,.lst ((acc'++[last]).map .str)]) (qg (R1:=[.tab,.lst ((acc'++[last]).map .str)]) ∅ (mX (R1:=[.tab,.lst ((acc'++[last]).map .str)]) ∅ (mX (R1:=[.tab,.lst ((acc'++[last]).map .str)]) (tB (R1:=[.tab,.lst ((acc'++[last]).map .str)]) (nz (b :=!(((acc'++[last]).map PV.str).isEmpty)) ∅ (hR _ rfl)) (ze (ja (x:=.str last) (y:=.str [46,46]) (R1:=[.tab,.lst ((acc'++[last]).map .str)]) ∅ (mi (x:=.obj 1) (R1:=[.tab,.lst ((acc'++[last]).map .str)]) ∅ ∅ ?_) ∅ ?_))) ∅))) ?_
     ·refine cS (b:=fM (iD ((acc'++[last]).map PV.str) (-1)) [.tab,.lst ((acc'++[last]).map .str)]) ∅ (gU ?_)
      rw [bW,List.map_singleton,Ex]
     ·refine cS (b:=some (last==[46,46])) ∅ ?_
      rw [hlast]
     ·refine fb (R1:=[.tab,.lst ((acc'++[last]).map .str)]) (nz (b :=!(((acc'++[last]).map PV.str).isEmpty)) ∅ (hR _ rfl)) ?_
      refine aS (QF p (.list ((aQ 47 p).map .str)) (.str [46,46])) (R1:=[.tab,.lst (acc'.map .str)]) ?_ (aZ (aZ (aZ ?_)))
      ·refine H5 (y:=last) (eN (x:=.obj 1) (as:=[]) (R1:=[.tab,.lst ((acc'++[last]).map .str)]) (R2:=[.tab,.lst ((acc'++[last]).map .str)]) ∅ ∅ ∅ ?_)
       rw [bW]
       exact EI (l:=acc'.map .str) rfl rfl
      ·refine⟨rest,acc',_,rfl,am rfl,rfl,?_,λq=>h5 (fY _ q),?_⟩
       ·rw [<-h4'];congr 1;simp [cO]
       ·rw [gE]at h6;simp only [ao,ci]at h6;exact TV h6
   ·have b1:(c==[])=false:=beq_eq_false_iff_ne.mpr e1
    have b2:(c==[46])=false:=beq_eq_false_iff_ne.mpr e2
    have b3:(c==[46,46])=false:=beq_eq_false_iff_ne.mpr e3
    refine cW (R1:=[.tab,.lst (acc.map .str)]) (qg (R1:=[.tab,.lst (acc.map .str)]) ?_ (mX (R1:=[.tab,.lst (acc.map .str)]) (nz (b:=c==[46]) ∅ b2) ∅)) (aZ ?_)
    ·cases c with
     | nil=>exact absurd rfl e1
     | cons d c=>kernel_rfl
    refine fb (R1:=[.tab,.lst (acc.map .str)]) (Bd (nz (b :=!(c==[46,46])) ∅ (by rw [b3];rfl))) ?_
    refine aS (QF p (.list ((aQ 47 p).map .str)) (.str c)) (R1:=[.tab,.lst (acc.map .str++[.str c])]) ?_ (aZ (aZ ?_))
    ·refine iw (eN (x:=.obj 1) (as:=[.str c]) (R1:=[.tab,.lst (acc.map .str)]) (R2:=[.tab,.lst (acc.map .str)]) ∅ ∅ ∅ (eb (l:=acc.map .str) rfl rfl ?_))
     rw [ae]
     have:=kb acc
     have hS:SZ=1000000:=rfl
     exact TU hl h6 this hS
    ·refine⟨rest,acc++[c],_,rfl,am rfl,by rw [bW];rfl,?_,?_,?_⟩
     ·rw [<-h4'];congr 1;simp [cO,b1,b2,b3]
     ·intro q
      rcases dk.mp q with q | q
      ·exact h5 q
      ·exact e3 (aC.mp q).symm
     ·rw [gE,eH];have:cc []=0:=rfl;exact TS h6 this
 ·rintro σ R ⟨rest,acc,cm,h1,h2,rfl,h4,h5,h6⟩
  cases rest with
  | cons c rest=>cases h1
  | nil=>
   have h4':acc=ic [] (aQ 47 p):=h4
   rw [<-h4']
   have hB:cc acc<=p.length+1:=by have:cc ([]:List LS)=0:=rfl;exact TQ h6
   have hs2:(acc.map bY).sum+acc.length*([47]:LS).length<=SZ:=by
    have:([47]:LS).length=1:=rfl
    have hS:SZ=1000000:=rfl
    unfold cc at hB
    rw [this,gb]
    exact TP hl hB hS
   have hs3:(aI acc).length<=SZ:=by
    have h7:=jT [47] acc
    have:([47]:LS).length=1:=rfl
    have hS:SZ=1000000:=rfl
    unfold cc at hB
    rw [this,gb]at h7
    show(cj [47] acc).length+1<=SZ
    exact TO hl hB h7 hS
   have fin:∀cmv:br,(cmv=[]\/cmv=([("comp",cm)]:br))->po (fE (k+2)) 393 ⟨(bv (aL pw 24)).scope.names,1⟩ (y4 7 (bv (aL pw 24)).body) (Oz p (.list ((aQ 47 p).map .str)) cmv) [.tab,.lst (acc.map .str)] λo=>o.1 = .ret (.str (aI acc))/\o.2.2=[.tab,.dead]:=by
    intro cmv hcm
    refine aS (r:=y4 8 (bv (aL pw 24)).body) (s:=(bv (aL pw 24)).body.getD 7 bN) (Oz p (.obj 1) cmv) (R1:=[.tab,.lst (acc.map .str)]) (by rcases hcm with rfl | rfl<;>kernel_rfl) ?_
    refine ch (r:=y4 9 (bv (aL pw 24)).body) (.str (aI acc)) (Oz (aI acc) (.obj 1) cmv) (R1:=[.tab,.lst (acc.map .str)]) ?_ ∅ ∅ (by rcases hcm with rfl | rfl<;>kernel_rfl) ?_
    ·exact jx (x:=.str [47]) (y:=.str (cj [47] acc)) (R1:=[.tab,.lst (acc.map .str)]) (by rcases hcm with rfl | rfl<;>kernel_rfl) (eN (x:=.str [47]) (as:=[.obj 1]) (R1:=[.tab,.lst (acc.map .str)]) (R2:=[.tab,.lst (acc.map .str)]) ∅ (by rcases hcm with rfl | rfl<;>kernel_rfl) (by rcases hcm with rfl | rfl<;>kernel_rfl) (m7 (l:=acc) rfl hs2)) ∅ (yB (jc (l:=aI acc) hs3) rfl)
    ·exact cV (.str (aI acc)) (R1:=[.tab,.dead]) (by rcases hcm with rfl | rfl<;>kernel_rfl) ⟨rfl,rfl⟩
   rcases h2 with rfl | rfl
   ·exact fin [] (av rfl)
   ·exact fin [("comp",cm)] (am rfl)
theorem NT{k:Nat}{p:LS}{R:List aN}(h:(p.take 1==[47])=false)(hl:p.length<=300000)(hR:xU R=true):fE (k+3) 179 [.str (47::p)] [] R=some (.str (aI (ic [] (aQ 47 p))),R):=
 et (GP k p h hl) rfl rfl rfl hR
end Mine.W
end
section
namespace Mine.W
noncomputable def c6(s:LS):LS:=bif s.isEmpty then [39,39]else bif !s.any cU then s else [39]++dN 39 [39,34,39,34,39] s++[39]
theorem rM(s:LS):(dN 39 [39,34,39,34,39] s).length<=5*s.length:=by
 unfold dN
 induction s with
 | nil=>exact bp _
 | cons x s ih=>
  rw [jH,ai,ao]
  have:(if x=39 then [39,34,39,34,39]else [x]:LS).length<=5:=by by_cases h:x=39<;>simp [h]
  exact p1 ih this
theorem Em(k:Nat)(s:LS)(hl:s.length<=100000):nB (fE k) pw 400 892 [.str s] [] [.tab]=some (.str (c6 s),[.tab]):=by
 refine cN (fi:=⟨bv (aL pw 49),[]⟩) (σ:=[("s",.str s)]) ∅ ∅ ?_
 unfold c6
 cases h0:s.isEmpty with
 | true=>exact fb (R1:=[.tab]) (nz (b :=!(!s.isEmpty)) ∅ (by rw [h0];rfl)) (cV (.str [39,39]) (R1:=[.tab]) ∅ ⟨rfl,rfl⟩)
 | false=>
  refine cW (R1:=[.tab]) (nz (b :=!(!s.isEmpty)) ∅ (by rw [h0];rfl)) (aZ ?_)
  cases h1 :!s.any cU with
  | true=>exact fb (R1:=[.tab]) (nz (b :=!s.any cU) ∅ h1) (cV (.str s) (R1:=[.tab]) ∅ ⟨rfl,rfl⟩)
  | false=>
   refine cW (R1:=[.tab]) (nz (b :=!s.any cU) ∅ h1) (aZ ?_)
   have h2:=rM s
   have hS:SZ=1000000:=rfl
   refine cV (.str ([39]++dN 39 [39,34,39,34,39] s++[39])) (R1:=[.tab]) ?_ ⟨rfl,rfl⟩
   refine jx (x:=.str ([39]++dN 39 [39,34,39,34,39] s)) (y:=.str [39]) (R1:=[.tab]) ?_ ∅ ∅ (jc ?_)
   ·refine cS (b:=(mkS ([39]++dN 39 [39,34,39,34,39] s)).map λv=>(v,[.tab])) ∅ ?_
    rw [jc (by rw [ai];show 1+_<=_;exact TN hl h2 hS)]
    rfl
   ·rw [ai,ai];show 1+_+1<=_;exact TM hl h2 hS
theorem KY{k:Nat}{s:LS}{R:List aN}(hl:s.length<=100000)(hR:xU R=true):fE (k+1) 892 [.str s] [] R=some (.str (c6 s),R):=et (Em k s hl) rfl rfl rfl hR
noncomputable abbrev aV(row:List LS):PV:=.tup (row.map .str)
noncomputable def bl(here:List LS)(way:LS):List LS:=ic (bif way.take 1==[47]then []else here) (aQ 47 way)
theorem D4{α:Type}(l:List α)(h:l≠[]):dH l none (some (-1))=l.dropLast:=by
 show l.take (r6 (-1) l.length)=_
 unfold r6
 rw [if_pos (by decide),hH]
 congr 1
 exact TL
theorem Bn(l:List LS):dH (l.map PV.str) none (some (-1))=l.dropLast.map .str:=by
 rcases oM l with rfl | ⟨a,x,rfl⟩
 ·rfl
 ·rw [D4 _ (by simp),List.map_dropLast]
theorem Hf(acc:List LS)(c:LS):(cO acc c).length<=acc.length+1:=by
 unfold cO
 cases c==[]||c==[46]with
 | true=>exact di _
 | false=>cases c==[46,46]with
  | true=>show acc.dropLast.length<=_;rw [CU];exact ah (fu _ _) (di _)
  | false=>show(acc++[c]).length<=_;rw [ai];exact aF _
theorem BE{l:List PV}(h:l.length<=SZ):mkT l=some (.tup l):=by unfold mkT;rw [if_pos h]
theorem En(k:Nat)(here:List LS)(way:LS)(hl:here.length+way.length<=100000):nB (fE k) pw 400 925 [aV here,.str way] [] [.tab]=some (aV (bl here way),[.tab]):=by
 have hsl:=ah (kb _) (az (j8 47 way))
 have hS:SZ=1000000:=rfl
 refine cN (fi:=⟨bv (aL pw 55),[]⟩) (σ:=[("here",aV here),("way",.str way)]) ∅ ∅ ?_
 refine ch (aV (bif way.take 1==[47]then []else here)) [("here",aV here),("way",.str way),("names",aV (bif way.take 1==[47]then []else here))] (R1:=[.tab]) (kd (b:=way.take 1==[47]) (R1:=[.tab]) ∅ (by cases way.take 1==[47]<;>kernel_rfl)) ∅ ∅ ∅ ?_
 refine gY (xs:=(aQ 47 way).map .str) (σ1:=[("here",aV here),("way",.str way),("names",aV (bif way.take 1==[47]then []else here))]) (R1:=[.tab]) ?_ ∅ ?_
 ·exact gG (eN (x:=.str way) (as:=[.str [47]]) (R1:=[.tab]) ∅ ∅ ∅ (oy (by exact TK hl hsl hS))) ∅ ∅
 refine ij (λxs σ R=>∃(rest acc:List LS) (tl:br),xs=rest.map .str/\(tl=[] \/ ∃v,tl=([("piece",v)]:br))/\σ=(("here",aV here)::("way",.str way)::("names",aV acc)::tl:br)/\R=([.tab]:List aN)/\ic acc rest=bl here way/\acc.length+rest.length<=200000) ?_ ?_ _ _ _ ⟨aQ 47 way,_,[],rfl,av rfl,rfl,rfl,rfl,?_⟩
 ·rintro x xs σ R ⟨rest,acc,tl,h1,h2,rfl,rfl,h4,h6⟩
  cases rest with
  | nil=>cases h1
  | cons c rest=>
   simp only [aK,dG]at h1
   obtain⟨rfl,rfl⟩:=h1
   have h4':ic (cO acc c) rest=bl here way:=h4
   have hn:=Hf acc c
   rw [ao]at h6
   refine jn [("here",aV here),("way",.str way),("names",aV acc),("piece",.str c)] (by rcases h2 with rfl | ⟨v,rfl⟩<;>kernel_rfl) ?_
   have fin:CJ (λxs σ R=>∃(rest acc:List LS) (tl:br),xs=rest.map .str/\(tl=[] \/ ∃v,tl=([("piece",v)]:br))/\σ=(("here",aV here)::("way",.str way)::("names",aV acc)::tl:br)/\R=([.tab]:List aN)/\ic acc rest=bl here way/\acc.length+rest.length<=200000) (rest.map .str) (sN (fE k) 398 ⟨(bv (aL pw 55)).scope.names,1⟩ (y4 2 (bv (aL pw 55)).body) (λo=>o.1 = .ret (aV (bl here way))/\o.2.2=[.tab])) (.next,[("here",aV here),("way",.str way),("names",aV (cO acc c)),("piece",.str c)],[.tab]):=
    ⟨rest,_,_,rfl,am ⟨_,rfl⟩,rfl,rfl,h4',by exact TJ h6 hn⟩
   refine jp [("here",aV here),("way",.str way),("names",aV (cO acc c)),("piece",.str c)] (R1:=[.tab]) ?_ (aZ fin)
   by_cases e3:c=[46,46]
   ·subst e3
    refine fb (R1:=[.tab]) ∅ ?_
    refine ch (aV (cO acc [46,46])) [("here",aV here),("way",.str way),("names",aV (cO acc [46,46])),("piece",.str [46,46])] (R1:=[.tab]) ?_ ∅ ∅ ∅ (aZ (aZ rfl))
    refine cS (b:=some (.tup (dH (acc.map PV.str) none (some (-1))),[.tab])) ∅ ?_
    rw [Bn];rfl
   have b3:(c==[46,46])=false:=beq_eq_false_iff_ne.mpr e3
   refine cW (R1:=[.tab]) (nz (b:=c==[46,46]) ∅ b3) ?_
   cases e:c==[]||c==[46]with
   | true=>
    refine cW (R1:=[.tab]) ?_ (aZ (aZ (aZ ?_)))
    ·rcases fz.mp e with e | e<;>(have e:=aJ e;subst e;kernel_rfl)
    ·unfold cO;rw [e];rfl
   | false=>
    obtain⟨b1,b2⟩:=f9.mp e
    have hns:cO acc c=acc++[c]:=by unfold cO;rw [e,b3];rfl
    refine fb (R1:=[.tab]) (nz (b :=!([]==c||([46]==c||false))) ∅ ?_) ?_
    ·rw [show([]==c)=false by rw [beq_eq_false_iff_ne]at b1 ⊢;exact λq=>b1 q.symm,show([46]==c)=false by rw [beq_eq_false_iff_ne]at b2 ⊢;exact λq=>b2 q.symm];rfl
    ·refine ch (aV (cO acc c)) [("here",aV here),("way",.str way),("names",aV (cO acc c)),("piece",.str c)] (R1:=[.tab]) (jx (x:=aV acc) (y:=.tup [.str c]) (R1:=[.tab]) ∅ ∅ ∅ ?_) ∅ ∅ ∅ (aZ (aZ (aZ rfl)))
     rw [hns]
     refine(BE (l:=acc.map PV.str++[PV.str c]) ?_).trans (by show some (PV.tup (acc.map PV.str++[c].map PV.str))=_;rw [<-bW])
     rw [ai,ae];show _+1<=_;exact TI hS h6
 ·rintro σ R ⟨rest,acc,tl,h1,h2,rfl,rfl,h4,h6⟩
  cases rest with
  | cons c rest=>cases h1
  | nil=>
   have h4':acc=bl here way:=h4
   rw [<-h4']
   refine cV (aV acc) (R1:=[.tab]) (by rcases h2 with rfl | ⟨v,rfl⟩<;>kernel_rfl) ⟨rfl,rfl⟩
 ·cases way.take 1==[47]
  ·show here.length+_<=_;exact TH hl hsl
  ·show 0+_<=_;exact TG hl hsl
theorem bH(l:List LS):bF (l.map .str)=true:=by
 induction l with
 | nil=>rfl
 | cons x l ih=>exact ih
theorem DC{k:Nat}{here:List LS}{way:LS}{R:List aN}(hl:here.length+way.length<=100000)(hR:xU R=true):fE (k+1) 925 [aV here,.str way] [] R=some (aV (bl here way),R):=
 et (En k here way hl) (by show(bF (here.map .str)&&true)=true;rw [bH];rfl) (bH _) rfl hR
end Mine.W
end
section
namespace Mine.W
theorem uG{l:List PV}(h:l.length<=SZ):mkL l=some (.list l):=by unfold mkL;rw [if_pos h]
theorem bS{α:Type}{l:List α}{f:α->PV}(h:∀x∈l,noObj (f x)=true):bF (l.map f)=true:=by
 induction l with
 | nil=>rfl
 | cons x l ih=>
  show(noObj (f x)&&bF (l.map f))=true
  rw [h x aj,ih λy hy=>h y (an _ hy)]
  rfl
theorem El(k:Nat)(r:List LS)(hl:cc r<=300000):nB (fE k) pw 400 937 [aV r] [] [.tab]=some (.str (aI r),[.tab]):=by
 have hS:SZ=1000000:=rfl
 have h1:(r.map bY).sum+r.length*([47]:LS).length<=SZ:=by
  have:([47]:LS).length=1:=rfl
  unfold cc at hl
  rw [this,gb];exact M7 hl hS
 have h2:=jT [47] r
 refine cN (fi:=⟨bv (aL pw 57),[]⟩) (σ:=[("row",aV r)]) ∅ ∅ ?_
 refine fb (R1:=[.tab]) ∅ ?_
 refine cV (.str (aI r)) (R1:=[.tab]) ?_ ⟨rfl,rfl⟩
 refine jx (x:=.str [47]) (y:=.str (cj [47] r)) (R1:=[.tab]) ∅ (eN (x:=.str [47]) (as:=[aV r]) (R1:=[.tab]) (R2:=[.tab]) ∅ ∅ ∅ (m7 (l:=r) rfl h1)) ∅ (yB (jc (l:=47::cj [47] r) ?_) rfl)
 have:([47]:LS).length=1:=rfl
 unfold cc at hl
 rw [this,gb]at h2
 show(cj [47] r).length+1<=_
 exact Pl hl hS h2
theorem tN{k:Nat}{r:List LS}{R:List aN}(hl:cc r<=300000)(hR:xU R=true):fE (k+1) 937 [aV r] [] R=some (.str (aI r),R):=
 et (El k r hl) (by show(bF (r.map .str)&&true)=true;rw [bH];rfl) rfl rfl hR
theorem DA{k:Nat}{l:List PV}{g:PV->PV}{R:List aN}(hn:l.length<=SZ)(h:∀x∈l,eh k 937 [x] (g x))(h1:bF l=true)(h2:∀x∈l,noObj (g x)=true)(hR:xU R=true):fE (k+1) 937 [.list l] [] R=some (.list (l.map g),R):=by
 refine et (R1:=[.tab]) ?_ (by show(bF l&&true)=true;rw [h1];rfl) (bS h2) rfl hR
 refine cN (fi:=⟨bv (aL pw 57),[]⟩) (σ:=[("row",.list l)]) ∅ ∅ ?_
 refine cW (R1:=[.tab]) ∅ (aZ ?_)
 refine cV (.list (l.map g)) (R1:=[.tab]) (ge (jy g ∅ (il ∅ ∅) λx hx=>⟨[("part",x)],∅,?_⟩) (by rw [ae];exact hn)) ⟨rfl,rfl⟩
 exact eA (g:=937) (as:=[x]) (R1:=[.tab]) ∅ ∅ ∅ ∅ (h x hx _ rfl)
theorem HZ{k:Nat}{here:List LS}{w:LS}{vs:List PV}{f:PV->PV}{R:List aN}(hl:here.length+w.length<=100000)(hn:vs.length<1000)
  (hv:∀v∈vs,noObj (f v)=true/\((∃s,v = .str s/\f v=aV (bl (bl here w) s)/\(bl here w).length+s.length<=100000)\/(∃l,v = .list l/\bF l=true/\eh (k+1) 932 [v,aV (bl here w)] (f v))))(hR:xU R=true) :
  fE (k+2) 932 [.list [.str w,.list vs],aV here] [] R=some (.list (aV (bl here w)::vs.map f),R):=by
 have hno:bF vs=true:=by
  have:bF (vs.map λx=>x)=true:=bS λv hx=>by
   rcases(hv v hx).2 with ⟨s,rfl,_⟩ | ⟨l,rfl,h,_⟩
   ·rfl
   ·exact h
  rwa [fZ]at this
 refine et (R1:=[.tab,.dead]) ?_ (by show((true&&(bF vs&&true))&&(bF (here.map .str)&&true))=true;rw [bH,hno];rfl) (by show(bF ((bl here w).map .str)&&bF (vs.map f))=true;rw [bH,bS λv hx=>(hv v hx).1];rfl) rfl hR
 refine cN (fi:=⟨bv (aL pw 56),[]⟩) (σ:=[("vote",.list [.str w,.list vs]),("here",aV here)]) ∅ ∅ ?_
 refine ch (aV (bl here w)) [("vote",.list [.str w,.list vs]),("here",aV (bl here w))] (R1:=[.tab]) (eA (g:=925) (as:=[aV here,.str w]) (R1:=[.tab]) ∅ ∅ ∅ ∅ (DC hl rfl)) ∅ ∅ ∅ ?_
 refine aS [("vote",.list [.str w,.list vs]),("here",aV (bl here w)),("rows",.obj 1)] (R1:=[.tab,.lst [aV (bl here w)]]) ∅ ?_
 refine gY (xs:=vs) (σ1:=[("vote",.list [.str w,.list vs]),("here",aV (bl here w)),("rows",.obj 1)]) (R1:=[.tab,.lst [aV (bl here w)]]) (gG ∅ ∅ ∅) ∅ ?_
 refine uK (λo=>("vote",.list [.str w,.list vs])::("here",aV (bl here w))::("rows",.obj 1)::(o.map λv=>(("voice":Str),v)).toList) f [aV (bl here w)] vs (by show 1+_<_;exact Pk hn) (λo v acc hx ha=>?_) (λo=>?_)
 ·refine qI [("vote",.list [.str w,.list vs]),("here",aV (bl here w)),("rows",.obj 1),("voice",v)] (by cases o<;>kernel_rfl) (dp (iw (eN (x:=.obj 1) (as:=[f v]) (R1:=[.tab,.lst acc]) (R2:=[.tab,.lst acc]) ∅ ∅ (fF ?_) (eb (l:=acc) rfl rfl (bR ha (by decide))))))
  rcases(hv v hx).2 with ⟨s,rfl,h2,h3⟩ | ⟨l,rfl,h1,h2⟩
  ·rw [h2]
   exact kd (b:=true) (R1:=[.tab,.lst acc]) ∅ (eA (g:=925) (as:=[aV (bl here w),.str s]) (R1:=[.tab,.lst acc]) ∅ ∅ ∅ ∅ (DC h3 rfl))
  ·refine kd (b:=false) (R1:=[.tab,.lst acc]) ∅ (eA (g:=932) (as:=[.list l,aV (bl here w)]) (R1:=[.tab,.lst acc]) ∅ ∅ ∅ ∅ (h2 _ rfl))
 ·exact cV (.list (aV (bl here w)::vs.map f)) (R1:=[.tab,.dead]) (by cases o<;>kernel_rfl) ⟨rfl,rfl⟩
end Mine.W
end
section
namespace Mine.W
noncomputable abbrev fU:LS:=[109,111,115,116]
noncomputable def lN(ws:List LS):LS:=cj [32] (ws.map c6)
theorem H1{k:Nat}{w:LS}{vs:List PV}{g:PV->LS}(hn:vs.length<1000)
  (hw:(((fU::w::vs.map g).map c6).map bY).sum+(vs.length+2)<=300000)(hq:∀s∈w::vs.map g,s.length<=100000)
  (hv:∀v∈vs,(∃s,v = .str s/\g v=s)\/(∃l,v = .list l/\bF l=true/\eh (k+1) 911 [v] (.str (g v)))):eh (k+2) 911 [.list [.str w,.list vs]] (.str (lN (fU::w::vs.map g))):=by
 intro R hR
 have hno:bF vs=true:=by
  have:bF (vs.map λx=>x)=true:=bS λv hx=>by
   rcases hv v hx with ⟨s,rfl,_⟩ | ⟨l,rfl,h,_⟩
   ·rfl
   ·exact h
  rwa [fZ]at this
 have hS:SZ=1000000:=rfl
 refine et (R1:=[.tab,.dead]) ?_ (by show((true&&(bF vs&&true))&&true)=true;rw [hno];rfl) rfl rfl hR
 refine cN (fi:=⟨bv (aL pw 53),[]⟩) (σ:=[("vote",.list [.str w,.list vs])]) ∅ ∅ ?_
 refine aS [("vote",.list [.str w,.list vs]),("words",.obj 1)] (R1:=[.tab,.lst [.str fU,.str w]]) ∅ ?_
 refine gY (xs:=vs) (σ1:=[("vote",.list [.str w,.list vs]),("words",.obj 1)]) (R1:=[.tab,.lst [.str fU,.str w]]) (gG ∅ ∅ ∅) ∅ ?_
 refine uK (λo=>("vote",.list [.str w,.list vs])::("words",.obj 1)::(o.map λv=>(("voice":Str),v)).toList) (λv=>.str (g v)) [.str fU,.str w] vs (by show 2+_<_;exact TF hn) (λo v acc hx ha=>?_) (λo=>?_)
 ·refine qI [("vote",.list [.str w,.list vs]),("words",.obj 1),("voice",v)] (by cases o<;>kernel_rfl) (dp (iw (eN (x:=.obj 1) (as:=[.str (g v)]) (R1:=[.tab,.lst acc]) (R2:=[.tab,.lst acc]) ∅ ∅ (fF ?_) (eb (l:=acc) rfl rfl (bR ha (by decide))))))
  rcases hv v hx with ⟨s,rfl,h2⟩ | ⟨l,rfl,h1,h2⟩
  ·rw [h2]
   exact kd (b:=true) (R1:=[.tab,.lst acc]) ∅ ∅
  ·exact kd (b:=false) (R1:=[.tab,.lst acc]) ∅ (eA (g:=911) (as:=[.list l]) (R1:=[.tab,.lst acc]) ∅ ∅ ∅ ∅ (h2 _ rfl))
 ·have e1:([.str fU,.str w]++vs.map λv=>PV.str (g v))=(fU::w::vs.map g).map .str:=by simp only [aK,aG];rfl
  rw [e1]
  refine cV (.str (lN (fU::w::vs.map g))) (R1:=[.tab,.dead]) (eN (x:=.str [32]) (as:=[.list (((fU::w::vs.map g).map c6).map .str)]) (R1:=[.tab,.dead]) (R2:=[.tab,.dead]) ∅ (by cases o<;>kernel_rfl) (fF (ge ?_ ?_)) (m7 (l:=(fU::w::vs.map g).map c6) rfl ?_)) ⟨rfl,rfl⟩
  ·have e2:((fU::w::vs.map g).map c6).map PV.str=((fU::w::vs.map g).map PV.str).map λp=>.str (c6 ((pS p).getD [])):=by rw [aG,aG];rfl
   rw [e2]
   refine jy (R1:=[.tab,.dead]) _ (by cases o<;>kernel_rfl) (il (by cases o<;>kernel_rfl) ∅) λp hp=>?_
   obtain⟨s,hs,rfl⟩:=aH.mp hp
   refine⟨[("word",.str s)],by cases o<;>kernel_rfl,eA (g:=892) (as:=[.str s]) (R1:=[.tab,.dead]) ∅ ∅ ∅ ∅ (KY ?_ rfl)⟩
   rcases ay.mp hs with rfl | hs
   ·exact bw rfl
   ·exact hq s hs
  ·rw [ae,ae,ao,ao,ae];exact TD hw hS
  ·rw [ae,ao,ao,ae]
   have:([32]:LS).length=1:=rfl
   rw [this,gb];exact TC hw hS
noncomputable def pq(here:List LS)(w:LS):Prop:=∃p,CE (aI here) w (47::p)/\(p.take 1==[47])=false/\p.length<=300000/\ic [] (aQ 47 p)=bl here w
theorem Ae{k n:Nat}{cx:Cx}{σ:br}{R:List aN}{f1 f2:Str}{p1 p2 p3 p4:dS}{a b:bE}{here:List LS}{w:LS}(hp:pq here w)(h1:gl cx f1=true)(h2:gl cx f2=true)(h3:(!Ok 179||[PySem.Expr.Call (.Name f2 p2) [a,b] [] p3].isEmpty)=false)
  (h4:lT (ff f1) [.Call (.Name f2 p2) [a,b] [] p3] [] = .fn 179)(h5:lT (ff f2) [a,b] [] = .fn 165)(ha:ev (fE (k+3)) (n+2) cx a σ R=some (.str (aI here),R))(hb:ev (fE (k+3)) (n+1) cx b σ R=some (.str w,R))(hR:xU R=true) :
  ev (fE (k+3)) (n+8) cx (.Call (.Name f1 p1) [.Call (.Name f2 p2) [a,b] [] p3] [] p4) σ R=some (.str (aI (bl here w)),R):=by
 obtain⟨p,k1,k2,k3,k4⟩:=hp
 refine eA (n:=n+6) (g:=179) (as:=[.str (47::p)]) (R1:=R) h1 h4 h3 (fF (n:=n+4) (eA (n:=n+3) (g:=165) (as:=[.str (aI here),.str w]) (R1:=R) h2 h5 rfl (pf (n:=n) ha hb) (NU k1 hR))) ?_
 rw [<-k4]
 exact NT k2 k3 hR
end Mine.W
end
section
namespace Mine.W
noncomputable abbrev MM:LS:=ls "abcdfeghijklmnopqrstuvwxyzABCDEFGHIJKLMNOPQRSTUVWXYZ0123456789_ßàáâãäåæçèéêëìíîïðñòóôõöøùúûüýþÿÀÁÂÃÄÅÆÇÈÉÊËÌÍÎÏÐÑÒÓÔÕÖØÙÚÛÜÝÞ"
noncomputable abbrev FX(ws:Bool)(st:PV)(tok:LS):List (Str × PV):=[("instream",.obj 2),("infile",.none),("posix",.bool true),("eof",.none),("commenters",.str [35]),("wordchars",.str MM),("whitespace",.str [32,9,13,10]),("whitespace_split",.bool ws),("quotes",.str [39,34]),("escape",.str [92]),("escapedquotes",.str [34]),("state",st),("pushback",.obj 3),("lineno",.int 1),("debug",.int 0),("token",.str tok),("filestack",.obj 4),("source",.none),("_punctuation_chars",.str [])]
noncomputable abbrev QK(b:LS)(p:Nat):List (Str × PV):=[("_StringIO__newline",.str [10]),("_StringIO__buf",.str b),("_StringIO__pos",.int (p:Int))]
noncomputable abbrev LX(st:PV)(tok b:LS)(p:Nat):List aN:=[.tab,.inst 872 (FX true st tok),.inst 737 (QK b p),.deq,.deq]
theorem Hr(k:Nat)(b:LS):fE (k+3) 796 [.obj 1,.str b] [("posix",.bool true)] [.tab,.inst 872 []]=some (.none,[.tab,.inst 872 (FX false (.str [32]) []),.inst 737 (QK b 0),.deq,.deq]):=∅
theorem jW{sp:Spec}{n:Nat}{cx:Cx}{s:ir}{r:List ir}{σ σ1:br}{R R1:List aN}{z:St}(h:ex sp n cx s σ R=some (.next,σ1,R1))(k:exs sp n cx r σ1 R1=some z):exs sp (n+1) cx (s::r) σ R=some z:=(vi h).trans k
theorem zP{k:Nat}{st:PV}{tok b r:LS}{p c:Nat}(h:b.drop p=c::r):fE (k+2) 683 [.obj 2,.int 1] [] (LX st tok b p)=some (.str [c],LX st tok b (p+1)):=by
 have hp:p<b.length:=by
  rcases eY p b.length with h1 | h1
  ·exact h1
  ·rw [fC h1]at h;cases h
 rw [qJ (by rfl)]
 refine cN (fi:=⟨bv (bL pw 35 25),[.int (-1)]⟩) (σ:=[("self",.obj 2),("size",.int 1)]) ∅ ∅ ?_
 refine aS [("self",.obj 2),("size",.int 1)] (R1:=LX st tok b p) ∅ ?_
 refine aS [("self",.obj 2),("size",.int 1)] (R1:=LX st tok b p) ∅ ?_
 refine aS [("self",.obj 2),("size",.int 1)] (R1:=LX st tok b p) ∅ ?_
 refine aS [("self",.obj 2),("size",.int 1),("start",.int (p:Int))] (R1:=LX st tok b p) ∅ ?_
 refine aS [("self",.obj 2),("size",.int 1),("start",.int (p:Int)),("stop",.int (b.length:Int))] (R1:=LX st tok b p) ∅ ?_
 refine cW (R1:=LX st tok b p) (nz (b:=decide ((p:Int)≥(b.length:Int))) ∅ (by rw [decide_eq_false_iff_not];exact TB hp)) (aZ ?_)
 refine jp [("self",.obj 2),("size",.int 1),("start",.int (p:Int)),("stop",.int ((p+1:Nat):Int))] (R1:=LX st tok b p) ?_ ?_
 ·by_cases h2:(p:Int)+1<(b.length:Int)
  ·refine fb (R1:=LX st tok b p) (tB (R1:=LX st tok b p) ∅ (Gl (R1:=LX st tok b p) (nz (b:=decide ((p:Int)+1<(b.length:Int))) ∅ (decide_eq_true h2)) ∅)) ?_
   exact aS _ ∅ (aZ (aZ rfl))
  ·refine cW (R1:=LX st tok b p) (tB (R1:=LX st tok b p) ∅ (ze (nz (b:=decide ((p:Int)+1<(b.length:Int))) ∅ (decide_eq_false h2)))) (aZ (aZ ?_))
   rw [show b.length=p+1 by exact TA hp h2]
 refine aS [("self",.obj 2),("size",.int 1),("start",.int (p:Int)),("stop",.int ((p+1:Nat):Int))] (R1:=LX st tok b (p+1)) ∅ ?_
 refine cV (.str [c]) (R1:=LX st tok b (p+1)) (mi (x:=.str [c,32]) (R1:=LX st tok b (p+1)) ?_ ∅ ∅) ⟨rfl,rfl⟩
 refine jx (x:=.str [c]) (y:=.str [32]) (R1:=LX st tok b (p+1)) ?_ ∅ ∅ ∅
 refine Ce (b:=.str ((b.take (p+1)).drop p)) ∅ ?_
 rw [pI,show p+1-p=1 by exact Pj,h]
 rfl
theorem qZ{k:Nat}{st:PV}{tok b:LS}:fE (k+2) 683 [.obj 2,.int 1] [] (LX st tok b b.length)=some (.str [],LX st tok b b.length):=by
 rw [qJ (by rfl)]
 refine cN (fi:=⟨bv (bL pw 35 25),[.int (-1)]⟩) (σ:=[("self",.obj 2),("size",.int 1)]) ∅ ∅ ?_
 refine aS [("self",.obj 2),("size",.int 1)] (R1:=LX st tok b b.length) ∅ ?_
 refine aS [("self",.obj 2),("size",.int 1)] (R1:=LX st tok b b.length) ∅ ?_
 refine aS [("self",.obj 2),("size",.int 1)] (R1:=LX st tok b b.length) ∅ ?_
 refine aS [("self",.obj 2),("size",.int 1),("start",.int (b.length:Int))] (R1:=LX st tok b b.length) ∅ ?_
 refine aS [("self",.obj 2),("size",.int 1),("start",.int (b.length:Int)),("stop",.int (b.length:Int))] (R1:=LX st tok b b.length) ∅ ?_
 refine fb (R1:=LX st tok b b.length) (nz (b:=decide ((b.length:Int)≥(b.length:Int))) ∅ (decide_eq_true (Int.le_refl _))) ?_
 exact cV (.str []) (R1:=LX st tok b b.length) ∅ ⟨rfl,rfl⟩
end Mine.W
end
section
namespace Mine.W
noncomputable def eM:List ir:=match (bv (bL pw 46 6)).body.getD 2 bN with
 | .While _ b _ _=>b
 | _=>[]
noncomputable def xV:bE:=match (bv (bL pw 46 6)).body.getD 2 bN with
 | .While t _ _ _=>t
 | _=>bN
noncomputable abbrev FY:Cx:=⟨(bv (bL pw 46 6)).scope.names,5⟩
noncomputable abbrev AJ(q:Bool)(o:Option PV):br:=("self",.obj 1)::("quoted",.bool q)::("escapedstate",.str [32])::(o.map λv=>(("nextchar":Str),v)).toList
noncomputable abbrev sZ(q:Bool)(c:LS):br:=[("self",.obj 1),("quoted",.bool q),("escapedstate",.str [32]),("nextchar",.str c)]
noncomputable def jS(sp:Spec)(m:Nat)(σ:br)(R:List aN):Option St:=Ba (λσ R=>tv sp 396 FY xV σ R) (λσ R=>exs sp 396 FY eM σ R) m σ R
theorem wQ{k:Nat}{q:Bool}{o:Option PV}{st:PV}{tok b x:LS}{p p':Nat}(h:fE (k+2) 683 [.obj 2,.int 1] [] (LX st tok b p)=some (.str x,LX st tok b p')){z:St}(hr:exs (fE (k+2)) 395 FY (eM.drop 1) (sZ q x) (LX st tok b p')=some z):exs (fE (k+2)) 396 FY eM (AJ q o) (LX st tok b p)=some z:=by
 refine jW (s:=eM.getD 0 bN) (r:=eM.drop 1) (σ1:=sZ q x) (R1:=LX st tok b p') ?_ hr
 refine gV (R1:=LX st tok b p) (by cases o<;>kernel_rfl) (dp (H7 (v:=.str x) (eN (x:=.obj 2) (as:=[.int 1]) (R1:=LX st tok b p) (R2:=LX st tok b p) ∅ (by cases o<;>kernel_rfl) ∅ (cS (b:=fE (k+2) 683 [.obj 2,.int 1] [] (LX st tok b p)) ∅ h)) ∅ ∅ (by cases o<;>kernel_rfl)))
theorem iR{k m:Nat}{q q':Bool}{o:Option PV}{st st':PV}{tok tok' b r:LS}{p c:Nat}(h:b.drop p=c::r)(hr:exs (fE (k+2)) 395 FY (eM.drop 1) (sZ q [c]) (LX st tok b (p+1))=some (.next,sZ q' [c],LX st' tok' b (p+1))) :
  jS (fE (k+2)) (m+1) (AJ q o) (LX st tok b p)=jS (fE (k+2)) m (AJ q' (some (.str [c]))) (LX st' tok' b (p+1)):=by
 exact A9 (R1:=LX st tok b p) (f:=.next) (show tv (fE (k+2)) 396 FY xV (AJ q o) (LX st tok b p)=some (true,LX st tok b p) by kernel_rfl) (wQ (o:=o) (zP h) hr)
theorem uR{k m:Nat}{q q':Bool}{o:Option PV}{st st':PV}{tok tok' b x:LS}{p p':Nat}(h:fE (k+2) 683 [.obj 2,.int 1] [] (LX st tok b p)=some (.str x,LX st tok b p'))(hr:exs (fE (k+2)) 395 FY (eM.drop 1) (sZ q x) (LX st tok b p')=some (.brk,sZ q' x,LX st' tok' b p')) :
  jS (fE (k+2)) (m+1) (AJ q o) (LX st tok b p)=some (.next,sZ q' x,LX st' tok' b p'):=by
 exact A9 (R1:=LX st tok b p) (f:=.brk) (show tv (fE (k+2)) 396 FY xV (AJ q o) (LX st tok b p)=some (true,LX st tok b p) by kernel_rfl) (wQ (o:=o) h hr)
noncomputable def TR(q:Bool)(st:PV)(tok:LS)(c:Nat)(q':Bool)(st':PV)(tok':LS):Prop:=∀(k:Nat) (b:LS) (p:Nat),exs (fE (k+2)) 395 FY (eM.drop 1) (sZ q [c]) (LX st tok b p)=some (.next,sZ q' [c],LX st' tok' b p)
noncomputable def sx:LS:=[97,98,99,65,46,47,109,111,115,116]
noncomputable def me:LS:=[97,98,99,65,46,47,109,111,115,116,32,34,92,35]
theorem Gq{c:Nat}(hc:c∈sx):TR false (.str [32]) [] c false (.str [97]) [c]:=by
 intro k b p
 simp only [sx,ay,bJ,or_false]at hc
 rcases hc with rfl | rfl | rfl | rfl | rfl | rfl | rfl | rfl | rfl | rfl<;>kernel_rfl
theorem JT:TR false (.str [32]) [] 39 false (.str [39]) []:=λk b p=>∅
theorem Os(q:Bool)(tok:LS):TR q (.str [97]) tok 39 q (.str [39]) tok:=λk b p=>∅
theorem Ot(q:Bool)(tok:LS):TR q (.str [97]) tok 34 q (.str [34]) tok:=λk b p=>∅
theorem Gr(q:Bool)(tok:LS):TR q (.str [39]) tok 39 true (.str [97]) tok:=λk b p=>∅
theorem MR(q:Bool)(tok:LS):TR q (.str [34]) tok 34 true (.str [97]) tok:=λk b p=>∅
theorem DG{sp:Spec}{n k:Nat}{cx:Cx}{σ:br}{R R1 R2:List aN}{o e:bE}{a:Str}{ap p:dS}{op:cw}{C:aB}{fs fs':List (Str × PV)}{x y v:PV}(h1:ev sp n cx o σ R=some (.obj k,R1))(h2:R1[k]? = some (.inst C fs))(h3:ta C a=true)(h4:fs.lookup a=some x)(h5:ev sp n cx e σ R1=some (y,R2))(h6:R2[k]? = some (.inst C fs'))(h7:fs'.length<900)(h8:rt op x y=some v) :
  ex sp (n+2) cx (.AugAssign (.Attribute o a ap) op e p) σ R=some (.next,σ,R2.set k (.inst C (iG fs' a v))):=by
 show bnd (ev sp n cx o σ R) (λov R1=>jv R1 ov λk C fs=>grd (ta C a) (optO (fs.lookup a) none λx=>bnd (ev sp n cx e σ R1) λb R2=>jv R2 (.obj k) λζ D fs'=>grd (decide (D=C)&&decide (fs'.length<900)) (optO (rt op x b) none λv=>some (Fl.next,σ,R2.set k (.inst C (iG fs' a v))))))=_
 exact bo h1 (tJ h2 (fV h3 (c9 h4 (bo h5 (tJ h6 (fV (by rw [decide_eq_true (rfl:C=C),decide_eq_true h7];rfl) (c9 h8 rfl)))))))
theorem JS{c:Nat}(hc:c∈sx)(q:Bool){tok:LS}(hl:tok.length<100000):TR q (.str [97]) tok c q (.str [97]) (tok++[c]):=by
 intro k b p
 have hm:rt .Add (.str tok) (.str [c])=some (.str (tok++[c])):=jc (q9 (b:=100000) (by rw [ai];exact hl) (by decide))
 refine jW (s:=eM.getD 1 bN) (r:=eM.drop 2) (σ1:=sZ q [c]) (R1:=LX (.str [97]) tok b p) ?_ (jW (s:=eM.getD 2 bN) (r:=eM.drop 3) (σ1:=sZ q [c]) (R1:=LX (.str [97]) tok b p) ∅ (dp (s:=eM.getD 3 bN) (gV (R1:=LX (.str [97]) tok b p) ∅ (dp (gV (R1:=LX (.str [97]) tok b p) ∅ (dp (gV (R1:=LX (.str [97]) tok b p) ∅ (dp (gV (R1:=LX (.str [97]) tok b p) ∅ (dp (vj (R1:=LX (.str [97]) tok b p) ∅ (dp
  (gV (R1:=LX (.str [97]) tok b p) ∅ (dp (gV (R1:=LX (.str [97]) tok b p) ?_ (dp (gV (R1:=LX (.str [97]) tok b p) ?_ (dp (gV (R1:=LX (.str [97]) tok b p) ∅ (dp (gV (R1:=LX (.str [97]) tok b p) ?_ (dp (gV (R1:=LX (.str [97]) tok b p) ?_ (dp (vj (R1:=LX (.str [97]) tok b p) ?_ (dp
   (DG (k:=1) (C:=872) (fs:=FX true (.str [97]) tok) (fs':=FX true (.str [97]) tok) (x:=.str tok) (y:=.str [c]) (R1:=LX (.str [97]) tok b p) (R2:=LX (.str [97]) tok b p) ∅ rfl ∅ ∅ ∅ rfl (dh (m:=20) (bw rfl) (bw rfl)) hm)))))))))))))))))))))))))))
 all_goals (simp only [sx,ay,bJ,or_false]at hc;rcases hc with rfl | rfl | rfl | rfl | rfl | rfl | rfl | rfl | rfl | rfl<;>kernel_rfl)
theorem wz{d c:Nat}(hc:(d=39/\c∈me)\/(d=34/\c=39))(q:Bool){tok:LS}(hl:tok.length<100000):TR q (.str [d]) tok c true (.str [d]) (tok++[c]):=by
 intro k b p
 have hm:rt .Add (.str tok) (.str [c])=some (.str (tok++[c])):=jc (q9 (b:=100000) (by rw [ai];exact hl) (by decide))
 refine jW (s:=eM.getD 1 bN) (r:=eM.drop 2) (σ1:=sZ q [c]) (R1:=LX (.str [d]) tok b p) ?_ (jW (s:=eM.getD 2 bN) (r:=eM.drop 3) (σ1:=sZ q [c]) (R1:=LX (.str [d]) tok b p) ∅ (dp (s:=eM.getD 3 bN) (gV (R1:=LX (.str [d]) tok b p) ∅ (dp (gV (R1:=LX (.str [d]) tok b p) ?_ (dp (vj (R1:=LX (.str [d]) tok b p) ?_ (jW (σ1:=sZ true [c]) (R1:=LX (.str [d]) tok b p) ∅ (jW (σ1:=sZ true [c]) (R1:=LX (.str [d]) tok b p) ∅ (dp
  (gV (R1:=LX (.str [d]) tok b p) ?_ (dp (gV (R1:=LX (.str [d]) tok b p) ?_ (dp
   (DG (k:=1) (C:=872) (fs:=FX true (.str [d]) tok) (fs':=FX true (.str [d]) tok) (x:=.str tok) (y:=.str [c]) (R1:=LX (.str [d]) tok b p) (R2:=LX (.str [d]) tok b p) ∅ rfl ∅ ∅ ∅ rfl (dh (m:=20) (bw rfl) (bw rfl)) hm)))))))))))))))
 all_goals
  rcases hc with ⟨rfl,hc⟩ | ⟨rfl,rfl⟩
  ·simp only [me,ay,bJ,or_false]at hc
   rcases hc with rfl | rfl | rfl | rfl | rfl | rfl | rfl | rfl | rfl | rfl | rfl | rfl | rfl | rfl<;>kernel_rfl
  ·kernel_rfl
end Mine.W
end
section
namespace Mine.W
theorem IP{k p:Nat}{q:Bool}{tok b:LS}(h:(tok.isEmpty && !q)=false):exs (fE (k+2)) 395 FY (eM.drop 1) (sZ q [32]) (LX (.str [97]) tok b p)=some (.brk,sZ q [32],LX (.str [32]) tok b p):=by
 cases tok with
 | nil=>cases q with
  | false=>cases h
  | true=>kernel_rfl
 | cons c t=>kernel_rfl
theorem N5{k p:Nat}{q:Bool}{tok b:LS}:exs (fE (k+2)) 395 FY (eM.drop 1) (sZ q []) (LX (.str [97]) tok b p)=some (.brk,sZ q [],LX .none tok b p):=∅
theorem Lo{k p:Nat}{q:Bool}{tok b:LS}:exs (fE (k+2)) 395 FY (eM.drop 1) (sZ q []) (LX .none tok b p)=some (.brk,sZ q [],LX .none [] b p):=∅
section
variable {k m p:Nat} {q:Bool} {o:Option PV} {tok b t:LS}
theorem gm{p c:Nat}{b r:LS}(h:b.drop p=c::r):b.drop (p+1)=r:=by
 rw [<-LM,h];rfl
theorem KR:∀(s:LS) (q:Bool) (o:Option PV) (tok:LS) (m p:Nat),(∀c∈s,c∈sx)->tok.length+s.length<100000->b.drop p=s++t->∃o',jS (fE (k+2)) (m+s.length) (AJ q o) (LX (.str [97]) tok b p)=jS (fE (k+2)) m (AJ q o') (LX (.str [97]) (tok++s) b (p+s.length))/\b.drop (p+s.length)=t:=by
 intro s
 induction s with
 | nil=>
  intro q o tok m p _ _ h
  exact⟨o,by rw [aM];rfl,h⟩
 | cons c s ih=>
  intro q o tok m p hs hl h
  rw [ao]at hl
  obtain⟨o',h1,h2⟩:=ih q (some (.str [c])) (tok++[c]) m (p+1) (λd hd=>hs d (an _ hd)) (by rw [ai];show tok.length+1+_<_;exact Pi hl) (gm h)
  refine⟨o',?_,by rw [ao,gS s.length 1,<-g8];exact h2⟩
  rw [ao,<-g8,iR (c:=c) (r:=s++t) h (JS (hs c aj) q (by exact M6 hl) k b (p+1)),h1,aP,g8 p 1,gS 1]
  rfl
noncomputable abbrev rj:LS:=[39,34,39,34,39]
theorem Bw(c:Nat)(s:LS):dN 39 rj (c::s)=(if c=39 then rj else [c]:LS)++dN 39 rj s:=rfl
theorem E8:∀(s:LS) (q:Bool) (o:Option PV) (tok:LS) (m p:Nat),(∀c∈s,c=39\/c∈me)->tok.length+s.length<100000->b.drop p=dN 39 rj s++t ->
  ∃q' o',jS (fE (k+2)) (m+(dN 39 rj s).length) (AJ q o) (LX (.str [39]) tok b p)=jS (fE (k+2)) m (AJ q' o') (LX (.str [39]) (tok++s) b (p+(dN 39 rj s).length))/\b.drop (p+(dN 39 rj s).length)=t:=by
 intro s
 induction s with
 | nil=>
  intro q o tok m p _ _ h
  exact⟨q,o,by rw [aM];rfl,h⟩
 | cons c s ih=>
  intro q o tok m p hs hl h
  rw [ao]at hl
  have hl':(tok++[c]).length+s.length<100000:=by rw [ai];show tok.length+1+_<_;exact Pi hl
  have hs':∀d∈s,d=39\/d∈me:=λd hd=>hs d (an _ hd)
  rw [Bw]at h ⊢
  by_cases e:c=39
  ·subst e
   rw [if_pos rfl]at h ⊢
   have h1:=gm h
   have h2:=gm h1
   have h3:=gm h2
   have h4:=gm h3
   have h5:=gm h4
   obtain⟨q',o',k1,k2⟩:=ih true (some (.str [39])) (tok++[39]) m (p+1+1+1+1+1) hs' hl' h5
   have en:p+(rj++dN 39 rj s).length=p+1+1+1+1+1+(dN 39 rj s).length:=by rw [ai];show _+(5+_)=_;exact Tz
   refine⟨q',o',?_,by rw [en];exact k2⟩
   rw [en,show m+(rj++dN 39 rj s).length=m+(dN 39 rj s).length+1+1+1+1+1 by rw [ai];show _+(5+_)=_;exact Tx]
   rw [iR h (Gr q tok k b _),iR h1 (Ot true tok k b _),iR h2 (wz (am ⟨rfl,rfl⟩) true (by exact M6 hl) k b _),iR h3 (MR true (tok++[39]) k b _),iR h4 (Os true (tok++[39]) k b _),k1,aP]
   rfl
  ·rw [if_neg e]at h ⊢
   have hc:c∈me:=(hs c aj).resolve_left e
   obtain⟨q',o',k1,k2⟩:=ih true (some (.str [c])) (tok++[c]) m (p+1) hs' hl' (gm h)
   have en:p+(([c]:LS)++dN 39 rj s).length=p+1+(dN 39 rj s).length:=by rw [ai];show _+(1+_)=_;exact Tw
   refine⟨q',o',?_,by rw [en];exact k2⟩
   rw [en,show m+(([c]:LS)++dN 39 rj s).length=m+(dN 39 rj s).length+1 by rw [ai];show _+(1+_)=_;exact Tv]
   rw [iR h (wz (av ⟨rfl,hc⟩) q (by exact M6 hl) k b _),k1,aP]
   rfl
end
end Mine.W
end
section
namespace Mine.W
section
variable {k p:Nat} {b t w:LS}
noncomputable def iT(w:LS):Prop:=∀c∈w,c=39\/c∈me
theorem J7{c:Nat}(h:c=39\/c∈me)(hu:cU c=false):c∈sx:=by
 simp only [me,sx,ay,bJ,or_false]at h ⊢
 rcases h with rfl | rfl | rfl | rfl | rfl | rfl | rfl | rfl | rfl | rfl | rfl | rfl | rfl | rfl | rfl<;>first | (exact absurd hu (by decide)) | decide
theorem Dt(hw:iT w)(hl:w.length<=10000)(h:b.drop p=c6 w++t):∃q o m,jS (fE (k+2)) 100000 (AJ false none) (LX (.str [32]) [] b p)=jS (fE (k+2)) (m+1) (AJ q o) (LX (.str [97]) w b (p+(c6 w).length))/\b.drop (p+(c6 w).length)=t/\(w.isEmpty && !q)=false:=by
 have hq:(∀c∈w,c∈sx)/\w≠[]/\c6 w=w\/c6 w=39::(dN 39 rj w++[39]):=by
  unfold c6
  cases w with
  | nil=>exact am rfl
  | cons c s=>
   cases e :!(c::s).any cU with
   | false=>exact am rfl
   | true=>
    refine av ⟨λd hd=>J7 (hw d hd) ?_,gC c s,rfl⟩
    cases e':cU d with
    | false=>rfl
    | true=>rw [List.any_eq_true.mpr ⟨d,hd,e'⟩]at e;cases e
 rcases hq with ⟨h1,h2,h3⟩ | h3
 ·rw [h3]at h ⊢
  cases w with
  | nil=>exact absurd rfl h2
  | cons c s=>
   have hl':s.length<10000:=hl
   obtain⟨o',k1,k2⟩:=KR (k:=k) s false (some (.str [c])) [c] (99999-s.length) (p+1) (λd hd=>h1 d (an _ hd)) (by show 1+_<_;exact Tu hl') (gm h)
   have en:p+(c::s).length=p+1+s.length:=by rw [ao];exact o0
   refine⟨false,o',99998-s.length,?_,by rw [en];exact k2,rfl⟩
   rw [en,show(100000:Nat)=99999-s.length+s.length+1 by exact Tt hl',iR (c:=c) (r:=s++t) h (Gq (h1 c aj) k b (p+1)),k1,show 99998-s.length+1=99999-s.length by exact Ts hl']
   rfl
 ·rw [h3]at h ⊢
  have h4:b.drop p=39::(dN 39 rj w++(39::t)):=by rw [h,eQ,aP];rfl
  have hr:=rM w
  obtain⟨q',o',k1,k2⟩:=E8 (k:=k) w false (some (.str [39])) [] (99999-(dN 39 rj w).length) (p+1) hw (by show 0+_<_;exact Tr hl) (gm h4)
  have en:p+(39::(dN 39 rj w++[39])).length=p+1+(dN 39 rj w).length+1:=by rw [ao,ai];show _+(_+1+1)=_;exact Tq
  refine⟨true,some (.str [39]),99997-(dN 39 rj w).length,?_,by rw [en];exact gm k2,by cases w<;>rfl⟩
  have hr2:(dN 39 rj w).length<=50000:=by have:(dN 39 rj w).length<=5*w.length:=hr;exact Tp hl this
  rw [en,show(100000:Nat)=99999-(dN 39 rj w).length+(dN 39 rj w).length+1 by exact To hr2,iR h4 (JT k b (p+1)),k1,show 99999-(dN 39 rj w).length=99997-(dN 39 rj w).length+1+1 by exact Tn hr2,iR k2 (Gr q' _ k b _)]
  rfl
noncomputable abbrev LV(q:Bool)(c:LS)(v:PV):br:=[("self",.obj 1),("quoted",.bool q),("escapedstate",.str [32]),("nextchar",.str c),("result",v)]
theorem Dz{q:Bool}{x tok:LS}{st st':PV}{p':Nat}(h:jS (fE (k+2)) 100000 (AJ false none) (LX st [] b p)=some (.next,sZ q x,LX st' tok b p'))(hv:(tok.isEmpty && !q)=false):fE (k+3) 840 [.obj 1] [] (LX st [] b p)=some (.str tok,LX st' [] b p'):=by
 rw [qJ (by rfl)]
 refine cN (fi:=⟨bv (bL pw 46 6),[]⟩) (σ:=[("self",.obj 1)]) ∅ ∅ ?_
 refine aS [("self",.obj 1),("quoted",.bool false)] (R1:=LX st [] b p) ∅ ?_
 refine aS [("self",.obj 1),("quoted",.bool false),("escapedstate",.str [32])] (R1:=LX st [] b p) ∅ ?_
 refine aS (sZ q x) (R1:=LX st' tok b p') ((show _=jS (fE (k+2)) 100000 (AJ false none) (LX st [] b p) by kernel_rfl).trans h) ?_
 refine aS (LV q x (.str tok)) (R1:=LX st' tok b p') ∅ ?_
 refine aS (LV q x (.str tok)) (R1:=LX st' [] b p') ∅ ?_
 refine aS (LV q x (.str tok)) (R1:=LX st' [] b p') ?_ ?_
 ·cases tok with
  | nil=>cases q with
   | false=>cases hv
   | true=>kernel_rfl
  | cons c t=>cases q<;>kernel_rfl
 refine aS (LV q x (.str tok)) (R1:=LX st' [] b p') ∅ ?_
 exact cV (.str tok) (R1:=LX st' [] b p') ∅ ⟨rfl,rfl⟩
theorem z9:fE (k+3) 840 [.obj 1] [] (LX .none [] b b.length)=some (.none,LX .none [] b b.length):=by
 have h:jS (fE (k+2)) 100000 (AJ false none) (LX .none [] b b.length)=some (.next,sZ false [],LX .none [] b b.length):=uR qZ Lo
 rw [qJ (by rfl)]
 refine cN (fi:=⟨bv (bL pw 46 6),[]⟩) (σ:=[("self",.obj 1)]) ∅ ∅ ?_
 refine aS [("self",.obj 1),("quoted",.bool false)] (R1:=LX .none [] b b.length) ∅ ?_
 refine aS [("self",.obj 1),("quoted",.bool false),("escapedstate",.str [32])] (R1:=LX .none [] b b.length) ∅ ?_
 refine aS (sZ false []) (R1:=LX .none [] b b.length) ((show _=jS (fE (k+2)) 100000 (AJ false none) (LX .none [] b b.length) by kernel_rfl).trans h) ?_
 refine aS (LV false [] (.str [])) (R1:=LX .none [] b b.length) ∅ ?_
 refine aS (LV false [] (.str [])) (R1:=LX .none [] b b.length) ∅ ?_
 refine aS (LV false [] (.none)) (R1:=LX .none [] b b.length) ∅ ?_
 refine aS (LV false [] (.none)) (R1:=LX .none [] b b.length) ∅ ?_
 exact cV .none (R1:=LX .none [] b b.length) ∅ ⟨rfl,rfl⟩
theorem L9{v:PV}{st st':PV}{p':Nat}(h:fE (k+3) 840 [.obj 1] [] (LX st [] b p)=some (v,LX st' [] b p'))(hv:v = .none \/ ∃s,v = .str s):fE (k+4) 833 [.obj 1] [] (LX st [] b p)=some (v,LX st' [] b p'):=by
 rw [qJ (by rfl)]
 refine cN (fi:=⟨bv (bL pw 46 5),[]⟩) (σ:=[("self",.obj 1)]) ∅ ∅ ?_
 refine aS [("self",.obj 1)] (R1:=LX st [] b p) ∅ ?_
 refine ch v [("self",.obj 1),("raw",v)] (R1:=LX st' [] b p') (eN (x:=.obj 1) (as:=[]) (R1:=LX st [] b p) (R2:=LX st [] b p) ∅ ∅ ∅ ((show _=fE (k+3) 840 [.obj 1] [] (LX st [] b p) by kernel_rfl).trans h)) ∅ ∅ ∅ ?_
 refine aS [("self",.obj 1),("raw",v)] (R1:=LX st' [] b p') ∅ ?_
 rcases hv with rfl | ⟨s,rfl⟩
 ·exact jq (z:=(.ret .none,[("self",.obj 1),("raw",.none)],LX st' [] b p')) ∅ ⟨rfl,rfl⟩
 ·refine aS [("self",.obj 1),("raw",.str s)] (R1:=LX st' [] b p') ∅ ?_
  refine aS [("self",.obj 1),("raw",.str s)] (R1:=LX st' [] b p') ∅ ?_
  exact cV (.str s) (R1:=LX st' [] b p') ∅ ⟨rfl,rfl⟩
theorem Da{sp:Spec}{j:Nat}{R R1:List aN}{v e:PV}{gs fs:List (Str × PV)}{c:Bool}(h1:R[j]? = some (.inst 872 gs))(h2:(gs.lookup ("get_token":Str)).isNone=true)(h3:sp 833 [.obj j] [] R=some (v,R1))(h4:R1[j]? = some (.inst 872 fs))(h5:fs.lookup ("eof":Str)=some e)(h6:td R1 .Eq v e=some c):lM sp j R=some (bif c then none else some v,R1):=tJ h1 (fV h2 (bo h3 (tJ h4 (fV rfl (c9 h5 (c9 (k:=λb=>some (bif b then none else some v,R1)) h6 rfl))))))
theorem wJ{s:LS}{st st':PV}{p':Nat}(h:fE (k+3) 840 [.obj 1] [] (LX st [] b p)=some (.str s,LX st' [] b p')):lM (fE (k+4)) 1 (LX st [] b p)=some (some (.str s),LX st' [] b p'):=
 Da (e:=.none) (c:=false) (gs:=FX true st []) (fs:=FX true st' []) rfl ∅ (L9 h (am ⟨s,rfl⟩)) rfl ∅ ∅
theorem EF:lM (fE (k+4)) 1 (LX .none [] b b.length)=some (none,LX .none [] b b.length):=
 Da (e:=.none) (c:=true) (gs:=FX true .none []) (fs:=FX true .none []) rfl ∅ (L9 (k:=k) (b:=b) z9 (av rfl)) rfl ∅ ∅
theorem sG:∀(ws:List LS) (p m:Nat),(∀w∈ws,iT w/\w.length<=10000)->ws≠[]->b.drop p=cj [32] (ws.map c6)->p<=b.length->ws.length<m->kz (λR=>lM (fE (k+4)) 1 R) m (LX (.str [32]) [] b p)=some (ws.map .str,LX .none [] b b.length)
 | [],_,_,_,h,_,_,_=>absurd rfl h
 | [w],p,m+2,hw,_,h,hp,_=>by
  obtain⟨h1,h2⟩:=hw w aj
  obtain⟨q,o,j,k1,k2,k3⟩:=Dt (k:=k) (t:=[]) h1 h2 (by rw [aM];exact h)
  have hpe:p+(c6 w).length=b.length:=by
   have:=congrArg bY h
   rw [cR]at this
   have:b.length-p=(c6 w).length:=this
   exact Tl hp this
  rw [hpe]at k1
  have k4:=Dz (k:=k) (k1.trans (uR qZ N5)) k3
  exact Ai (wJ k4) (Fm EF)
 | w::w'::ws,p,m+1,hw,_,h,hp,hm=>by
  obtain⟨h1,h2⟩:=hw w aj
  have hj:cj [32] ((w::w'::ws).map c6)=c6 w++(32::cj [32] ((w'::ws).map c6)):=by
   show c6 w++[32]++_=_
   rw [aP];rfl
  obtain⟨q,o,j,k1,k2,k3⟩:=Dt (k:=k) h1 h2 (h.trans hj)
  have k4:=Dz (k:=k) (k1.trans (uR (zP k2) (IP k3))) k3
  have k5:=gm k2
  have hp':p+(c6 w).length+1<=b.length:=by
   have:=congrArg bY k2
   rw [cR,ao]at this
   exact Tk this
  exact Ai (wJ k4) (sG (w'::ws) _ m (λx hx=>hw x (an _ hx)) (λq=>nomatch q) k5 hp' (by rw [ao]at hm;exact Ph hm))
theorem DB{ws:List LS}(hw:∀w∈ws,iT w/\w.length<=10000)(hn:ws≠[])(hl:ws.length<1000):eh (k+5) 884 [.str (cj [32] (ws.map c6)),.bool true] (.list (ws.map .str)):=by
 intro R hR
 have hL:=λs=>Hr (k+1) s
 refine et (R1:=[.tab,.inst 872 (FX true .none []),.inst 737 (QK (cj [32] (ws.map c6)) (cj [32] (ws.map c6)).length),.deq,.deq]) ?_ rfl (bH ws) rfl hR
 generalize hb:cj [32] (ws.map c6)=b
 refine cN (fi:=⟨bv (aL pw 47),[.bool false,.bool true]⟩) (σ:=[("s",.str b),("comments",.bool true),("posix",.bool true)]) ∅ ∅ ?_
 refine aS [("s",.str b),("comments",.bool true),("posix",.bool true)] (R1:=[.tab]) ∅ ?_
 refine aS [("s",.str b),("comments",.bool true),("posix",.bool true),("lex",.obj 1)] (R1:=[.tab,.inst 872 (FX false (.str [32]) []),.inst 737 (QK b 0),.deq,.deq]) ∅ ?_
 refine aS [("s",.str b),("comments",.bool true),("posix",.bool true),("lex",.obj 1)] (R1:=LX (.str [32]) [] b 0) ∅ ?_
 refine aS [("s",.str b),("comments",.bool true),("posix",.bool true),("lex",.obj 1)] (R1:=LX (.str [32]) [] b 0) ∅ ?_
 refine cV (.list (ws.map .str)) (R1:=LX .none [] b b.length) ?_ ⟨rfl,rfl⟩
 refine cS (b:=bnd (kz (λR=>lM (fE (k+4)) 1 R) 100000 (LX (.str [32]) [] b 0)) λys R2=>fM (mkL ys) R2) ∅ ?_
 exact bo (sG ws 0 100000 hw hn hb.symm (bp _) (by exact Tj hl)) (gU (uG (by rw [ae];exact bg (bR hl (by decide)))))
end
end Mine.W
end
section
namespace Mine.W
theorem mw{α:Type}(l:List α)(i:Nat):iD l (i:Int)=l[i]? := by
 unfold iD
 rw [if_pos (gT i),ft]
theorem ur(ss:List LS):(ga ss).length=ss.length:=A3 _
theorem xh{R:List aN}{ss:List LS}(h:ss.length<64):Ol R (.builtin "sorted") [.list (ss.map .str)]=some (.list ((ga ss).map .str)):=by
 refine cS (b:=optO (fg (ss.map .str)) none λss=>grd (decide (ss.length<64)) (some (.list ((ga ss).map .str)))) ∅ (c9 (gI ss) (fV (decide_eq_true h) rfl))
noncomputable def Aw(ss:List LS)(i:Nat):LS:=(ga ss).getD i []
theorem yD{ss:List LS}{i:Nat}(h:i<ss.length):((ga ss).map PV.str)[i]? = some (.str (Aw ss i)):=by
 have h':i<(ga ss).length:=by rw [ur];exact h
 rw [jG,bQ h']
 unfold Aw
 rw [db,bQ h']
 rfl
theorem NV{k:Nat}{ss:List LS}(h0:ss≠[])(hl:ss.length<64):eh (k+1) 71 [.list (ss.map .str)] (.str (Aw ss (ss.length / 2))):=by
 intro R hR
 have hpos:0<ss.length:=b6.mpr h0
 refine et (R1:=[.tab]) ?_ (by show(bF (ss.map .str)&&true)=true;rw [bH];rfl) rfl rfl hR
 refine cN (fi:=⟨bv (aL pw 6),[]⟩) (σ:=[("data",.list (ss.map .str))]) ∅ ∅ ?_
 refine ch (.list ((ga ss).map .str)) [("data",.list ((ga ss).map .str))] (R1:=[.tab]) (sF (as:=[.list (ss.map .str)]) ∅ ∅ ∅ (xh hl)) ∅ ∅ ∅ ?_
 refine ch (.int (ss.length:Int)) [("data",.list ((ga ss).map .str)),("n",.int (ss.length:Int))] (R1:=[.tab]) (Ce (b:=.int ((((ga ss).map PV.str).length:Nat):Int)) ∅ (by rw [ae,ur])) ∅ ∅ ∅ ?_
 refine cW (R1:=[.tab]) (nz (b:=(ss.length:Int)==0) ∅ (beq_eq_false_iff_ne.mpr (by exact Pg hpos))) (aZ ?_)
 refine cV (.str (Aw ss (ss.length / 2))) (R1:=[.tab]) (mi (x:=.list ((ga ss).map .str)) (R1:=[.tab]) ∅ ∅ ?_) ⟨rfl,rfl⟩
 refine cS (b:=(iD ((ga ss).map PV.str) (kH (ss.length:Int) (2:Nat))).map λv=>(v,[.tab])) ∅ ?_
 rw [kc,mw,yD (oK hpos (by decide))];rfl
theorem L8{k:Nat}{ss:List LS}(h0:ss≠[])(hl:ss.length<64):eh (k+1) 64 [.list (ss.map .str)] (.str (Aw ss ((ss.length-1) / 2))):=by
 intro R hR
 have hpos:0<ss.length:=b6.mpr h0
 refine et (R1:=[.tab]) ?_ (by show(bF (ss.map .str)&&true)=true;rw [bH];rfl) rfl rfl hR
 refine cN (fi:=⟨bv (aL pw 5),[]⟩) (σ:=[("data",.list (ss.map .str))]) ∅ ∅ ?_
 refine ch (.list ((ga ss).map .str)) [("data",.list ((ga ss).map .str))] (R1:=[.tab]) (sF (as:=[.list (ss.map .str)]) ∅ ∅ ∅ (xh hl)) ∅ ∅ ∅ ?_
 refine ch (.int (ss.length:Int)) [("data",.list ((ga ss).map .str)),("n",.int (ss.length:Int))] (R1:=[.tab]) (Ce (b:=.int ((((ga ss).map PV.str).length:Nat):Int)) ∅ (by rw [ae,ur])) ∅ ∅ ∅ ?_
 refine cW (R1:=[.tab]) (nz (b:=(ss.length:Int)==0) ∅ (beq_eq_false_iff_ne.mpr (by exact Pg hpos))) (aZ ?_)
 by_cases ho:ss.length % 2=1
 ·refine fb (R1:=[.tab]) (nz (b:=qb (ss.length:Int) (2:Nat)==1) ∅ (by rw [oC,ho];rfl)) ?_
  refine cV (.str (Aw ss ((ss.length-1) / 2))) (R1:=[.tab]) (mi (x:=.list ((ga ss).map .str)) (R1:=[.tab]) ∅ ∅ ?_) ⟨rfl,rfl⟩
  refine cS (b:=(iD ((ga ss).map PV.str) (kH (ss.length:Int) (2:Nat))).map λv=>(v,[.tab])) ∅ ?_
  rw [kc,mw,show ss.length / 2=(ss.length-1) / 2 by exact Ti ho,yD (by exact Th ho)];rfl
 ·refine cW (R1:=[.tab]) (nz (b:=qb (ss.length:Int) (2:Nat)==1) ∅ (by rw [oC,beq_eq_false_iff_ne];exact Tg ho)) ?_
  refine cV (.str (Aw ss ((ss.length-1) / 2))) (R1:=[.tab]) (mi (x:=.list ((ga ss).map .str)) (R1:=[.tab]) ∅ ∅ ?_) ⟨rfl,rfl⟩
  refine cS (b:=(iD ((ga ss).map PV.str) (kH (ss.length:Int) (2:Nat)-1)).map λv=>(v,[.tab])) ∅ ?_
  rw [kc,show((ss.length / 2:Nat):Int)-1=(((ss.length-1) / 2:Nat):Int) by exact Tf hpos ho,mw,yD (by exact Pf hpos)];rfl
theorem tH(n:Nat)(l:List LS):uD (n+1) (aV l)=true:=by
 show om n (l.map .str)=true
 induction l with
 | nil=>cases n<;>rfl
 | cons x l ih=>show(uD n (.str x)&&om n (l.map .str))=true;rw [ih];cases n<;>rfl
theorem sb(a b:List LS):mD (a.map .str) (b.map .str)=(a==b):=by
 induction a generalizing b with
 | nil=>cases b<;>rfl
 | cons x a ih=>cases b with
  | nil=>rfl
  | cons y b=>show(yC (.str x) (.str y)&&mD (a.map .str) (b.map .str))=_;rw [ih];rfl
theorem Ld(a b:List LS):AL (aV a) (aV b)=some (a==b):=by
 unfold AL
 rw [tH,tH]
 show some (mD (a.map .str) (b.map .str))=_
 rw [sb]
theorem mZ(r:List LS)(k:Nat):dH (r.map PV.str) none (some (k:Int))=(r.take k).map .str:=by
 show(r.map PV.str).take (r6 (k:Int) _)=_
 unfold r6
 rw [if_neg (by exact M5),ft,qA]
noncomputable def rm(rows:List (List LS))(far:List LS)(k:Nat):Nat:=(rows.filter λr=>r.take k==far.take k).length
noncomputable def gk(rows:List (List LS))(far:List LS)(least:Nat):Nat->Nat
 | 0=>0
 | k+1=>if rm rows far (k+1)<least then gk rows far least k else k+1
noncomputable def dZ(rows:List (List LS))(far:List LS)(least:Nat):List LS:=far.take (gk rows far least far.length)
noncomputable def OA(p:List LS->Bool):PV->Option PV
 | .tup y=>(fg y).bind λr=>if p r then some (.tup y)else none
 | _=>none
theorem ux(p:List LS->Bool)(r:List LS):OA p (aV r)=if p r then some (aV r)else none:=by
 show(fg (r.map .str)).bind _=_
 rw [gI];rfl
theorem wa(p:List LS->Bool):∀l:List (List LS),(l.map aV).filterMap (OA p)=(l.filter p).map aV:=by
 intro l
 induction l with
 | nil=>
  exact rfl
 | cons r l ih=>
  rw [aK,gy,d3,ux,ih]
  cases p r<;>rfl
noncomputable abbrev Of(rows:List (List LS))(far:List LS)(least k:Nat):br:=[("rows",.list (rows.map aV)),("far",aV far),("least",.int (least:Int)),("k",.int (k:Int))]
theorem DE{k:Nat}{rows:List (List LS)}{far:List LS}{least:Nat}(hl:least<=rows.length)(hf:far.length<10000)(hr:rows.length<10000):eh (k+1) 942 [.list (rows.map aV),aV far,.int (least:Int)] (aV (dZ rows far least)):=by
 intro R hR
 refine et (R1:=[.tab]) ?_ (by show(bF (rows.map aV)&&(bF (far.map .str)&&true))=true;rw [bS (f:=aV) λr ζ=>bH r,bH];rfl) (bH _) rfl hR
 refine cN (fi:=⟨bv (aL pw 58),[]⟩) (σ:=[("rows",.list (rows.map aV)),("far",aV far),("least",.int (least:Int))]) ∅ ∅ ?_
 refine ch (.int (far.length:Int)) (Of rows far least far.length) (R1:=[.tab]) (Ce (b:=.int (((far.map PV.str).length:Nat):Int)) ∅ (by rw [ae])) ∅ ∅ ∅ ?_
 have test:∀j,tv (fE k) 397 ⟨(bv (aL pw 58)).scope.names,1⟩ (match (bv (aL pw 58)).body.getD 1 bN with | .While t _ _ _=>t | _=>bN) (Of rows far least j) [.tab]=some (decide (rm rows far j<least),[.tab]):=by
  intro j
  refine ja (x:=.int (rm rows far j:Int)) (y:=.int (least:Int)) (R1:=[.tab]) ∅ (sF (g:=.builtin "len") (as:=[.list ((rows.filter λr=>r.take j==far.take j).map aV)]) ∅ ∅ (fF (ge ?_ ?_)) ?_) ∅ ?_
  ·rw [<-wa]
   refine vu (R1:=[.tab]) _ ∅ (il ∅ ∅) λx hx=>?_
   obtain⟨r,hr,rfl⟩:=aH.mp hx
   refine⟨[("far",aV far),("k",.int (j:Int)),("row",aV r)],r.take j==far.take j,∅,?_,λe=>⟨aV r,∅,?_⟩,λe=>?_⟩
   ·refine mW (ja (x:=aV (r.take j)) (y:=aV (far.take j)) (R1:=[.tab]) ∅ (Ce (b:=.tup (dH (r.map PV.str) none (some (j:Int)))) ∅ (by rw [mZ])) (Ce (b:=.tup (dH (far.map PV.str) none (some (j:Int)))) ∅ (by rw [mZ])) (Ld _ _))
   ·rw [ux,if_pos e]
   ·rw [ux,if_neg (by rw [e];exact aX)]
  ·rw [ae];exact ah (g9 _ _) (bg (bR hr (by decide)))
  ·refine cS (b:=some (.int (((rows.filter λr=>r.take j==far.take j).map aV).length:Int))) ∅ ?_
   rw [ae];rfl
  ·refine cS (b:=some (decide ((rm rows far j:Int)<(least:Int)))) ∅ ?_
   congr 1
   rw [decide_eq_decide];exact Te
 have loop:∀j m,j<m->Ba (λσ R=>tv (fE k) 397 ⟨(bv (aL pw 58)).scope.names,1⟩ (match (bv (aL pw 58)).body.getD 1 bN with | .While t _ _ _=>t | _=>bN) σ R) (λσ R=>exs (fE k) 397 ⟨(bv (aL pw 58)).scope.names,1⟩ (match (bv (aL pw 58)).body.getD 1 bN with | .While _ b _ _=>b | _=>[]) σ R) m (Of rows far least j) [.tab]=some (.next,Of rows far least (gk rows far least j),[.tab]):=by
  intro j
  induction j with
  | zero=>
   intro m hm
   cases m with
   | zero=>exact absurd hm (eZ 0)
   | succ m=>
    refine CZ ((test 0).trans (congrArg some (congrArg (·,[aN.tab]) (decide_eq_false ?_))))
    have:rm rows far 0=rows.length:=by
     unfold rm
     rw [iV.mpr]
     intro r _
     rw [jF,jF];rfl
    exact Td hl this
  | succ j ih=>
   intro m hm
   cases m with
   | zero=>exact absurd hm (ji _)
   | succ m=>
    by_cases hc:rm rows far (j+1)<least
    ·rw [show gk rows far least (j+1)=gk rows far least j from if_pos hc]
     exact(A9 (y':=(Of rows far least j,[.tab])) ((test (j+1)).trans (congrArg some (congrArg (·,[aN.tab]) (decide_eq_true hc)))) (dp (yi (x:=.int ((j+1:Nat):Int)) (y:=.int 1) (v:=.int (j:Int)) (R1:=[.tab]) ∅ ∅ (by show some (PV.int (((j+1:Nat):Int)-1))=_;rw [show((j+1:Nat):Int)-1=(j:Int) by exact Tc]) ∅))).trans (ih m (by exact Ph hm))
    ·rw [show gk rows far least (j+1)=j+1 from if_neg hc]
     exact CZ ((test (j+1)).trans (congrArg some (congrArg (·,[aN.tab]) (decide_eq_false hc))))
 refine Ek (z:=(.next,Of rows far least (gk rows far least far.length),[.tab])) (loop far.length 100000 (by exact Tb hf)) ?_
 exact cV (aV (dZ rows far least)) (R1:=[.tab]) (Ce (b:=.tup (dH (far.map PV.str) none (some ((gk rows far least far.length:Nat):Int)))) ∅ (by rw [mZ];rfl)) ⟨rfl,rfl⟩
end Mine.W
end
section
namespace Mine.W
section
variable {sp:Spec} {n k:Nat} {cx:Cx} {σ σ1:br} {R R1 R2:List aN} {t e it l:bE} {v x y:PV} {p:dS}
theorem pg{f:Str}{fp:dS}{kws:List cQ}{l:List PV}(hg:gl cx f=true)(hk:lT (ff f) [e] kws = .maxLen e)(hw:L4 cx kws=true)(h:ev sp n cx e σ R=some (.list l,R1))(hm:maxLen R1 l=some v):ev sp (n+2) cx (.Call (.Name f fp) [e] kws p) σ R=some (v,R1):=by
 exact ro hg hk (fV hw (bo (k:=λv R1=>jL v none λl=>fM (maxLen R1 l) R1) h (gU hm)))
theorem Cv{α β:Type}(g:α->β)(bt:β->β->Bool)(l:List α):iJ bt (l.map g)=(iJ (λa b=>bt (g a) (g b)) l).map g:=by
 cases l with
 | nil=>rfl
 | cons x l=>
  show some ((l.map g).foldl _ (g x))=some (g (l.foldl _ x))
  congr 1
  induction l generalizing x with
  | nil=>rfl
  | cons y l ih=>
   simp only [aK,kN]
   rw [<-ih,apply_ite g]
noncomputable def kK{α:Type}(l:List (List α)):Option (List α):=iJ (λa b=>decide (b.length<a.length)) l
theorem wM{α:Type}{F:List α->PV}(hF:∀x,q8 R (F x)=some x.length)(l:List (List α)):maxLen R (l.map F)=(kK l).map F:=by
 unfold maxLen
 have:(l.map F).mapM (λv=>(q8 R v).map λn=>(n,v))=some (l.map λx=>(x.length,F x)):=by
  induction l with
  | nil=>rfl
  | cons x l ih=>simp only [aK,gB,hF,ih,i8];rfl
 rw [this,gr,Cv (λx=>(x.length,F x)),Option.map_map]
 rfl
theorem Kx(x:List LS):q8 R (aV x)=some x.length:=by
 show some ((x.map PV.str).length)=_
 rw [ae]
theorem len_str(x:LS):q8 R (.str x)=some x.length:=rfl
end
noncomputable def bz(flat:List (List LS)):List LS:=(kK (flat.map λr=>dZ flat r (flat.length / 2+1))).getD []
theorem qY{α:Type}{l:List (List α)}(h:l≠[]):kK l=some ((kK l).getD []):=by
 cases l with
 | nil=>exact absurd rfl h
 | cons x l=>rfl
noncomputable def CC(k:Nat)(f:PV->List LS)(v:PV):Prop:=v=aV (f v) \/ ∃l,v = .list l/\bF l=true/\eh k 947 [v] (aV (f v))
theorem CC.noObj{k:Nat}{f:PV->List LS}{v:PV}(h:CC k f v):noObj v=true:=by
 rcases h with h | ⟨l,rfl,h,_⟩
 ·rw [h];exact bH _
 ·exact h
theorem Dy{k:Nat}{vs:List PV}{f:PV->List LS}(hn:vs≠[])(hl:vs.length<1000)(hv:∀v∈vs,CC (k+1) f v/\(f v).length<10000):eh (k+2) 947 [.list vs] (aV (bz (vs.map f))):=by
 intro R hR
 have hno:bF vs=true:=by
  have:bF (vs.map λx=>x)=true:=bS λv hx=>(hv v hx).1.noObj
  rwa [fZ]at this
 refine et (R1:=[.tab]) ?_ (by show(bF vs&&true)=true;rw [hno];rfl) (bH _) rfl hR
 refine cN (fi:=⟨bv (aL pw 59),[]⟩) (σ:=[("rows",.list vs)]) ∅ ∅ ?_
 have e0:(vs.map f).map aV=vs.map λv=>aV (f v):=by rw [aG];rfl
 refine ch (.list ((vs.map f).map aV)) [("rows",.list vs),("flat",.list ((vs.map f).map aV))] (R1:=[.tab]) (ge ?_ (by rw [ae,ae];exact bg (bR hl (by decide)))) ∅ ∅ ∅ ?_
 ·rw [e0]
  refine jy (R1:=[.tab]) _ ∅ (il ∅ ∅) λv hx=>⟨[("row",v)],∅,?_⟩
  rcases(hv v hx).1 with h | ⟨l,rfl,h1,h2⟩
  ·obtain⟨r,hr⟩:∃r,f v=r:=⟨_,rfl⟩
   rw [hr]at h ⊢
   subst h
   exact kd (b:=true) (R1:=[.tab]) ∅ ∅
  ·exact kd (b:=false) (R1:=[.tab]) ∅ (eA (g:=947) (as:=[.list l]) (R1:=[.tab]) ∅ ∅ ∅ ∅ (h2 _ rfl))
 generalize hfl:vs.map f=flat
 have hflen:flat.length=vs.length:=by rw [<-hfl,ae]
 have hpos:0<vs.length:=b6.mpr hn
 have hfd:∀r∈flat,r.length<10000:=λr hr=>by
  rw [<-hfl]at hr
  obtain⟨v,hv',rfl⟩:=aH.mp hr
  exact(hv v hv').2
 refine cV (aV (bz flat)) (R1:=[.tab]) (pg (l:=(flat.map λr=>dZ flat r (flat.length / 2+1)).map aV) ∅ ∅ ∅ (ge ?_ ?_) ?_) ⟨rfl,rfl⟩
 ·have e1:(flat.map λr=>dZ flat r (flat.length / 2+1)).map aV=(flat.map aV).map λx=>match x with | .tup y=>aV (dZ flat ((fg y).getD []) (flat.length / 2+1)) | _=>.none:=by
   rw [aG,aG]
   refine bf λr ζ=>?_
   show _=aV (dZ flat ((fg (r.map .str)).getD []) (flat.length / 2+1))
   rw [gI];rfl
  rw [e1]
  refine jy (R1:=[.tab]) _ ∅ (il ∅ ∅) λx hx=>?_
  obtain⟨r,hr,rfl⟩:=aH.mp hx
  refine⟨[("flat",.list (flat.map aV)),("row",aV r)],∅,?_⟩
  show ev _ _ _ _ _ _=some (aV (dZ flat ((fg (r.map .str)).getD []) (flat.length / 2+1)),_)
  rw [gI]
  refine eA (g:=942) (as:=[.list (flat.map aV),aV r,.int ((flat.length / 2+1:Nat):Int)]) (R1:=[.tab]) ∅ ∅ ∅ ?_ (DE (by exact Ta hflen hpos) (hfd r hr) (by exact S9 hl hflen) _ rfl)
  refine cS (b:=some ([.list (flat.map aV),aV r,.int (kH (((flat.map aV).length:Nat):Int) (2:Nat)+1)],[.tab])) ∅ ?_
  rw [ae,kc];rfl
 ·rw [ae,ae,hflen];exact bg (bR hl (by decide))
 ·rw [wM Kx,qY]
  ·rfl
  ·intro q
   have:=congrArg bY q
   rw [ae,ci]at this
   exact S8 hflen hpos this
end Mine.W
end
section
namespace Mine.W
section
variable {sp:Spec} {n k:Nat} {cx:Cx} {σ σ1:br} {R R1 R2:List aN} {t e it l:bE} {v x y:PV} {p q:dS}
theorem r5{f g h:Str}{fp gp hp:dS}{a:aB}{l:List PV}(hg:gl cx f=true)(hk:lT (ff f) [.Call (.Name g gp) [.Name h hp,e] [] q] [] = .tupMap a e)(hm:L2 cx [.Call (.Name g gp) [.Name h hp,e] [] q]=true)(he:ev sp n cx e σ R=some (.list l,R1))(hs:∀x∈l,sp a [x] [] R1=some (x,R1))(hl:l.length<=SZ) :
  ev sp (n+2) cx (.Call (.Name f fp) [.Call (.Name g gp) [.Name h hp,e] [] q] [] p) σ R=some (.tup l,R1):=by
 have hm':mf (Ho sp a) l R1=some (l,R1):=(zL (g:=some) λx hx=>bo (k:=λy R'=>some (some y,R')) (hs x hx) rfl).trans (by rw [List.filterMap_some])
 exact ro hg hk (fV hm (bo (k:=λv R1=>jL v none λl=>bnd (mf (Ho sp a) l R1) λys R2=>fM (mkT ys) R2) he (bo (k:=λys R2=>fM (mkT ys) R2) hm' (gU (BE hl)))))
theorem Do{xs:List PV}(h:ev sp n cx it σ R=some (.tup xs,R1))(hk:ik cx it = .plain):itv sp (n+1) cx it σ R=some (xs,R1):=xZ hk (bo (k:=λv R1=>Ei v none λl=>some (l,R1)) h rfl)
theorem HG{xs:List PV}(h:ev sp n cx e σ R=some (.list xs,R1))(hk:ik cx it = .enum e):itv sp (n+1) cx it σ R=some (mz 0 xs,R1):=xZ hk (bo (k:=λv R1=>jL v none λl=>some (mz 0 l,R1)) h rfl)
theorem B3{f:Str}{fp:dS}{xs:List PV}(h:ev sp n cx e σ R=some (.list xs,R1))(hk:ik cx (.Call (.Name f fp) [e] [] q) = .enum e):forIt sp (n+2) cx (.Call (.Name f fp) [e] [] q) σ R=some (mz 0 xs,σ,R1):=z6 (HG h hk) rfl
theorem B9{f:Str}{tt elt:bE}{gs:List fJ}{sc:Scope}{b:Bool}{r:List PV}(ha:ak tt (.SetComp elt gs sc q) = .one f elt gs sc)(h:cmpv sp n cx elt gs sc σ R=some (.bool b::r,R1))(hr:r.all (VA b)=true)(hs:qL cx σ f (.bool b)=some σ1):ex sp (n+2) cx (.Assign [tt] (.SetComp elt gs sc q) p) σ R=some (.next,σ1,R1):=by
 refine Cw ha ?_
 delta FC
 exact bo h (fV hr (c9 hs rfl))
end
noncomputable def cC(s:LS):List LS:=(aQ 47 s).filter λc =>!c.isEmpty && !(c==[46])
noncomputable def ip:List LS->List LS->List LS
 | x::a,y::b=>if x=y then x::ip a b else []
 | _,_=>[]
noncomputable def v6(l:List (List LS)):List LS:=(iJ (λa b=>decide (a<b)) l).getD []
noncomputable def zJ(l:List (List LS)):List LS:=(iJ (λa b=>decide (b<a)) l).getD []
noncomputable def tR(ss:List LS):LS:=aI (ip (v6 (ss.map cC)) (zJ (ss.map cC)))
theorem sK(l:List (List LS)):gf (l.map λr=>.list (r.map .str))=some l:=by
 unfold gf
 induction l with
 | nil=>rfl
 | cons x l ih=>simp only [aK,gB,gI,ih];rfl
noncomputable abbrev jd(r:List LS):PV:=.list (r.map .str)
theorem N7{R:List aN}{l:List (List LS)}(h:l≠[]):Ol R (.builtin "min") [.list (l.map jd)]=some (jd (v6 l)):=by
 refine cS (b:=optO (gf (l.map jd)) none λss=>optO (iJ (λa b=>decide (a<b)) ss) none λs=>some (.list (s.map .str))) ∅ (c9 (sK l) ?_)
 cases l with
 | nil=>exact absurd rfl h
 | cons x l=>rfl
theorem N8{R:List aN}{l:List (List LS)}(h:l≠[]):Ol R (.builtin "max") [.list (l.map jd)]=some (jd (zJ l)):=by
 refine cS (b:=optO (gf (l.map jd)) none λss=>optO (iJ (λa b=>decide (b<a)) ss) none λs=>some (.list (s.map .str))) ∅ (c9 (sK l) ?_)
 cases l with
 | nil=>exact absurd rfl h
 | cons x l=>rfl
noncomputable def MV(p:LS->Bool):PV->Option PV
 | .str c=>if p c then some (.str c)else none
 | _=>none
theorem uw(p:LS->Bool)(c:LS):MV p (.str c)=if p c then some (.str c)else none:=rfl
theorem pQ(p:LS->Bool):∀l:List LS,(l.map PV.str).filterMap (MV p)=(l.filter p).map .str:=by
 intro l
 induction l with
 | nil=>
  exact rfl
 | cons r l ih=>
  rw [aK,gy,d3,uw,ih]
  cases p r<;>rfl
noncomputable abbrev Jx(ss:List LS)(s1 s2 com:List LS)(tl:br):br:=("paths",.tup (ss.map .str))::("sep",.str [47])::("curdir",.str [46])::("split_paths",.list ((ss.map cC).map jd))::("isabs",.bool true)::("s1",jd s1)::("s2",jd s2)::("common",jd com)::tl
theorem Cg(i:Nat)(x:PV)(l:List PV):mz i (x::l) = .tup [.int (i:Int),x]::mz (i+1) l:=rfl
theorem xe:∀a b:List LS,cc (ip a b)<=cc a
 | [],_=>aF _
 | x::a,[]=>bp _
 | x::a,y::b=>by
  show cc (if x=y then x::ip a b else [])<=_
  split
  ·rw [eH,eH];exact qy (xe a b) _
  ·exact bp _
theorem Ft{x y:LS}{a b:List LS}:∀d:List LS,¬x=y->ip (d++x::a) (d++y::b)=d:=by
 intro d
 induction d with
 | nil=>
  intro h
  show(if x=y then _ else _)=_;rw [if_neg h]
 | cons z d ih=>
  intro h
  show(if z=z then z::ip (d++x::a) (d++y::b)else [])=_;rw [if_pos rfl,ih h]
theorem vr:∀d b:List LS,ip d (d++b)=d
 | [],b=>by cases b<;>rfl
 | z::d,b=>by show(if z=z then z::ip d (d++b)else [])=_;rw [if_pos rfl,vr d b]
theorem EN:∀(d:List LS) (c:LS) (r:List LS),d<d++c::r:=by
 intro d
 induction d with
 | nil=>
  intro c r
  exact List.Lex.nil
 | cons z d ih=>
  intro c r
  exact List.Lex.cons (ih c r)
theorem vg{k:Nat}{ss:List LS}(h0:ss≠[])(hl:ss.length<1000)(hs:∀s∈ss,s.length<=1000 /\ ∃s',s=47::s')(hle:¬(zJ (ss.map cC)<v6 (ss.map cC)))(hm:cc (v6 (ss.map cC))<=300000) :
  eh (k+2) 184 [.list (ss.map .str)] (.str (tR ss)):=by
 intro R hR
 have hS:SZ=1000000:=rfl
 refine et (R1:=[.tab]) ?_ (by show(bF (ss.map .str)&&true)=true;rw [bH];rfl) rfl rfl hR
 obtain⟨sa,sr,hsa⟩:∃a r,ss=a::r:=by
  cases ss with
  | nil=>exact absurd rfl h0
  | cons a r=>exact⟨a,r,rfl⟩
 refine cN (fi:=⟨bv (aL pw 25),[]⟩) (σ:=[("paths",.list (ss.map .str))]) ∅ ∅ ?_
 refine ch (.tup (ss.map .str)) [("paths",.tup (ss.map .str))] (R1:=[.tab]) (r5 (a:=144) ∅ ∅ ∅ ∅ ?_ (by rw [ae];exact M4 hl hS)) ∅ ∅ ∅ ?_
 ·intro x hx
  obtain⟨s,_,rfl⟩:=aH.mp hx
  exact H2 rfl
 refine aS [("paths",.tup (ss.map .str))] (R1:=[.tab]) (by subst hsa;kernel_rfl) ?_
 refine aS [("paths",.tup (ss.map .str)),("sep",.str [47]),("curdir",.str [46])] (R1:=[.tab]) (by subst hsa;kernel_rfl) ?_
 refine xM ?_
 have hst:∀(g:LS->PV),(ss.map PV.str).map (λx=>g ((pS x).getD []))=ss.map g:=λg=>by rw [aG];rfl
 refine ch (.list (ss.map λs=>jd (aQ 47 s))) [("paths",.tup (ss.map .str)),("sep",.str [47]),("curdir",.str [46]),("split_paths",.list (ss.map λs=>jd (aQ 47 s)))] (R1:=[.tab]) (ge ?_ (by rw [ae];exact M4 hl hS)) ∅ ∅ ∅ ?_
 ·rw [<-hst λs=>jd (aQ 47 s)]
  refine jy (R1:=[.tab]) _ ∅ (Do ∅ ∅) λx hx=>?_
  obtain⟨s,hsm,rfl⟩:=aH.mp hx
  have:=(hs s hsm).1
  have h2:=j8 47 s
  have h3:=kb (aQ 47 s)
  exact⟨[("sep",.str [47]),("path",.str s)],∅,eN (x:=.str s) (as:=[.str [47]]) (R1:=[.tab]) ∅ ∅ ∅ (oy (by exact S7 hS this h2 h3))⟩
 refine jp [("paths",.tup (ss.map .str)),("sep",.str [47]),("curdir",.str [46]),("split_paths",.list (ss.map λs=>jd (aQ 47 s))),("isabs",.bool true)] (R1:=[.tab]) (xM (aS _ (R1:=[.tab]) (B9 (f:="isabs") (b:=true) (r:=sr.map λζ=>.bool true) ∅ ?_ (by rw [List.all_map];exact bu.mpr λζ ζ=>rfl) ∅) (aZ (aZ rfl)))) ?_
 ·have e:(PV.bool true::sr.map λζ=>PV.bool true)=(ss.map PV.str).map λζ=>PV.bool true:=by rw [hsa,aG];rfl
  rw [e]
  refine jy (R1:=[.tab]) _ ∅ (Do ∅ ∅) λx hx=>?_
  obtain⟨s,hsm,rfl⟩:=aH.mp hx
  obtain⟨_,s',rfl⟩:=hs s hsm
  exact⟨[("sep",.str [47]),("p",.str (47::s'))],∅,∅⟩
 refine ch (.list ((ss.map cC).map jd)) [("paths",.tup (ss.map .str)),("sep",.str [47]),("curdir",.str [46]),("split_paths",.list ((ss.map cC).map jd)),("isabs",.bool true)] (R1:=[.tab]) (ge ?_ (by rw [ae,ae];exact M4 hl hS)) ∅ ∅ ∅ ?_
 ·have e:(ss.map cC).map jd=(ss.map λs=>jd (aQ 47 s)).map λx=>match x with | .list y=>.list (y.filterMap (MV λc =>!c.isEmpty && !(c==[46]))) | _=>.none:=by
   rw [aG,aG]
   refine bf λs ζ=>?_
   show PV.list _=PV.list _
   rw [pQ];rfl
  rw [e]
  refine jy (R1:=[.tab]) _ ∅ (il ∅ ∅) λx hx=>?_
  obtain⟨s,hsm,rfl⟩:=aH.mp hx
  refine⟨[("curdir",.str [46]),("s",jd (aQ 47 s))],∅,ge ?_ ?_⟩
  ·refine vu (R1:=[.tab]) _ ∅ (il ∅ ∅) λx hx=>?_
   obtain⟨c,hc,rfl⟩:=aH.mp hx
   refine⟨[("curdir",.str [46]),("c",.str c)],!c.isEmpty && !(c==[46]),∅,?_,λe=>⟨.str c,∅,?_⟩,λe=>?_⟩
   ·cases c with
    | nil=>kernel_rfl
    | cons d c'=>
     refine mW (tB (R1:=[.tab]) ∅ (mW (nz (b :=!(d::c'==[46])) ∅ ?_)))
     show _=(!(d::c').isEmpty && !(d::c'==[46]))
     rfl
   ·rw [uw,if_pos e]
   ·rw [uw,if_neg (by rw [e];exact aX)]
  ·rw [pQ,ae]
   have:=(hs s hsm).1
   have h2:=j8 47 s
   have h3:=kb (aQ 47 s)
   have h4:=g9 (λc:LS =>!c.isEmpty && !(c==[46])) (aQ 47 s)
   exact S6 hS this h2 h3 h4
 have hne:ss.map cC≠[]:=by rw [hsa];exact λq=>nomatch q
 generalize hs1:v6 (ss.map cC)=s1 at hle hm
 generalize hs2:zJ (ss.map cC)=s2 at hle
 have hcp:tR ss=aI (ip s1 s2):=by unfold tR;rw [hs1,hs2]
 rw [hcp]
 refine ch (jd s1) [("paths",.tup (ss.map .str)),("sep",.str [47]),("curdir",.str [46]),("split_paths",.list ((ss.map cC).map jd)),("isabs",.bool true),("s1",jd s1)] (R1:=[.tab]) (sF (g:=.builtin "min") (as:=[.list ((ss.map cC).map jd)]) ∅ ∅ ∅ (by rw [<-hs1];exact N7 hne)) ∅ ∅ ∅ ?_
 refine ch (jd s2) [("paths",.tup (ss.map .str)),("sep",.str [47]),("curdir",.str [46]),("split_paths",.list ((ss.map cC).map jd)),("isabs",.bool true),("s1",jd s1),("s2",jd s2)] (R1:=[.tab]) (sF (g:=.builtin "max") (as:=[.list ((ss.map cC).map jd)]) ∅ ∅ ∅ (by rw [<-hs2];exact N8 hne)) ∅ ∅ ∅ ?_
 refine aS (Jx ss s1 s2 s1 []) (R1:=[.tab]) ∅ ?_
 have hm':cc (ip s1 s2)<=300000:=ah (xe s1 s2) hm
 have fin:∀tl:br,(tl=[] \/ ∃a b,tl=([("i",a),("c",b)]:br))->po (fE (k+1)) 388 ⟨(bv (aL pw 25)).scope.names,1⟩ (match (bv (aL pw 25)).body.getD 3 bN with | .Try b _ _ _ _=>b.drop 7 | _=>[]) (Jx ss s1 s2 (ip s1 s2) tl) [.tab] λo=>o.1 = .ret (.str (aI (ip s1 s2)))/\o.2.2=[.tab]:=by
  intro tl htl
  refine aS (s:=match (bv (aL pw 25)).body.getD 3 bN with | .Try b _ _ _ _=>b.getD 7 bN | _=>bN) (r:=match (bv (aL pw 25)).body.getD 3 bN with | .Try b _ _ _ _=>b.drop 8 | _=>[]) (Jx ss s1 s2 (ip s1 s2) (tl++([("prefix",.str [47])]:br))) (R1:=[.tab]) (by rcases htl with rfl | ⟨a,b,rfl⟩<;>kernel_rfl) ?_
  refine cV (.str (aI (ip s1 s2))) (R1:=[.tab]) ?_ ⟨rfl,rfl⟩
  have h2:=jT [47] (ip s1 s2)
  have h1:([47]:LS).length=1:=rfl
  unfold cc at hm'
  rw [h1,gb]at h2
  refine jx (x:=.str [47]) (y:=.str (cj [47] (ip s1 s2))) (R1:=[.tab]) (by rcases htl with rfl | ⟨a,b,rfl⟩<;>kernel_rfl) (eN (x:=.str [47]) (as:=[jd (ip s1 s2)]) (R1:=[.tab]) (R2:=[.tab]) ∅ (by rcases htl with rfl | ⟨a,b,rfl⟩<;>kernel_rfl) (by rcases htl with rfl | ⟨a,b,rfl⟩<;>kernel_rfl) (m7 (l:=ip s1 s2) rfl (by rw [h1,gb];exact S5 hS hm'))) ∅ (yB (e:=rfl) <| jc (l:=47::cj [47] (ip s1 s2)) (by show(cj [47] (ip s1 s2)).length+1<=_;exact S4 hS hm' h2))
 refine gY (xs:=mz 0 (s1.map .str)) (σ1:=Jx ss s1 s2 s1 []) (R1:=[.tab]) ?_ ∅ ?_
 ·exact B3 ∅ ∅
 refine ij (λxs σ R=>∃(done rest:List LS) (tl:br),s1=done++rest/\xs=mz done.length (rest.map .str)/\(tl=[] \/ ∃a b,tl=([("i",a),("c",b)]:br))/\σ=Jx ss s1 s2 s1 tl/\R=([.tab]:List aN) /\ ∃r2,s2=done++r2) ?_ ?_ _ _ _ ⟨[],s1,[],rfl,rfl,av rfl,rfl,rfl,s2,rfl⟩
 ·rintro x xs σ R ⟨done,rest,tl,h1,h2,h3,rfl,rfl,r2,h4⟩
  cases rest with
  | nil=>cases h2
  | cons c rest=>
   rw [aK,Cg]at h2
   cases h2
   have hcd:∃d r2',r2=d::r2':=by
    cases r2 with
    | nil=>
     refine absurd ?_ hle
     rw [h1,h4,aM]
     exact EN done c rest
    | cons d r2'=>exact⟨d,r2',rfl⟩
   obtain⟨d,r2',rfl⟩:=hcd
   refine jn (Jx ss s1 s2 s1 [("i",.int (done.length:Int)),("c",.str c)]) (by rcases h3 with rfl | ⟨a,b,rfl⟩<;>kernel_rfl) ?_
   have hpick:iD (s2.map PV.str) (done.length:Int)=some (.str d):=by
    rw [mw,h4,bW,bI (by rw [ae];exact aF _),ae,eX];rfl
   have tst:∀b:Bool,(!(c==d))=b->tv (fE (k+1)) 385 ⟨(bv (aL pw 25)).scope.names,1⟩ (match (bv (aL pw 25)).body.getD 3 bN with | .Try b _ _ _ _=>(match b.getD 6 bN with | .For _ _ b _ _=>(match b.getD 0 bN with | .If t _ _ _=>t | _=>bN) | _=>bN) | _=>bN) (Jx ss s1 s2 s1 [("i",.int (done.length:Int)),("c",.str c)]) [.tab]=some (b,[.tab]):=by
    rintro b rfl
    refine ja (x:=.str c) (y:=.str d) (R1:=[.tab]) ∅ ∅ (mi (x:=jd s2) (R1:=[.tab]) ∅ ∅ ?_) ∅
    exact cS (b:=fM (iD (s2.map PV.str) (done.length:Int)) [.tab]) ∅ (gU hpick)
   by_cases e:c=d
   ·subst e
    refine jq (z:=(.next,Jx ss s1 s2 s1 [("i",.int (done.length:Int)),("c",.str c)],[.tab])) (gV (tst false (by rw [beq_self_eq_true];rfl)) rfl) (aZ ?_)
    exact⟨done++[c],rest,_,by rw [h1,aP];rfl,by rw [ai];rfl,am ⟨_,_,rfl⟩,rfl,rfl,r2',by rw [h4,aP];rfl⟩
   ·have hc:ip s1 s2=done:=by rw [h1,h4];exact Ft done e
    refine fb (tst true (by rw [beq_eq_false_iff_ne.mpr e];rfl)) ?_
    refine ch (jd done) (Jx ss s1 s2 done [("i",.int (done.length:Int)),("c",.str c)]) (R1:=[.tab]) (Ce (b:=.list (dH (s1.map PV.str) none (some (done.length:Int)))) ∅ (by rw [mZ,h1,List.take_left])) ∅ ∅ ∅ ?_
    refine jq (z:=(.brk,Jx ss s1 s2 done [("i",.int (done.length:Int)),("c",.str c)],[.tab])) rfl ?_
    have:=fin [("i",.int (done.length:Int)),("c",.str c)] (am ⟨_,_,rfl⟩)
    rw [hc]at this
    exact qO this λz h=>by rcases z with ⟨f,a,b⟩;obtain⟨h1,h2⟩:=h;cases h1;cases h2;exact⟨by rw [hc],rfl⟩
 ·rintro σ R ⟨done,rest,tl,h1,h2,h3,rfl,rfl,r2,h4⟩
  cases rest with
  | cons c rest=>cases h2
  | nil=>
   rw [aM]at h1
   have hc:ip s1 s2=s1:=by rw [h1,h4];exact vr done r2
   have:=fin tl h3
   rw [hc]at this
   exact qO this λz h=>by rcases z with ⟨f,a,b⟩;obtain⟨h1,h2⟩:=h;cases h1;cases h2;exact⟨by rw [hc],rfl⟩
end Mine.W
end
section
namespace Mine.W
section
variable {sp:Spec} {n k:Nat} {cx:Cx} {σ σ1:br} {R R1 R2:List aN} {t e it l:bE} {v x y:PV} {p q:dS}
noncomputable def nq(ss:List LS):List LS:=ss.mergeSort λa b =>!decide (aQ 47 b<aQ 47 a)
theorem Ad{f:Str}{fp:dS}{kws:List cQ}{ss:List LS}(hg:gl cx f=true)(hk:lT (ff f) [e] kws = .sortKey e)(h:ev sp n cx e σ R=some (.list (ss.map .str),R1))(h1:0<ss.length)(h2:ss.length<64)(h3:∀s∈ss,s.length<SZ)(h4:lO R1=true)(h5:cx.names.lookup ("met":Str)=some .cell) :
  ev sp (n+2) cx (.Call (.Name f fp) [e] kws p) σ R=some (.list ((nq ss).map .str),R1):=by
 refine ro hg hk ?_
 delta ll
 refine bo h (c9 (gI ss) (fV ?_ rfl))
 rw [decide_eq_true h1,decide_eq_true h2,bu.mpr λs hs=>decide_eq_true (h3 s hs),h4,h5]
 rfl
theorem wW{f:Str}{fp:dS}{j:Nat}(h:ev sp n cx e σ R=some (.int (j:Int),R1))(hk:ik cx (.Call (.Name f fp) [e] [] q) = .range e)(hj:j<1000):itv sp (n+1) cx (.Call (.Name f fp) [e] [] q) σ R=some ((cM j).map λ(i:Nat)=>PV.int (i:Int),R1):=by
 refine xZ hk (bo (k:=λv R1=>nC v none λi=>grd (decide (-1000000<=i)&&decide (i<=1000000)) (some (iH i,R1))) h (fV ?_ rfl))
 rw [decide_eq_true (show(-1000000:Int)<=(j:Int) by exact S3),decide_eq_true (show(j:Int)<=1000000 by exact S2 hj)]
 rfl
end
theorem wC{α:Type}(l:List α)(a b:Nat):dH l (some (a:Int)) (some (b:Int))=(l.take b).drop a:=by
 show(l.take (r6 (b:Int) _)).drop (r6 (a:Int) _)=_
 unfold r6
 rw [if_neg (by exact M5),if_neg (by exact M5),ft,ft]
noncomputable def iO(t:List LS)(m k:Nat):List LS:=(t.take (k+m)).drop (k+1)++(t.take (k+1)).drop k
noncomputable def v7(ss:List LS):LS:=(kK ((cM (ss.length-(ss.length / 2+1)+1)).map λk=>tR (iO (nq ss) (ss.length / 2+1) k))).getD []
noncomputable def yF(s:LS):Prop:=s.length<=1000 /\ ∃s',s=47::s'
noncomputable def mG(ss:List LS):Prop:=ss≠[]/\ss.length<1000/\(∀s∈ss,yF s) /\ ¬(zJ (ss.map cC)<v6 (ss.map cC))/\cc (v6 (ss.map cC))<=300000
theorem Qj{k:Nat}{vs:List PV}{g:PV->LS}(hn:vs≠[])(hl:vs.length<64)(hv:∀v∈vs,(v = .str (g v) \/ ∃l,v = .list l/\bF l=true/\eh (k+2) 952 [v] (.str (g v)))/\yF (g v))
  (hw:∀j<vs.length-(vs.length / 2+1)+1,mG (iO (nq (vs.map g)) (vs.length / 2+1) j)):eh (k+3) 952 [.list vs] (.str (v7 (vs.map g))):=by
 intro R hR
 have hno:bF vs=true:=by
  have:bF (vs.map λx=>x)=true:=bS λv hx=>by
   rcases(hv v hx).1 with h | ⟨l,rfl,h,_⟩
   ·rw [h];rfl
   ·exact h
  rwa [fZ]at this
 have hpos:0<vs.length:=b6.mpr hn
 have hS:SZ=1000000:=rfl
 refine et (R1:=[.tab]) ?_ (by show(bF vs&&true)=true;rw [hno];rfl) rfl rfl hR
 refine cN (fi:=⟨bv (aL pw 60),[]⟩) (σ:=[("places",.list vs)]) ∅ ∅ ?_
 have e0:(vs.map g).map PV.str=vs.map λv=>PV.str (g v):=by rw [aG];rfl
 refine ch (.list ((vs.map g).map .str)) [("places",.list vs),("met",.list ((vs.map g).map .str))] (R1:=[.tab]) (ge ?_ (by rw [ae,ae];exact S1 hl hS)) ∅ ∅ ∅ ?_
 ·rw [e0]
  refine jy (R1:=[.tab]) _ ∅ (il ∅ ∅) λv hx=>⟨[("place",v)],∅,?_⟩
  rcases(hv v hx).1 with h | ⟨l,rfl,h1,h2⟩
  ·obtain⟨r,hr⟩:∃r,g v=r:=⟨_,rfl⟩
   rw [hr]at h ⊢
   subst h
   exact kd (b:=true) (R1:=[.tab]) ∅ ∅
  ·exact kd (b:=false) (R1:=[.tab]) ∅ (eA (g:=952) (as:=[.list l]) (R1:=[.tab]) ∅ ∅ ∅ ∅ (h2 _ rfl))
 generalize hss:vs.map g=ss at hw
 have hlen:ss.length=vs.length:=by rw [<-hss,ae]
 have hss':∀s∈ss,yF s:=λs hs=>by
  rw [<-hss]at hs
  obtain⟨v,hv',rfl⟩:=aH.mp hs
  exact(hv v hv').2
 rw [<-hlen]at hw hpos hl
 have hsl:(nq ss).length=ss.length:=A3 _
 refine ch (.list ((nq ss).map .str)) [("places",.list vs),("met",.list ((nq ss).map .str))] (R1:=[.tab]) (Ad (ss:=ss) ∅ ∅ ∅ hpos hl (λs hs=>by have:=(hss' s hs).1;exact S0 hS this) rfl ∅) ∅ ∅ ∅ ?_
 generalize ht:nq ss=t at hw hsl
 generalize hm:ss.length / 2+1=m at hw
 refine ch (.int (m:Int)) [("places",.list vs),("met",.list (t.map .str)),("many",.int (m:Int))] (R1:=[.tab]) (Ce (b:=.int (kH (((t.map PV.str).length:Nat):Int) (2:Nat)+1)) ∅ (by rw [ae,kc,hsl,<-hm];rfl)) ∅ ∅ ∅ ?_
 have hmet:v7 ss=(kK ((cM (ss.length-m+1)).map λk=>tR (iO t m k))).getD []:=by unfold v7;rw [hm,ht]
 refine cV (.str (v7 ss)) (R1:=[.tab]) (pg (l:=((cM (ss.length-m+1)).map λk=>tR (iO t m k)).map .str) ∅ ∅ ∅ (ge ?_ ?_) ?_) ⟨rfl,rfl⟩
 ·have e1:((cM (ss.length-m+1)).map λk=>tR (iO t m k)).map PV.str=((cM (ss.length-m+1)).map λ(i:Nat)=>PV.int (i:Int)).map λx=>match x with | .int i=>.str (tR (iO t m i.toNat)) | _=>.none:=by
   rw [aG,aG]
   exact bf λj ζ=>by show _=PV.str (tR (iO t m (j:Int).toNat));rw [ft];rfl
  rw [e1]
  refine jy (R1:=[.tab]) _ ∅ (wW ?_ ∅ (by exact SY hl)) λx hx=>?_
  ·refine Ce (b:=.int ((((t.map PV.str).length:Nat):Int)-(m:Int)+1)) ∅ ?_
   rw [ae,hsl]
   congr 1
   exact SX hpos hm
  ·obtain⟨j,hj,rfl⟩:=aH.mp hx
   rw [ix]at hj
   show ∃σ',_/\ev _ _ _ _ σ' _=some (PV.str (tR (iO t m (j:Int).toNat)),_)
   rw [ft]
   obtain⟨c1,c2,c3,c4,c5⟩:=hw j hj
   refine⟨[("many",.int (m:Int)),("met",.list (t.map .str)),("k",.int (j:Int))],∅,eA (g:=184) (as:=[.list ((iO t m j).map .str)]) (R1:=[.tab]) ∅ ∅ ∅ (fF (jx (x:=.list (((t.take (j+m)).drop (j+1)).map .str)) (y:=.list (((t.take (j+1)).drop j).map .str)) (R1:=[.tab]) ?_ ?_ ∅ ?_)) (vg c1 c2 c3 c4 c5 _ rfl)⟩
   ·refine Ce (b:=.list (dH (t.map PV.str) (some ((j:Int)+1)) (some ((j:Int)+(m:Int))))) ∅ ?_
    rw [show(j:Int)+1=((j+1:Nat):Int) by exact Pe,show(j:Int)+(m:Int)=((j+m:Nat):Int) by exact SW,wC,MF,qA]
   ·refine Ce (b:=.list (dH (t.map PV.str) (some (j:Int)) (some ((j:Int)+1)))) ∅ ?_
    rw [show(j:Int)+1=((j+1:Nat):Int) by exact Pe,wC,MF,qA]
   ·refine(uG (l:=((t.take (j+m)).drop (j+1)).map PV.str++((t.take (j+1)).drop j).map PV.str) ?_).trans ?_
    ·rw [ai,ae,ae,cR,cB,cR,cB];exact SV hS hl hm
    ·rw [<-bW];rfl
 ·rw [ae,ae,ia];exact SU hS hl
 ·rw [wM len_str,hmet,qY]
  ·rfl
  ·intro q
   have:=congrArg bY q
   rw [ae,ia,ci]at this
   exact Pd this
theorem HY{k:Nat}{vs:List PV}{g:PV->LS}{far:LS}(hl:vs.length<1000)(hv:∀v∈vs,(∃s,v = .str s/\g v=tR [s,far]/\mG [s,far])\/(∃l ws,v = .list l/\bF l=true/\eh (k+2) 959 [v,.str far] (.list (ws.map .str))/\ws≠[]/\ws.length<64/\g v=Aw ws ((ws.length-1) / 2))) :
  eh (k+3) 959 [.list vs,.str far] (.list ((vs.map g).map .str)):=by
 intro R hR
 have hno:bF vs=true:=by
  have:bF (vs.map λx=>x)=true:=bS λv hx=>by
   rcases hv v hx with ⟨s,rfl,_⟩ | ⟨l,ws,rfl,h,_⟩
   ·rfl
   ·exact h
  rwa [fZ]at this
 refine et (R1:=[.tab,.dead]) ?_ (by show(bF vs&&true)=true;rw [hno];rfl) (bH _) rfl hR
 refine cN (fi:=⟨bv (aL pw 61),[]⟩) (σ:=[("places",.list vs),("far",.str far)]) ∅ ∅ ?_
 refine aS [("places",.list vs),("far",.str far),("seen",.obj 1)] (R1:=[.tab,.lst []]) ∅ ?_
 refine gY (xs:=vs) (σ1:=[("places",.list vs),("far",.str far),("seen",.obj 1)]) (R1:=[.tab,.lst []]) ∅ ∅ ?_
 refine uK (λo=>("places",.list vs)::("far",.str far)::("seen",.obj 1)::(o.map λv=>(("place":Str),v)).toList) (λv=>.str (g v)) [] vs (by show 0+_<_;exact SS hl) (λo v acc hx ha=>?_) (λo=>?_)
 ·refine qI [("places",.list vs),("far",.str far),("seen",.obj 1),("place",v)] (by cases o<;>kernel_rfl) (dp (iw (eN (x:=.obj 1) (as:=[.str (g v)]) (R1:=[.tab,.lst acc]) (R2:=[.tab,.lst acc]) ∅ ∅ (fF ?_) (eb (l:=acc) rfl rfl (bR ha (by decide))))))
  rcases hv v hx with ⟨s,rfl,h2,c1,c2,c3,c4,c5⟩ | ⟨l,ws,rfl,h1,h2,h3,h4,h5⟩
  ·rw [h2]
   exact kd (b:=true) (R1:=[.tab,.lst acc]) ∅ (eA (g:=184) (as:=[.list ([s,far].map .str)]) (R1:=[.tab,.lst acc]) ∅ ∅ ∅ ∅ (vg c1 c2 c3 c4 c5 _ rfl))
  ·rw [h5]
   exact kd (b:=false) (R1:=[.tab,.lst acc]) ∅ (eA (g:=64) (as:=[.list (ws.map .str)]) (R1:=[.tab,.lst acc]) ∅ ∅ ∅ (fF (eA (g:=959) (as:=[.list l,.str far]) (R1:=[.tab,.lst acc]) ∅ ∅ ∅ ∅ (h2 _ rfl))) (L8 h3 h4 _ rfl))
 ·have e:([]++vs.map λv=>PV.str (g v))=(vs.map g).map .str:=by rw [ew,aG];rfl
  rw [e]
  exact cV (.list ((vs.map g).map .str)) (R1:=[.tab,.dead]) (by cases o<;>kernel_rfl) ⟨rfl,rfl⟩
end Mine.W
end
section
namespace Mine.W
inductive cP where
 | way (w:LS)
 | sub (w:LS) (ws:List LS)
noncomputable def jm:cP->PV
 | .way w=>.str w
 | .sub w ws=>.list [.str w,.list (ws.map .str)]
noncomputable def fH:List cP->Nat
 | []=>0
 | .way _::r=>fH r
 | .sub _ _::r=>fH r+1
noncomputable def gW:Nat->List cP->List PV
 | _,[]=>[]
 | c,.way w::r=>.str w::gW c r
 | c,.sub _ _::r=>.obj (4+2*c)::gW (c+1) r
noncomputable def g0:Nat->List cP->List aN
 | _,[]=>[]
 | c,.way _::r=>g0 c r
 | c,.sub w ws::r=>.lst (ws.map .str) :: .lst [.str w,.obj (3+2*c)]::g0 (c+1) r
noncomputable def B6:Nat->List cP->PV->PV
 | _,[],v=>v
 | c,.way _::r,v=>B6 c r v
 | c,.sub w ws::r,v=>B6 (c+1) r (sub (4+2*c) [.str w,.list (ws.map .str)] (sub (3+2*c) (ws.map .str) v))
mutual
theorem k9{k:Nat}{l:List PV}:∀{v:PV},noObj v=true->sub k l v=v
 | .none,_=>rfl
 | .bool _,_=>rfl
 | .int _,_=>rfl
 | .str _,_=>rfl
 | .val _,_=>rfl
 | .obj _,h=>nomatch h
 | .list xs,h=>congrArg PV.list (oR (l:=l) h)
 | .tup xs,h=>congrArg PV.tup (oR (l:=l) h)
theorem oR{k:Nat}{l:List PV}:∀{xs:List PV},bF xs=true->la k l xs=xs
 | [],_=>rfl
 | x::r,h=>by
  have h':=aO.mp (show(noObj x&&bF r)=true from h)
  show sub k l x::la k l r=_
  rw [k9 h'.1,oR h'.2]
end
theorem zo{k:Nat}{l:List PV}:∀(a b:List PV),la k l (a++b)=la k l a++la k l b:=by
 intro a
 induction a with
 | nil=>
  intro b
  exact rfl
 | cons x a ih=>
  intro b
  show sub k l x::la k l (a++b)=_;rw [ih b];rfl
theorem qi{k j:Nat}{l:List PV}(h:j≠k):sub k l (.obj j) = .obj j:=by show(if j=k then _ else _)=_;rw [if_neg h]
theorem qH{k:Nat}{l:List PV}:∀(V:List cP) (c:Nat),k<4+2*c->la k l (gW c V)=gW c V
 | [],c,_=>rfl
 | .way w::r,c,h=>by show .str w::la k l (gW c r)=_;rw [qH r c h];rfl
 | .sub w ws::r,c,h=>by
  show sub k l (.obj (4+2*c))::la k l (gW (c+1) r)=_
  rw [qi (by exact SR h),qH r (c+1) (by exact SQ h)];rfl
theorem vf(s:LS):∀(V:List cP) (c:Nat) (pre:List PV),bF pre=true->B6 c V (.list [.str s,.list (pre++gW c V)]) = .list [.str s,.list (pre++V.map jm)]
 | [],c,pre,h=>rfl
 | .way w::r,c,pre,h=>by
  have e:pre++gW c (.way w::r)=(pre++[.str w])++gW c r:=by rw [aP];rfl
  rw [e]
  show B6 c r _=_
  rw [vf s r c (pre++[.str w]) (noObjs_app h rfl),aP]at ⊢;rfl
 | .sub w ws::r,c,pre,h=>by
  show B6 (c+1) r (.list [.str s,.list (la (4+2*c) _ (la (3+2*c) _ (pre ++ .obj (4+2*c)::gW (c+1) r)))])=_
  have e1:la (3+2*c) (ws.map PV.str) (pre ++ .obj (4+2*c)::gW (c+1) r)=pre ++ .obj (4+2*c)::gW (c+1) r:=by
   rw [zo,oR h]
   show pre++(sub _ _ _::la _ _ _)=_
   rw [qi (by exact SP),qH r (c+1) (by exact SO)]
  have e2:la (4+2*c) [.str w,.list (ws.map PV.str)] (pre ++ .obj (4+2*c)::gW (c+1) r)=(pre++[jm (.sub w ws)])++gW (c+1) r:=by
   rw [zo,oR h,aP]
   show pre++(sub _ _ (.obj (4+2*c))::la _ _ _)=_
   rw [qH r (c+1) (by exact SN)]
   show pre++((if 4+2*c=4+2*c then _ else _)::_)=_
   rw [if_pos rfl];rfl
  rw [e1,e2,vf s r (c+1) _ (noObjs_app h (by show(true&&(bF (ws.map .str)&&true))=true;rw [bH];rfl)),aP];rfl
where
 noObjs_app:∀{a:List PV} {x:PV},bF a=true->noObj x=true->bF (a++[x])=true
  | [],x,_,h=>by show(noObj x&&true)=true;rw [h];rfl
  | y::a,x,h1,h2=>by
   have h':=aO.mp (show(noObj y&&bF a)=true from h1)
   show(noObj y&&bF (a++[x]))=true
   rw [h'.1,noObjs_app h'.2 h2];rfl
theorem nk{k n:Nat}(h:k<n):below k n=k::below (k+1) n:=by
 unfold below
 rw [show n-k=(n-(k+1))+1 by exact SM h,List.range_succ_eq_map,aK,aG,eo]
 congr 1
 exact bf λi ζ=>by show i+1+k=i+(k+1);exact Ko
theorem FB{k:Nat}:below k k=[]:=by unfold below;rw [eX];rfl
noncomputable def yz(D:List aN):Prop:=∀d∈D,d = .tab\/d = .dead
theorem IM{D:List aN}(h:yz D)(k:Nat)(l:List PV):D.map (vX k l)=D:=by
 rw [bf (g:=id) λd hd=>by rcases h d hd with rfl | rfl<;>rfl,ms]
theorem mu{k:Nat}{l:List PV}:∀(V:List cP) (c:Nat),k<3+2*c->(g0 c V).map (vX k l)=g0 c V
 | [],c,_=>rfl
 | .way w::r,c,h=>mu r c h
 | .sub w ws::r,c,h=>by
  show aN.lst (la k l (ws.map .str)) :: .lst [.str w,sub k l (.obj (3+2*c))]::(g0 (c+1) r).map (vX k l)=_
  rw [oR (bH ws),qi (by exact SL h),mu r (c+1) (by exact SK h)];rfl
theorem C4{D r:List aN}{x y:aN}:(D++x::r).set D.length y=D++y::r:=by
 rw [List.set_append_right _ _ (aF _),eX];rfl
theorem rd{k:Nat}{ks:List Nat}{σ:br}{D r r':List aN}{l:List PV}(hk:D.length=k)(hD:yz D)(hr:r.map (vX k l)=r'):u8 (k::ks) σ (D ++ .lst l::r)=u8 ks (l9 k l σ) (D ++ .dead::r'):=by
 subst hk
 have e:(D ++ .lst l::r)[D.length]? = some (.lst l):=by rw [bI (aF _),eX];rfl
 have e':rf D.length σ (D ++ .lst l::r)=(l9 D.length l σ,D ++ .dead::r'):=by
  unfold rf
  simp only [e]
  show(l9 D.length l σ,((D ++ .lst l::r).map (vX D.length l)).set D.length .dead)=_
  rw [bW,aK,IM hD,hr,C4]
 exact congrArg (λy:br × List aN=>u8 ks y.1 y.2) e'
theorem D6{k j:Nat}{l m:List PV}(σ:br):l9 k l (l9 j m σ)=σ.map λx=>(x.1,sub k l (sub j m x.2)):=by unfold l9;rw [aG];rfl
theorem r8{D:List aN}(h:yz D):yz (D++[.dead]):=λd hd=>by
 rcases dk.mp hd with hd | hd
 ·exact h d hd
 ·exact am (aC.mp hd)
theorem ye:∀(V:List cP) (c:Nat) (σ:br) (D:List aN),D.length=3+2*c->yz D->∃D',yz D'/\(D'[0]? = D[0]?)/\u8 (below (3+2*c) (3+2*c+2*fH V)) σ (D++g0 c V)=(σ.map λx=>(x.1,B6 c V x.2),D')
 | [],c,σ,D,hl,hD=>⟨D,hD,rfl,by
   show u8 (below (3+2*c) (3+2*c)) σ (D++[])=_
   rw [FB,aM]
   show(σ,D)=(σ.map (λx=>(x.1,x.2)),D)
   rw [show(λx:Str × PV=>(x.1,x.2))=id from rfl,ms]⟩
 | .way w::r,c,σ,D,hl,hD=>ye r c σ D hl hD
 | .sub w ws::r,c,σ,D,hl,hD=>by
  obtain⟨D',h1,h2,h3⟩:=ye r (c+1) (l9 (4+2*c) [.str w,.list (ws.map .str)] (l9 (3+2*c) (ws.map .str) σ)) (D++[.dead]++[.dead]) (by rw [ai,ai,hl];show _+1+1=_;exact Pc) (r8 (r8 hD))
  refine⟨D',h1,h2.trans ?_,?_⟩
  ·rw [aP,eG (by exact SJ hl)]
  ·have en:3+2*c+2*fH (.sub w ws::r)=3+2*(c+1)+2*fH r:=by show _+2*(fH r+1)=_;exact SI
   rw [en,nk (by exact SH),nk (by exact SG),show 3+2*c+1+1=3+2*(c+1) by exact Pc]
   show u8 _ σ (D ++ .lst (ws.map .str) :: .lst [.str w,.obj (3+2*c)]::g0 (c+1) r)=_
   rw [rd (r':=.lst [.str w,.list (ws.map .str)]::g0 (c+1) r) hl hD (by
    show aN.lst [.str w,if 3+2*c=3+2*c then _ else _]::(g0 (c+1) r).map _=_
    rw [if_pos rfl,mu r (c+1) (by exact SF)])]
   rw [show D ++ .dead :: .lst [.str w,.list (ws.map .str)]::g0 (c+1) r=(D++[.dead]) ++ .lst [.str w,.list (ws.map .str)]::g0 (c+1) r by rw [aP];rfl]
   rw [rd (r':=g0 (c+1) r) (by rw [ai,hl];show _+1=_;exact SE) (r8 hD) (mu r (c+1) (by exact SD))]
   rw [show 3+2*c+1=4+2*c by exact Pb,show(D++[.dead]) ++ .dead::g0 (c+1) r=(D++[.dead]++[.dead])++g0 (c+1) r by simp only [aP,eQ,ew],h3,D6,aG]
   rfl
noncomputable abbrev VS:=List cP × Option (LS × List LS)
noncomputable def ez(s:VS):List cP:=match s.2 with
 | none=>s.1
 | some (w,ws)=>s.1++[.sub w ws]
noncomputable def fN(x:Int):Nat:=x.natAbs / 10 % 10
noncomputable def dq(s:VS)(x:Int):VS:=
 if 7<fN x then(ez s++[.way (gz x)],none)
 else if fN x=6\/fN x=7 then(ez s,some (gz x,[]))
 else match s.2 with
  | none=>(s.1++[.way (gz x)],none)
  | some (w,ws)=>(s.1,some (w,ws++[gz x]))
noncomputable def lQ:List Int:=[63,0, -81]
noncomputable def e9(ns:List Int):List cP:=ez ((lQ++ns.take 5).foldl dq ([],none))
theorem mB:∀(a b:List cP) (c:Nat),gW c (a++b)=gW c a++gW (c+fH a) b
 | [],b,c=>rfl
 | .way w::a,b,c=>congrArg (PV.str w :: ·) (mB a b c)
 | .sub w ws::a,b,c=>by
  show PV.obj (4+2*c)::gW (c+1) (a++b)=_
  rw [mB a b (c+1),show c+1+fH a=c+fH (.sub w ws::a) by show _=c+(fH a+1);exact Ko];rfl
theorem mA:∀(a b:List cP) (c:Nat),g0 c (a++b)=g0 c a++g0 (c+fH a) b
 | [],b,c=>rfl
 | .way w::a,b,c=>mA a b c
 | .sub w ws::a,b,c=>by
  show aN.lst (ws.map .str) :: .lst [.str w,.obj (3+2*c)]::g0 (c+1) (a++b)=_
  rw [mA a b (c+1),show c+1+fH a=c+fH (.sub w ws::a) by show _=c+(fH a+1);exact Ko];rfl
theorem oD:∀(a:List cP) (c:Nat),(g0 c a).length=2*fH a
 | [],c=>rfl
 | .way w::a,c=>oD a c
 | .sub w ws::a,c=>by show(g0 (c+1) a).length+1+1=2*(fH a+1);rw [oD a];exact SA
theorem oE:∀(a:List cP) (c:Nat),(gW c a).length=a.length
 | [],c=>rfl
 | .way w::a,c=>congrArg (· + 1) (oE a c)
 | .sub w ws::a,c=>congrArg (· + 1) (oE a (c+1))
theorem qn:∀(a:List cP) (c:Nat),(g0 c a).all xQ=true
 | [],c=>rfl
 | .way w::a,c=>qn a c
 | .sub w ws::a,c=>qn a (c+1)
noncomputable abbrev eI:LS:=[46,47,97]
noncomputable abbrev RV(V:List cP):List aN:=.tab :: .lst (gW 0 V) :: .lst [.str eI,.obj 1]::g0 0 V
theorem xT(V:List cP):xU (RV V)=true:=qn V 0
noncomputable def Oa(s:VS):PV:=match s.2 with
 | none=>.obj 2
 | some _=>.obj (4+2*fH s.1)
end Mine.W
end
section
namespace Mine.W
theorem Kb{sp:Spec}{n:Nat}{R:List aN}{σ:br}{v:PV}{P:List aN->Prop}{f:aB}{fi:Jf}{pos:List PV}{kw:List (Str × PV)}(h1:Fe pw f=some fi)(h2:vA fi.fd.params fi.dflt pos kw=some σ)(h3:po sp n ⟨fi.fd.scope.names,R.length⟩ fi.fd.body σ R λo=>o.1 = .ret v/\P o.2.2):∃R1,nB sp pw n f pos kw R=some (v,R1)/\P R1:=by
 obtain⟨⟨g,σ',R'⟩,h4,h5,h6⟩:=h3
 cases h5
 exact⟨R',c9 h1 (c9 h2 (bo (k:=λf y=>Mc f y.2) h4 rfl)),h6⟩
theorem K2{sp:Spec}{n:Nat}{cx:Cx}{σ σ1:br}{R:List aN}{e:bE}{f:Str}{p1 p2 p3 p4:dS}{x:PV}(h:ev sp (n+2) cx e σ R=some (x,R))(hd:rV e=none)(hs:qL cx σ f (.obj (R.length+1))=some σ1) :
  ex sp (n+7) cx (.Assign [.Name f p1] (.List [e,.List [] p2] p3) p4) σ R=some (.next,σ1,R++([.lst []]:List aN)++([.lst [x,.obj R.length]]:List aN)):=by
 have h1:evm sp (n+3) cx e σ R=some (x,R):=MZ hd h
 have h2:evms sp (n+4) cx [e,.List [] p2] σ R=some ([x,.obj R.length],R++([.lst []]:List aN)):=bo (k:=λv R1=>bnd ((mn sp (n+3)).evms cx [.List [] p2] σ R1) λvs R2=>some (v::vs,R2)) h1 rfl
 have h3:evm sp (n+5) cx (.List [e,.List [] p2] p3) σ R=some (.obj (R++([.lst []]:List aN)).length,R++([.lst []]:List aN)++([.lst [x,.obj R.length]]:List aN)):=by
  exact c9 (d:=ev sp (n+4) cx (.List [e,.List [] p2] p3) σ R) (k:=λes=>bnd ((mn sp (n+4)).evms cx es σ R) λvs R1=>grd (decide (vs.length<=SZ)) (some (PV.obj R1.length,R1++[aN.lst vs]))) (a:=[e,.List [] p2]) rfl (bo h2 rfl)
 rw [ai]at h3
 refine Cw (ak0:=.disp f) rfl ?_
 delta FC
 exact bo h3 (c9 hs rfl)
theorem wE(V:List cP)(v:cP)(h:g0 (fH V) [v]=[]):(RV V).set 1 (.lst (gW 0 V++gW (fH V) [v]))=RV (V++[v]):=by
 show aN.tab :: .lst _ :: .lst _::g0 0 V=_
 unfold RV
 rw [mB,mA,eo,h,aM]
theorem N9(V:List cP)(w:LS)(ws:List LS):(RV (V++[.sub w ws]))[3+2*fH V]? = some (.lst (ws.map .str))/\(RV (V++[.sub w ws]))[4+2*fH V]? = some (.lst [.str w,.obj (3+2*fH V)]):=by
 have e:RV (V++[.sub w ws])=(.tab :: .lst (gW 0 (V++[.sub w ws])) :: .lst [.str eI,.obj 1]::g0 0 V)++[.lst (ws.map .str),.lst [.str w,.obj (3+2*fH V)]]:=by
  unfold RV
  rw [mA,eo];rfl
 have hl:(.tab :: .lst (gW 0 (V++[.sub w ws])) :: .lst [.str eI,.obj 1]::g0 0 V:List aN).length=3+2*fH V:=by
  simp only [ao,oD];exact M3
 rw [e]
 constructor
 ·rw [bI (by exact Sz hl),hl,eX];rfl
 ·rw [bI (by exact Sy hl),hl,show 4+2*fH V-(3+2*fH V)=1 by exact Sx];rfl
theorem J1(V:List cP)(w:LS)(ws:List LS)(x:LS):(RV (V++[.sub w ws])).set (3+2*fH V) (.lst (ws.map .str++[.str x]))=RV (V++[.sub w (ws++[x])]):=by
 have e:∀ws,RV (V++[.sub w ws])=(.tab :: .lst (gW 0 (V++[.sub w []])) :: .lst [.str eI,.obj 1]::g0 0 V) ++ .lst (ws.map .str)::[.lst [.str w,.obj (3+2*fH V)]]:=by
  intro ws
  unfold RV
  rw [mA,mB,mB,eo];rfl
 have hl:(.tab :: .lst (gW 0 (V++[.sub w []])) :: .lst [.str eI,.obj 1]::g0 0 V:List aN).length=3+2*fH V:=by
  simp only [ao,oD];exact M3
 rw [e ws,e (ws++[x]),<-hl,C4,bW];rfl
theorem IZ(V:List cP):(RV V).length=3+2*fH V:=by
 show(g0 0 V).length+1+1+1=_
 rw [oD];exact M3
noncomputable abbrev RX(V:List cP)(w:LS):List aN:=RV V++([.lst []]:List aN)++([.lst [.str w,.obj (3+2*fH V)]]:List aN)
noncomputable def vp(s:VS):Nat:=match s.2 with
 | none=>0
 | some (_,ws)=>ws.length
noncomputable abbrev Bq(S v:PV)(tl:br):br:=("script",S)::("first",.obj 2)::("vote",v)::tl
theorem NR{k:Nat}{ns:List Int}(hn:ns.length<=63):eh (k+2) 906 [.list (ns.map .int)] (.list [.str eI,.list ((e9 ns).map jm)]):=by
 intro R hR
 have hS:SZ=1000000:=rfl
 have hres:noObj (.list [.str eI,.list ((e9 ns).map jm)])=true:=by
  show(true&&(bF ((e9 ns).map jm)&&true))=true
  rw [bS λv ζ=>?_]at ⊢
  ·rfl
  ·cases v with
   | way w=>rfl
   | sub w ws=>show(true&&(bF (ws.map .str)&&true))=true;rw [bH];rfl
 suffices h:∃R1,nB (fE (k+1)) pw 400 906 [.list (ns.map .int)] [] [.tab]=some (.list [.str eI,.list ((e9 ns).map jm)],R1)/\lO R1=true by
  obtain⟨R1,h1,h2⟩:=h
  exact et h1 (by show(bF (ns.map .int)&&true)=true;rw [bS (f:=PV.int) λζ ζ=>rfl];rfl) hres h2 hR
 refine Kb (P:=λR=>lO R=true) (fi:=⟨bv (aL pw 52),[]⟩) (σ:=[("script",.list (ns.map .int))]) ∅ ∅ ?_
 refine aS [("script",.list (ns.map .int)),("first",.obj 2)] (R1:=RV []) ∅ ?_
 refine aS (Bq (.list (ns.map .int)) (.obj 2) []) (R1:=RV []) ∅ ?_
 refine gY (xs:=(lQ++ns.take 5).map .int) (σ1:=Bq (.list (ns.map .int)) (.obj 2) []) (R1:=RV []) (gG (jx (x:=.list (lQ.map .int)) (y:=.list ((ns.take 5).map .int)) (R1:=RV []) ∅ (Ce (b:=.list ((ns.map PV.int).take 5)) ∅ (by rw [qA])) ∅ ?_) ∅ ∅) ∅ ?_
 ·refine(uG (l:=lQ.map PV.int++(ns.take 5).map PV.int) ?_).trans (by rw [<-bW])
  rw [ai,ae,ae,cB]
  have:lQ.length=3:=rfl
  exact Sw hS this
 refine ij (λxs σ R=>∃(rest:List Int) (s:VS) (tl:br),xs=rest.map .int/\rest.foldl dq s=(lQ++ns.take 5).foldl dq ([],none)/\(tl=[] \/ ∃a b,tl=([("x",a),("kind",b)]:br))/\σ=Bq (.list (ns.map .int)) (Oa s) tl/\R=RV (ez s)/\(ez s).length+vp s+rest.length<=16) ?_ ?_ _ _ _ ⟨lQ++ns.take 5,([],none),[],rfl,rfl,av rfl,rfl,rfl,?_⟩
 ·rintro x xs σ R ⟨rest,s,tl,h1,h2,h3,rfl,rfl,h6⟩
  cases rest with
  | nil=>cases h1
  | cons y rest=>
   simp only [aK,dG]at h1
   obtain⟨rfl,rfl⟩:=h1
   rw [ao]at h6
   have h2':rest.foldl dq (dq s y)=(lQ++ns.take 5).foldl dq ([],none):=h2
   refine jn (Bq (.list (ns.map .int)) (Oa s) (("x",.int y)::(match tl with | []=>[] | _::r=>r))) (by rcases h3 with rfl | ⟨a,b,rfl⟩<;>kernel_rfl) ?_
   refine ch (.int (fN y:Int)) (Bq (.list (ns.map .int)) (Oa s) [("x",.int y),("kind",.int (fN y:Int))]) (R1:=RV (ez s)) (Ce (b:=.int (qb (kH (y.natAbs:Int) (10:Nat)) (10:Nat))) (by rcases h3 with rfl | ⟨a,b,rfl⟩<;>kernel_rfl) (by rw [kc,oC];rfl)) ∅ ∅ (by rcases h3 with rfl | ⟨a,b,rfl⟩<;>kernel_rfl) ?_
   have fin:∀(Φ:St->Prop) (s':VS),dq s y=s'->(ez s').length+vp s'<=(ez s).length+vp s+1->CJ (λxs σ R=>∃(rest:List Int) (s:VS) (tl:br),xs=rest.map .int/\rest.foldl dq s=(lQ++ns.take 5).foldl dq ([],none)/\(tl=[] \/ ∃a b,tl=([("x",a),("kind",b)]:br))/\σ=Bq (.list (ns.map .int)) (Oa s) tl/\R=RV (ez s)/\(ez s).length+vp s+rest.length<=16) (rest.map .int) Φ (.next,Bq (.list (ns.map .int)) (Oa s') [("x",.int y),("kind",.int (fN y:Int))],RV (ez s')):=by
    rintro Φ s' rfl hb
    exact⟨rest,dq s y,_,rfl,h2',am ⟨_,_,rfl⟩,rfl,rfl,by exact Sv h6 hb⟩
   by_cases k7:7<fN y
   ·refine jp (Bq (.list (ns.map .int)) (.obj 2) [("x",.int y),("kind",.int (fN y:Int))]) (R1:=RV (ez s)) (fb (R1:=RV (ez s)) (nz (b:=decide ((fN y:Int)>7)) ∅ (by rw [decide_eq_true_eq];exact Su k7)) (aS _ ∅ (aZ (aZ rfl)))) ?_
    have hv:dq s y=(ez s++[.way (gz y)],none):=if_pos k7
    refine jp (Bq (.list (ns.map .int)) (.obj 2) [("x",.int y),("kind",.int (fN y:Int))]) (R1:=RV (ez s++[.way (gz y)])) ?_ (aZ (fin _ _ hv (by show(ez s++[cP.way (gz y)]).length+0<=_;rw [ai];show _+1+0<=_;exact Pa)))
    refine cW (R1:=RV (ez s)) (qg (R1:=RV (ez s)) (nz (b:=(fN y:Int)==6) ∅ (beq_eq_false_iff_ne.mpr (by exact Ss k7))) (mX (R1:=RV (ez s)) (nz (b:=(fN y:Int)==7) ∅ (beq_eq_false_iff_ne.mpr (by exact Sr k7))) ∅)) ?_
    refine aS _ (R1:=RV (ez s++[.way (gz y)])) (iw ?_) (aZ (aZ rfl))
    rw [<-wE (ez s) (.way (gz y)) rfl]
    exact eN (x:=.obj 1) (as:=[.str (gz y)]) (R1:=RV (ez s)) (R2:=RV (ez s)) ∅ ∅ (fF (eA (g:=899) (as:=[.int y]) (R1:=RV (ez s)) ∅ ∅ ∅ ∅ (Dx (xT _)))) (eb (l:=gW 0 (ez s)) rfl rfl (by rw [oE];exact O9 hS h6))
   ·refine jp (Bq (.list (ns.map .int)) (Oa s) [("x",.int y),("kind",.int (fN y:Int))]) (R1:=RV (ez s)) (cW (R1:=RV (ez s)) (nz (b:=decide ((fN y:Int)>7)) ∅ (by rw [decide_eq_false_iff_not];exact Sq k7)) (aZ (aZ rfl))) ?_
    by_cases k6:fN y=6\/fN y=7
    ·have hv:dq s y=(ez s,some (gz y,[])):=by unfold dq;rw [if_neg k7,if_pos k6]
     refine jp (Bq (.list (ns.map .int)) (.obj (4+2*fH (ez s))) [("x",.int y),("kind",.int (fN y:Int))]) (R1:=RV (ez s++[.sub (gz y) []])) ?_ (aZ (fin _ _ hv (by show(ez s++[cP.sub (gz y) []]).length+0<=_;rw [ai];show _+1+0<=_;exact Pa)))
     refine fb (R1:=RV (ez s)) ?_ ?_
     ·rcases k6 with k6 | k6
      ·exact Bd (nz (b:=(fN y:Int)==6) ∅ (by rw [k6];rfl))
      ·exact qg (R1:=RV (ez s)) (nz (b:=(fN y:Int)==6) ∅ (by rw [k6];rfl)) (JP (nz (b:=(fN y:Int)==7) ∅ (by rw [k6];rfl)))
     have hl:=IZ (ez s)
     refine aS (Bq (.list (ns.map .int)) (.obj (4+2*fH (ez s))) [("x",.int y),("kind",.int (fN y:Int))]) (K2 (x:=.str (gz y)) (eA (g:=899) (as:=[.int y]) (R1:=RV (ez s)) ∅ ∅ ∅ ∅ (Dx (xT _))) ∅ (by rw [hl,show 3+2*fH (ez s)+1=4+2*fH (ez s) by exact Pb];kernel_rfl)) ?_
     refine aS _ (R1:=RV (ez s++[.sub (gz y) []])) (iw ?_) (aZ (aZ rfl))
     rw [hl]
     have e2:RV (ez s++[.sub (gz y) []])=(RX (ez s) (gz y)).set 1 (.lst (gW 0 (ez s)++[.obj (4+2*fH (ez s))])):=by
      show aN.tab :: .lst _ :: .lst _::g0 0 _=aN.tab :: .lst _ :: .lst _::(g0 0 (ez s)++([.lst []]:List aN)++([.lst [.str (gz y),.obj (3+2*fH (ez s))]]:List aN))
      rw [mB,mA,eo,aP];rfl
     rw [e2]
     exact eN (x:=.obj 1) (as:=[.obj (4+2*fH (ez s))]) (R1:=RX (ez s) (gz y)) (R2:=RX (ez s) (gz y)) ∅ ∅ ∅ (eb (l:=gW 0 (ez s)) rfl rfl (by rw [oE];exact O9 hS h6))
    ·have n6:¬fN y=6:=λq=>k6 (av q)
     have n7:¬fN y=7:=λq=>k6 (am q)
     obtain⟨V,cur⟩:=s
     cases cur with
     | none=>
      have hv:dq (V,none) y=(V++[.way (gz y)],none):=by unfold dq;rw [if_neg k7,if_neg k6]
      refine jp (Bq (.list (ns.map .int)) (.obj 2) [("x",.int y),("kind",.int (fN y:Int))]) (R1:=RV (V++[.way (gz y)])) ?_ (aZ (fin _ _ hv (by show(V++[cP.way (gz y)]).length+0<=V.length+0+1;rw [ai];exact aF _)))
      refine cW (R1:=RV V) (qg (R1:=RV V) (nz (b:=(fN y:Int)==6) ∅ (beq_eq_false_iff_ne.mpr (by exact O8 n6))) (mX (R1:=RV V) (nz (b:=(fN y:Int)==7) ∅ (beq_eq_false_iff_ne.mpr (by exact O0 n7))) ∅)) ?_
      refine aS _ (R1:=RV (V++[.way (gz y)])) (iw ?_) (aZ (aZ rfl))
      rw [<-wE V (.way (gz y)) rfl]
      exact eN (x:=.obj 1) (as:=[.str (gz y)]) (R1:=RV V) (R2:=RV V) ∅ ∅ (fF (eA (g:=899) (as:=[.int y]) (R1:=RV V) ∅ ∅ ∅ ∅ (Dx (xT _)))) (eb (l:=gW 0 V) rfl rfl (by rw [oE];have:(ez (V,none)).length=V.length:=rfl;exact Sp hS h6 this))
     | some z=>
      obtain⟨w,ws⟩:=z
      have hv:dq (V,some (w,ws)) y=(V,some (w,ws++[gz y])):=by unfold dq;rw [if_neg k7,if_neg k6]
      obtain⟨a1,a2⟩:=N9 V w ws
      refine jp (Bq (.list (ns.map .int)) (.obj (4+2*fH V)) [("x",.int y),("kind",.int (fN y:Int))]) (R1:=RV (V++[.sub w (ws++[gz y])])) ?_ (aZ (fin _ _ hv (by show(V++[cP.sub w (ws++[gz y])]).length+(ws++[gz y]).length<=(V++[cP.sub w ws]).length+ws.length+1;rw [ai,ai,ai];exact aF _)))
      refine cW (R1:=RV (V++[.sub w ws])) (qg (R1:=RV (V++[.sub w ws])) (nz (b:=(fN y:Int)==6) ∅ (beq_eq_false_iff_ne.mpr (by exact O8 n6))) (mX (R1:=RV (V++[.sub w ws])) (nz (b:=(fN y:Int)==7) ∅ (beq_eq_false_iff_ne.mpr (by exact O0 n7))) ∅)) ?_
      refine aS _ (R1:=RV (V++[.sub w (ws++[gz y])])) (iw ?_) (aZ (aZ rfl))
      rw [<-J1]
      refine eN (x:=.obj (3+2*fH V)) (as:=[.str (gz y)]) (R1:=RV (V++[.sub w ws])) (R2:=RV (V++[.sub w ws])) ∅ (mi (x:=.obj (4+2*fH V)) (R1:=RV (V++[.sub w ws])) ∅ ∅ ?_) (fF (eA (g:=899) (as:=[.int y]) (R1:=RV (V++[.sub w ws])) ∅ ∅ ∅ ∅ (Dx (xT _)))) (eb (l:=ws.map .str) a1 a1 ?_)
      ·refine cS (b:=fM (wY (RV (V++[.sub w ws])) (.obj (4+2*fH V)) 1) (RV (V++[.sub w ws]))) ∅ (gU (o:=wY (RV (V++[.sub w ws])) (.obj (4+2*fH V)) 1) (c9 (k:=λl=>iD l 1) (show lJ (RV (V++[.sub w ws])) (.obj (4+2*fH V))=some [.str w,.obj (3+2*fH V)] by unfold lJ;simp only [a2];rfl) rfl))
      ·rw [ae]
       have:vp (V,some (w,ws))=ws.length:=rfl
       exact So hS h6 this
 ·rintro σ R ⟨rest,s,tl,h1,h2,h3,rfl,rfl,h6⟩
  cases rest with
  | cons y rest=>cases h1
  | nil=>
   have hs:ez s=e9 ns:=by show ez (List.foldl dq s [])=_;rw [h2];rfl
   rw [hs]
   have hcalm:yz [.tab,.dead,.dead]:=λd hd=>by simp only [ay,bJ,or_false]at hd;rcases hd with rfl | rfl | rfl<;>simp
   have hcalm2:yz [.tab,.dead]:=λd hd=>by simp only [ay,bJ,or_false]at hd;rcases hd with rfl | rfl<;>simp
   have hcalm1:yz [.tab]:=λd hd=>by simp only [ay,bJ,or_false]at hd;exact av hd
   generalize hσ:Bq (.list (ns.map .int)) (Oa s) tl=σ
   obtain⟨D',c1,c2,c3⟩:=ye (e9 ns) 0 (l9 2 [.str eI,.list (gW 0 (e9 ns))] (l9 1 (gW 0 (e9 ns)) σ)) [.tab,.dead,.dead] rfl hcalm
   have hfr:u8 (below 1 (RV (e9 ns)).length) σ (RV (e9 ns))=(((l9 2 [.str eI,.list (gW 0 (e9 ns))] (l9 1 (gW 0 (e9 ns)) σ))).map λx=>(x.1,B6 0 (e9 ns) x.2),D'):=by
    rw [IZ,nk (by exact Sn),nk (by exact Sm),<-c3]
    refine(rd (k:=1) (D:=[.tab]) (l:=gW 0 (e9 ns)) (r:=.lst [.str eI,.obj 1]::g0 0 (e9 ns)) (r':=.lst [.str eI,.list (gW 0 (e9 ns))]::g0 0 (e9 ns)) rfl hcalm1 ?_).trans ?_
    ·show aN.lst [.str eI,.list _]::(g0 0 (e9 ns)).map _=_
     rw [mu _ 0 (by decide)]
    ·exact(rd (k:=2) (D:=[.tab,.dead]) (l:=[.str eI,.list (gW 0 (e9 ns))]) (r:=g0 0 (e9 ns)) (r':=g0 0 (e9 ns)) rfl hcalm2 (mu _ 0 (by decide))).trans rfl
   refine cV (.list [.str eI,.list ((e9 ns).map jm)]) (R1:=D') ?_ ⟨rfl,by show lO D'=true;unfold lO;rw [c2];rfl⟩
   show ev _ _ _ _ (u8 (below 1 (RV (e9 ns)).length) σ (RV (e9 ns))).1 (u8 (below 1 (RV (e9 ns)).length) σ (RV (e9 ns))).2=_
   have e:=vf eI (e9 ns) 0 [] rfl
   rw [ew,ew]at e
   rw [hfr,<-e,<-hσ]
   kernel_rfl
 ·rw [ai,cB]
  have:lQ.length=3:=rfl
  show 0+0+_<=_
  exact Sl this
end Mine.W
end
section
namespace Mine.W
inductive fk where
 | leaf (r:List LS)
 | node (l:List (List LS))
noncomputable def da:fk->PV
 | .leaf r=>aV r
 | .node l=>.list (l.map aV)
noncomputable def b4:fk->PV
 | .leaf r=>.str (aI r)
 | .node l=>.list (l.map λr=>.str (aI r))
noncomputable def jU:fk->Bool
 | .leaf _=>false
 | .node _=>true
noncomputable def b7:fk->List LS
 | .leaf r=>r
 | .node l=>bz l
noncomputable def gj:fk->List (List LS)
 | .leaf r=>[r]
 | .node l=>l
noncomputable def zE:fk->List fk
 | .leaf _=>[]
 | .node l=>l.map .leaf
noncomputable def oG(fs:List (List LS))(f:List LS):List (List LS):=bif fs.any (λx=>x==f)then fs else fs++[f]
noncomputable def gL(rows:List fk):List (List LS):=(rows.flatMap gj).foldl oG []
noncomputable def Hb(rows:List fk):List (List fk):=rows::(rows.filter jU).map zE
structure AA(k:Nat)(fars:List (List LS))(own:List fk):Prop where
 len:own.length<60
 met:eh k 952 [.list (own.map b4)] (.str (aI (bz (own.map b7))))
 val:eh k 947 [.list (own.map da)] (aV (bz (own.map b7)))
 txt:cc (bz (own.map b7))<=300000
 inn:∀l,.node l∈own->eh k 947 [.list (l.map aV)] (aV (bz l))
 flen:∀far∈fars,far.length<10000/\cc far<=300000
 seen:∀far∈fars,∃ss:List LS,ss≠[]/\ss.length<64/\eh k 959 [.list (own.map b4),.str (aI far)] (.list (ss.map .str))/\mG [aI (bz (own.map b7)),aI far]/\Aw ss ((ss.length-1) / 2)=tR [aI (bz (own.map b7)),aI far]/\Aw ss (ss.length / 2)=aI (dZ (own.map b7) far ((own.length+1) / 2))
theorem xi:∀(l:List LS),mD (l.map .str) (l.map .str)=true:=λl=>by rw [sb,beq_self_eq_true]
theorem Ip(r:fk):uD 5 (b4 r)=true/\yC (b4 r) (b4 r)=true:=by
 cases r with
 | leaf r=>exact⟨rfl,beq_self_eq_true _⟩
 | node l=>
  have e:l.map (λr=>PV.str (aI r))=(l.map aI).map .str:=by rw [aG];rfl
  constructor
  ·show om 4 (l.map λr=>PV.str (aI r))=true
   rw [e]
   induction l.map aI with
   | nil=>rfl
   | cons x l ih=>exact ih
  ·show mD _ _=true
   rw [e];exact xi _
theorem DH(rows:List fk):AL (.list (rows.map b4)) (.list (rows.map b4))=some true:=by
 have h:om 5 (rows.map b4)=true/\mD (rows.map b4) (rows.map b4)=true:=by
  induction rows with
  | nil=>exact⟨rfl,rfl⟩
  | cons r rows ih=>
   obtain⟨a,b⟩:=Ip r
   constructor
   ·show(uD 5 (b4 r)&&om 5 (rows.map b4))=true;rw [a,ih.1];rfl
   ·show(yC (b4 r) (b4 r)&&mD (rows.map b4) (rows.map b4))=true;rw [b,ih.2];rfl
 unfold AL
 show(if(om 5 (rows.map b4)&&om 5 (rows.map b4))=true then _ else _)=_
 rw [h.1]
 show some (mD _ _)=_
 rw [h.2]
theorem Lc(ss:List LS):AL (.list (ss.map .str)) (.list (ss.map .str))=some true:=by
 have h:=DH [.node []]
 have h1:om 5 (ss.map PV.str)=true:=by
  induction ss with
  | nil=>rfl
  | cons x l ih=>exact ih
 unfold AL
 show(if(om 5 (ss.map PV.str)&&om 5 (ss.map PV.str))=true then some (mD (ss.map PV.str) (ss.map PV.str))else _)=_
 rw [h1,xi]
 rfl
theorem KL(fs:List (List LS))(f:List LS)(R:List aN)(v:PV)(h:lJ R v=some (fs.map aV))(hv:∀s,v ≠ .str s):Nz R (aV f) v=some (fs.any λx=>x==f):=by
 have h1:(fs.map aV).all (uD 6)=true:=by
  rw [List.all_map,bu]
  exact λx ζ=>tH 5 x
 refine c9 h (fV (by rw [tH,h1];rfl) ?_)
 rw [List.any_map]
 congr 2
 funext x
 exact sb x f
theorem rP{α:Type}(l:List α)(d:α)(g:α->PV){i:Nat}(h:i<l.length):iD (l.map g) (i:Int)=some (g (l.getD i d)):=by
 rw [mw,jG,db,bQ h];rfl
theorem Et{α:Type}(l:List α)(d:α):(cM l.length).map (λi=>l.getD i d)=l:=by
 apply Jp
 ·rw [ae,ia]
 ·intro i h1 h2
  rw [List.getElem_map,List.getElem_range,db,bQ h2];rfl
theorem B5{α:Type}(l:List α)(d:α)(p:α->Bool):((cM l.length).filter λi=>p (l.getD i d)).map (λi=>l.getD i d)=l.filter p:=by
 have:=vK (f:=λi=>l.getD i d) (p:=p) (l:=cM l.length)
 rw [Et]at this
 exact this.symm
theorem yj{sp:Spec}{n:Nat}{cx:Cx}{σ:br}{R R1:List aN}{es:List bE}{vs:List PV}{p:dS}(h:evs sp n cx es σ R=some (vs,R1))(hl:vs.length<=SZ):ev sp (n+1) cx (.List es p) σ R=some (.list vs,R1):=by
 exact bo (k:=λl R1=>fM (mkL l) R1) h (gU (uG hl))
theorem uE{R:List aN}{a:PV}(h:AL a a=some true):td R .NotEq a a=some false:=by
 show(AL a a).map not=_
 rw [h];rfl
theorem Cf(s:LS):AL (.str s) (.str s)=some true:=by
 show some (s==s)=_
 rw [beq_self_eq_true]
noncomputable abbrev QP(S V r pl:PV)(tl:br):br:=("script",S)::("vote",V)::("rows",r)::("places",pl)::tl
noncomputable abbrev yh(fs:List (List LS)):PV:=.list (fs.map aV)
section
variable {k:Nat} {S V:PV} {rows:List fk} {fs:List (List LS)}
noncomputable abbrev DI:Cx:=⟨(bv (aL pw 62)).scope.names,1⟩
noncomputable def IQ:List ir:=match (bv (aL pw 62)).body.getD 7 bN with
 | .For _ _ b _ _=>b
 | _=>[]
noncomputable def Mj:List ir:=match IQ.getD 3 bN with
 | .For _ _ b _ _=>b
 | _=>[]
noncomputable abbrev yR(S V:PV)(rows:List fk)(F a b I:PV)(tl:br):br:=QP S V (.list (rows.map da)) (.list (rows.map b4)) (("fars",F)::("row",a)::("far",b)::("inner",I)::tl)
theorem Ky{a b b0 I:PV}{own:List fk}{far:List LS}{e:br}{R:List aN}(hR:R=[.tab,.dead])(he:e=[] \/ ∃s t,e=([("seen",s),("kept",t)]:br))(ho:AA (k+5) fs own)(hf:far∈fs)(hn:own≠[]) :
  ∃s t,po (fE (k+5)) 386 DI Mj (yR S V rows (yh fs) a (aV far) I (("held",.list (own.map b4))::("own",.list (own.map da))::("flat",.list ((own.map b7).map aV))::("met",.str (aI (bz (own.map b7))))::e)) R λo=>o=(.next,yR S V rows (yh fs) a (aV far) I (("held",.list (own.map b4))::("own",.list (own.map da))::("flat",.list ((own.map b7).map aV))::("met",.str (aI (bz (own.map b7))))::("seen",s)::("kept",t)::[]),R):=by
 subst hR
 obtain⟨ss,s1,s2,s3,s4,s5,s6⟩:=ho.seen far hf
 obtain⟨l1,l2⟩:=ho.flen far hf
 obtain⟨c1,c2,c3,c4,c5⟩:=s4
 refine⟨.list (ss.map .str),.list (ss.map .str),?_⟩
 have hlen:=ho.len
 have T:∀{n:Nat} {σ:br} {R:List aN} {fp p:dS} {e:bE} {r:List LS},xU R=true->cc r<=300000->ev (fE (k+5)) (n+1) DI e σ R=some (aV r,R)->ev (fE (k+5)) (n+4) DI (.Call (.Name "_law_text" fp) [e] [] p) σ R=some (.str (aI r),R):=
  λhR hs he=>eA (g:=937) (as:=[aV _]) ∅ ∅ ∅ (fF he) (tN hs hR)
 refine ch (.list (ss.map .str)) (yR S V rows (yh fs) a (aV far) I (("held",.list (own.map b4))::("own",.list (own.map da))::("flat",.list ((own.map b7).map aV))::("met",.str (aI (bz (own.map b7))))::("seen",.list (ss.map .str))::e.drop 1)) (R1:=[.tab,.dead]) (eA (g:=959) (as:=[.list (own.map b4),.str (aI far)]) (R1:=[.tab,.dead]) ∅ ∅ ∅ (pf ∅ (T rfl l2 ∅)) (s3 _ rfl)) ∅ ∅ (by rcases he with rfl | ⟨s,t,rfl⟩<;>kernel_rfl) ?_
 have cm:∀{n:Nat} {σ:br} {e1 e2:bE},ev (fE (k+5)) (n+5) DI e1 σ [.tab,.dead]=some (.str (aI (bz (own.map b7))),[.tab,.dead])->ev (fE (k+5)) (n+1) DI e2 σ [.tab,.dead]=some (aV far,[.tab,.dead])->∀(lp p q fp pp:dS),ev (fE (k+5)) (n+10) DI (.Call (.Name "commonpath" fp) [.List [e1,.Call (.Name "_law_text" lp) [e2] [] q] p] [] pp) σ [.tab,.dead]=some (.str (tR [aI (bz (own.map b7)),aI far]),[.tab,.dead]):=λh1 h2 lp p q fp pp=>by
  refine eA (g:=184) (as:=[.list ([aI (bz (own.map b7)),aI far].map .str)]) (R1:=[.tab,.dead]) ∅ ∅ ∅ (fF (yj (pf h1 (T rfl l2 h2)) ?_)) (vg c1 c2 c3 c4 c5 _ rfl)
  exact bw rfl
 refine aS (yR S V rows (yh fs) a (aV far) I (("held",.list (own.map b4))::("own",.list (own.map da))::("flat",.list ((own.map b7).map aV))::("met",.str (aI (bz (own.map b7))))::("seen",.list (ss.map .str))::("kept",.list (ss.map .str))::[])) (R1:=[.tab,.dead]) (by rcases he with rfl | ⟨s,t,rfl⟩<;>kernel_rfl) ?_
 refine cW (R1:=[.tab,.dead]) (ja (x:=.str (tR [aI (bz (own.map b7)),aI far])) (y:=.str (tR [aI (bz (own.map b7)),aI far])) (R1:=[.tab,.dead]) ∅ (eA (g:=64) (as:=[.list (ss.map .str)]) (R1:=[.tab,.dead]) ∅ ∅ ∅ ∅ (by rw [<-s5];exact L8 s1 s2 _ rfl)) (cm ∅ ∅ _ _ _ _ _) (uE (Cf _))) (aZ ?_)
 have hfl:dZ (own.map b7) far ((own.length+1) / 2)=far.take (gk (own.map b7) far ((own.length+1) / 2) far.length):=rfl
 have hpos:0<own.length:=b6.mpr hn
 have hfs:cc (dZ (own.map b7) far ((own.length+1) / 2))<=300000:=by
  refine ah ?_ l2
  have:=gE (far.take (gk (own.map b7) far ((own.length+1) / 2) far.length)) (far.drop (gk (own.map b7) far ((own.length+1) / 2) far.length))
  rw [j3]at this
  rw [hfl];exact Sk this
 refine cW (R1:=[.tab,.dead]) (qg (R1:=[.tab,.dead]) (ja (x:=.str (aI (dZ (own.map b7) far ((own.length+1) / 2)))) (y:=.str (aI (dZ (own.map b7) far ((own.length+1) / 2)))) (R1:=[.tab,.dead]) ∅ (eA (g:=71) (as:=[.list (ss.map .str)]) (R1:=[.tab,.dead]) ∅ ∅ ∅ ∅ (by rw [<-s6];exact NV s1 s2 _ rfl)) (T rfl hfs (eA (g:=942) (as:=[.list ((own.map b7).map aV),aV far,.int (((own.length+1) / 2:Nat):Int)]) (R1:=[.tab,.dead]) ∅ ∅ ∅ ?_ (DE (by rw [ae];exact Sj) l1 (by rw [ae];exact Si hlen) _ rfl))) (uE (Cf _))) (mX (R1:=[.tab,.dead]) (ja (x:=.list (ss.map .str)) (y:=.list (ss.map .str)) (R1:=[.tab,.dead]) ∅ ∅ ∅ (uE (Lc _))) ∅)) (aZ (aZ rfl))
 refine cS (b:=some ([.list ((own.map b7).map aV),aV far,.int (kH (((((own.map b7).map aV).length:Nat):Int)+1) (2:Nat))],[.tab,.dead])) ∅ ?_
 rw [ae,ae,show(own.length:Int)+1=((own.length+1:Nat):Int)from rfl,kc]
end
end Mine.W
end
section
namespace Mine.W
theorem Fc{sp:Spec}{n k:Nat}{cx:Cx}{σ:br}{R:List aN}{it:bE}{l:List PV}(h:qW R σ it=some (k,l))(hr:R[k]? = some (.lst l)):forIt sp (n+1) cx it σ R=some (l,l9 k l σ,(R.map (vX k l)).set k .dead):=by
 refine c9 h ?_
 show some (l,rf k σ R)=_
 unfold rf
 simp only [hr]
 rfl
theorem lh(r:fk):noObj (da r)=true:=by
 cases r with
 | leaf r=>exact bH r
 | node l=>exact bS (f:=aV) λr ζ=>bH r
theorem lK(r:fk):noObj (b4 r)=true:=by
 cases r with
 | leaf r=>rfl
 | node l=>exact bS (f:=λr=>PV.str (aI r)) λr ζ=>rfl
section
variable {k:Nat} {S V:PV} {rows:List fk} {fs:List (List LS)}
theorem Hn{α:Type}{f:List aN->PV->Option (Option PV × List aN)}{F G:α->PV}{R:List aN}:∀{l:List α},(∀a∈l,f R (F a)=some (some (G a),R))->mf f (l.map F) R=some (l.map G,R):=by
 intro l
 induction l with
 | nil=>
  intro _
  exact rfl
 | cons x r ih=>
  intro h
  have ih:=ih λy hy=>h y (an _ hy)
  rw [aK]
  exact bo (h x aj) (bo ih rfl)
theorem xg{α:Type}{sp:Spec}{n:Nat}{cx:Cx}{σ:br}{R R1:List aN}{t it elt:bE}{sc:Scope}{l:List α}(F G:α->PV)(hc:(cL t && !iI cx it&&qN cx σ sc)=true)(hi:itv sp (n+1) cx it σ R=some (l.map F,R1))
  (h:∀x∈l,∃σ',iE ⟨sc.names,cx.base⟩ t (F x) (eU sc.names σ)=some σ'/\ev sp (n+1) ⟨sc.names,cx.base⟩ elt σ' R1=some (G x,R1)) :
  cmpv sp (n+2) cx elt [⟨t,it,[],0⟩] sc σ R=some (l.map G,R1):=by
 refine yv hc hi (Hn λx hx=>?_)
 obtain⟨σ',k1,k2⟩:=h x hx
 exact c9 k1 (bo (show(mn sp (n+1)).tvs ⟨sc.names,cx.base⟩ .And [] σ' R1=some (true,R1)from rfl) (At rfl (bo k2 rfl)))
noncomputable abbrev vm(S V:PV)(rows:List fk)(fs:List (List LS))(a b I:PV)(own:List fk)(e:br):br:=yR S V rows (yh fs) a b I (("held",.list (own.map b4))::("own",.list (own.map da))::("flat",.list ((own.map b7).map aV))::("met",.str (aI (bz (own.map b7))))::e)
theorem Dk{a b I:PV}{own:List fk}{σ:br}{R:List aN}(ho:AA (k+5) fs own)(hn:own≠[])(hf:fs≠[])(hS:noObj S=true)(hV:noObj V=true)(ha:noObj a=true)(hb:noObj b=true)(hI:noObj I=true)
  (hσ:(σ=yR S V rows (.obj 1) a b I [("held",.list (own.map b4)),("own",.list (own.map da))]/\R=[.tab,.lst (fs.map aV)])\/(∃f0 m0 s0 t0,σ=yR S V rows (yh fs) a b I [("held",.list (own.map b4)),("own",.list (own.map da)),("flat",f0),("met",m0),("seen",s0),("kept",t0)]/\R=[.tab,.dead])) :
  ∃b' s t,noObj b'=true/\po (fE (k+5)) 391 DI IQ σ R λo=>o=(.next,vm S V rows fs a b' I own [("seen",s),("kept",t)],[.tab,.dead]):=by
 suffices h:po (fE (k+5)) 391 DI IQ σ R λo=>∃b' s t,noObj b'=true/\o=(.next,vm S V rows fs a b' I own [("seen",s),("kept",t)],[.tab,.dead]) by
  obtain⟨z,h1,b',s,t,h2,h3⟩:=h
  exact⟨b',s,t,h2,z,h1,h3⟩
 have hlen:=ho.len
 have hSZ:SZ=1000000:=rfl
 have hR:xU R=true:=by rcases hσ with ⟨rfl,rfl⟩ | ⟨f0,m0,s0,t0,rfl,rfl⟩<;>rfl
 have flat:∀r∈own,∀{n:Nat} {cx:Cx} {σ:br} {fp p:dS} {t c d:bE},gl cx ("_law_value":Str)=true->ev (fE (k+5)) (n+1) cx d σ R=some (da r,R)->ev (fE (k+5)) (n+4) cx c σ R=some (da r,R)->tv (fE (k+5)) (n+4) cx t σ R=some (!jU r,R)->∀pp,ev (fE (k+5)) (n+5) cx (.IfExp t c (.Call (.Name "_law_value" fp) [d] [] p) pp) σ R=some (aV (b7 r),R):=by
  intro r hr n cx σ fp p t c d h0 h1 h2 h3 pp
  cases r with
  | leaf r=>exact kd h3 h2
  | node l=>exact kd h3 (eA (n:=n+2) (g:=947) (as:=[.list (l.map aV)]) (R1:=R) h0 ∅ ∅ (fF h1) (ho.inn l hr _ hR))
 obtain⟨σ1,h1,h2⟩:∃σ1,iE DI (.Name "flat" bN) (.list ((own.map b7).map aV)) σ=some σ1/\((σ1=yR S V rows (.obj 1) a b I [("held",.list (own.map b4)),("own",.list (own.map da)),("flat",.list ((own.map b7).map aV))]/\R=[.tab,.lst (fs.map aV)])\/(∃m0 s0 t0,σ1=yR S V rows (yh fs) a b I [("held",.list (own.map b4)),("own",.list (own.map da)),("flat",.list ((own.map b7).map aV)),("met",m0),("seen",s0),("kept",t0)]/\R=[.tab,.dead])):=by
  rcases hσ with ⟨rfl,rfl⟩ | ⟨f0,m0,s0,t0,rfl,rfl⟩
  ·exact⟨_,∅,av ⟨rfl,rfl⟩⟩
  ·exact⟨_,∅,am ⟨m0,s0,t0,rfl,rfl⟩⟩
 refine ch (σ1:=σ1) (.list ((own.map b7).map aV)) (R1:=R) (ge ?_ (by rw [ae,ae];exact M2 hlen hSZ)) ∅ ∅ h1 ?_
 ·rw [aG]
  refine xg da (λr=>aV (b7 r)) (R1:=R) (by rcases hσ with ⟨rfl,rfl⟩ | ⟨f0,m0,s0,t0,rfl,rfl⟩<;>kernel_rfl) (il (xs:=own.map da) (by rcases hσ with ⟨rfl,rfl⟩ | ⟨f0,m0,s0,t0,rfl,rfl⟩<;>kernel_rfl) ∅) λr hr=>⟨[("row",da r)],by rcases hσ with ⟨rfl,rfl⟩ | ⟨f0,m0,s0,t0,rfl,rfl⟩<;>kernel_rfl,flat r hr ∅ ∅ ∅ ?_ _⟩
  cases r<;>kernel_rfl
 obtain⟨σ2,h3,h4⟩:∃σ2,iE DI (.Name "met" bN) (.str (aI (bz (own.map b7)))) σ1=some σ2/\((σ2=yR S V rows (.obj 1) a b I [("held",.list (own.map b4)),("own",.list (own.map da)),("flat",.list ((own.map b7).map aV)),("met",.str (aI (bz (own.map b7))))]/\R=[.tab,.lst (fs.map aV)])\/(∃s0 t0,σ2=vm S V rows fs a b I own [("seen",s0),("kept",t0)]/\R=[.tab,.dead])):=by
  rcases h2 with ⟨rfl,rfl⟩ | ⟨m0,s0,t0,rfl,rfl⟩
  ·exact⟨_,∅,av ⟨rfl,rfl⟩⟩
  ·exact⟨_,∅,am ⟨s0,t0,rfl,rfl⟩⟩
 refine ch (σ1:=σ2) (.str (aI (bz (own.map b7)))) (R1:=R) (eA (g:=952) (as:=[.list (own.map b4)]) (R1:=R) ∅ ∅ ∅ (by rcases h2 with ⟨rfl,rfl⟩ | ⟨m0,s0,t0,rfl,rfl⟩<;>kernel_rfl) (ho.met _ hR)) ∅ ∅ h3 ?_
 refine cW (R1:=R) (ja (x:=.str (aI (bz (own.map b7)))) (y:=.str (aI (bz (own.map b7)))) (R1:=R) ∅ (by rcases h4 with ⟨rfl,rfl⟩ | ⟨s0,t0,rfl,rfl⟩<;>kernel_rfl) (eA (g:=937) (as:=[aV (bz (own.map b7))]) (R1:=R) ∅ ∅ ∅ (fF (eA (g:=947) (as:=[.list (own.map da)]) (R1:=R) ∅ ∅ ∅ (by rcases h4 with ⟨rfl,rfl⟩ | ⟨s0,t0,rfl,rfl⟩<;>kernel_rfl) (ho.val _ hR))) (tN ho.txt hR)) (uE (Cf _))) (aZ ?_)
 have fin:∀e:br,(e=[] \/ ∃s t,e=([("seen",s),("kept",t)]:br))->FH (ul (fE (k+5)) 386 DI (.Name "far" bN) Mj) (fs.map aV) (vm S V rows fs a b I own e) [.tab,.dead] λo=>∃b' s t,noObj b'=true/\o=(.next,vm S V rows fs a b' I own [("seen",s),("kept",t)],[.tab,.dead]):=by
  intro e he
  refine ij (λxs σ R=>∃(rest:List (List LS)) (b:PV) (e:br),xs=rest.map aV/\(∀f∈rest,f∈fs)/\noObj b=true/\((e=[]/\rest≠[]) \/ ∃s t,e=([("seen",s),("kept",t)]:br))/\σ=vm S V rows fs a b I own e/\R=([.tab,.dead]:List aN)) ?_ ?_ _ _ _ ⟨fs,b,e,rfl,λζ h=>h,hb,he.imp (λq=>⟨q,hf⟩) id,rfl,rfl⟩
  ·rintro x xs σ R ⟨rest,b,e,g1,g2,g3,g4,rfl,rfl⟩
   cases rest with
   | nil=>cases g1
   | cons f rest=>
    simp only [aK,dG]at g1
    obtain⟨rfl,rfl⟩:=g1
    obtain⟨s,t,z,g5,g6⟩:=Ky (k:=k) (S:=S) (V:=V) (rows:=rows) (fs:=fs) (a:=a) (I:=I) (own:=own) (far:=f) (e:=e) (R:=[.tab,.dead]) (b:=b) (b0:=b) rfl (g4.imp And.left id) ho (g2 f aj) hn
    refine⟨z,qI (vm S V rows fs a (aV f) I own e) (by rcases g4 with ⟨rfl,_⟩ | ⟨s,t,rfl⟩<;>kernel_rfl) g5,?_⟩
    subst g6
    exact⟨rest,aV f,_,rfl,λg hg=>g2 g (an _ hg),bH f,am ⟨s,t,rfl⟩,rfl,rfl⟩
  ·rintro σ R ⟨rest,b,e,g1,g2,g3,g4,rfl,rfl⟩
   cases rest with
   | cons f rest=>cases g1
   | nil=>
    rcases g4 with ⟨_,q⟩ | ⟨s,t,rfl⟩
    ·exact absurd rfl q
    ·exact⟨b,s,t,g3,rfl⟩
 rcases h4 with ⟨rfl,rfl⟩ | ⟨s0,t0,rfl,rfl⟩
 ·refine gY (xs:=fs.map aV) (σ1:=vm S V rows fs a b I own []) (R1:=[.tab,.dead]) ?_ ∅ ?_
  ·refine(Fc (k:=1) ∅ rfl).trans ?_
   have e1:l9 1 (fs.map aV) (yR S V rows (.obj 1) a b I [("held",.list (own.map b4)),("own",.list (own.map da)),("flat",.list ((own.map b7).map aV)),("met",.str (aI (bz (own.map b7))))])=vm S V rows fs a b I own []:=by
    show(_,sub 1 _ S)::(_,sub 1 _ V)::(_,sub 1 _ (PV.list (rows.map da)))::(_,sub 1 _ (PV.list (rows.map b4)))::(_,_)::(_,sub 1 _ a)::(_,sub 1 _ b)::(_,sub 1 _ I)::(_,sub 1 _ (PV.list (own.map b4)))::(_,sub 1 _ (PV.list (own.map da)))::(_,sub 1 _ (PV.list ((own.map b7).map aV)))::_=_
    rw [k9 hS,k9 hV,k9 ha,k9 hb,k9 hI,k9 (v:=.list (rows.map da)) (bS λr ζ=>lh r),k9 (v:=.list (rows.map b4)) (bS λr ζ=>lK r),k9 (v:=.list (own.map b4)) (bS λr ζ=>lK r),k9 (v:=.list (own.map da)) (bS λr ζ=>lh r),k9 (v:=.list ((own.map b7).map aV)) (bS (f:=aV) λr ζ=>bH r)]
    rfl
   rw [e1]
   rfl
  ·exact(fin [] (av rfl)).elim λz h=>⟨z,h.1,by obtain⟨b',s,t,h5,h6⟩:=h.2;subst h6;exact aZ ⟨b',s,t,h5,rfl⟩⟩
 ·refine gY (xs:=fs.map aV) (σ1:=vm S V rows fs a b I own [("seen",s0),("kept",t0)]) (R1:=[.tab,.dead]) (gG ∅ ∅ ∅) ∅ ?_
  exact(fin _ (am ⟨s0,t0,rfl⟩)).elim λz h=>⟨z,h.1,by obtain⟨b',s,t,h5,h6⟩:=h.2;subst h6;exact aZ ⟨b',s,t,h5,rfl⟩⟩
end
end Mine.W
end
section
namespace Mine.W
section
variable {sp:Spec} {n:Nat} {cx:Cx} {σ:br} {R R1:List aN} {t it elt e:bE} {v:PV} {p:dS}
theorem IG{α:Type}{sc:Scope}{ifs:List bE}{l:List α}(F:α->PV)(q:α->Bool)(hc:(cL t && !iI cx it&&qN cx σ sc)=true)(hi:itv sp (n+1) cx it σ R=some (l.map F,R1))
  (h:∀x∈l,∃σ',iE ⟨sc.names,cx.base⟩ t (F x) (eU sc.names σ)=some σ'/\tvs sp (n+1) ⟨sc.names,cx.base⟩ .And ifs σ' R1=some (q x,R1)/\ev sp (n+1) ⟨sc.names,cx.base⟩ elt σ' R1=some (F x,R1)) :
  cmpv sp (n+2) cx elt [⟨t,it,ifs,0⟩] sc σ R=some ((l.filter q).map F,R1):=by
 refine yv hc hi ?_
 clear hi
 induction l with
 | nil=>rfl
 | cons x l ih=>
  obtain⟨σ',k1,k2,k3⟩:=h x aj
  have ih:=ih λy hy=>h y (an _ hy)
  rw [aK,d3]
  cases hq:q x with
  | true=>rw [hq]at k2;exact bo (c9 k1 (bo k2 (At rfl (bo k3 rfl)))) (bo ih rfl)
  | false=>rw [hq]at k2;exact bo (c9 k1 (bo k2 (DL rfl rfl))) (bo ih rfl)
theorem Be{b:Bool}(h:tv sp n cx e σ R=some (b,R1)):tv sp (n+1) cx (.UnaryOp .Not e p) σ R=some (!b,R1):=by
 exact bo (k:=λc R1=>some (!c,R1)) h rfl
theorem Bc{b:Bool}(hk:UP (mn sp n) cx e σ R=wy (mn sp n) cx e σ R)(h:ev sp n cx e σ R=some (v,R1))(ht:qh R1 v=some b):tv sp (n+1) cx e σ R=some (b,R1):=
 hk.trans (bo (k:=λv R1=>fM (qh R1 v) R1) h (gU ht))
theorem N0{es:List bE}{vs:List PV}{k}(h:evs sp n cx es σ R=some (vs,R1))(hl:vs.length<=SZ):ev sp (n+1) cx (.Tuple es k p) σ R=some (.tup vs,R1):=by
 exact bo (k:=λl R1=>fM (mkT l) R1) h (gU (BE hl))
end
section
variable {k:Nat} {S V:PV} {rows:List fk}
noncomputable abbrev pP(own:List fk):PV:=.tup [.list (own.map b4),.list (own.map da)]
noncomputable abbrev C3(S V:PV)(rows:List fk)(tl:br):br:=QP S V (.list (rows.map da)) (.list (rows.map b4)) (("fars",.obj 1)::tl)
theorem Hw{h:List LS}{rest:List fk}(hrows:rows = .leaf h::rest)(hlen:(rows.flatMap gj).length<50000) :
  FH (ul (fE (k+5)) 393 DI (.Name "row" bN) (match (bv (aL pw 62)).body.getD 5 bN with | .For _ _ b _ _=>b | _=>[])) (rows.map da) (C3 S V rows []) [.tab,.lst []] λo=>∃a b,noObj a=true/\noObj b=true/\o=(.next,C3 S V rows [("row",a),("far",b)],[.tab,.lst ((gL rows).map aV)]):=by
 refine ij (λxs σ R=>∃(rs:List fk) (fs:List (List LS)) (tl:br),xs=rs.map da/\(rs.flatMap gj).foldl oG fs=gL rows/\((tl=[] /\ ∃h' rs',rs = .leaf h'::rs') \/ ∃a b,noObj a=true/\noObj b=true/\tl=([("row",a),("far",b)]:br))/\σ=C3 S V rows tl/\R=([.tab,.lst (fs.map aV)]:List aN)/\fs.length+(rs.flatMap gj).length<50000) ?_ ?_ _ _ _ ⟨rows,[],[],rfl,rfl,av ⟨rfl,h,rest,hrows⟩,rfl,rfl,by show 0+_<_;exact Sh hlen⟩
 ·rintro x xs σ R ⟨rs,fs,tl,g1,g2,g3,rfl,rfl,g4⟩
  cases rs with
  | nil=>cases g1
  | cons r rs=>
   simp only [aK,dG]at g1
   obtain⟨rfl,rfl⟩:=g1
   rw [jH,Ga]at g2
   rw [jH,ai]at g4
   have g5:∃e:br,((e=[]/\gj r≠[]) \/ ∃b,noObj b=true/\e=([("far",b)]:br))/\iE DI (.Name "row" bN) (da r) (C3 S V rows tl)=some (C3 S V rows (("row",da r)::e)):=by
    rcases g3 with ⟨rfl,h',rs',q⟩ | ⟨a,b,_,hb,rfl⟩
    ·cases q
     exact⟨[],av ⟨rfl,λq=>nomatch q⟩,∅⟩
    ·exact⟨[("far",b)],am ⟨b,hb,rfl⟩,∅⟩
   obtain⟨e,g6,g7⟩:=g5
   refine jn (C3 S V rows (("row",da r)::e)) g7 ?_
   refine gY (xs:=(gj r).map aV) (σ1:=C3 S V rows (("row",da r)::e)) (R1:=[.tab,.lst (fs.map aV)]) (gG ?_ ∅ ∅) ∅ ?_
   ·cases r with
    | leaf r=>exact kd (b:=true) (R1:=[.tab,.lst (fs.map aV)]) ∅ ∅
    | node l=>exact kd (b:=false) (R1:=[.tab,.lst (fs.map aV)]) ∅ ∅
   refine ij (λxs σ R=>∃(ps:List (List LS)) (fs2:List (List LS)) (e:br),xs=ps.map aV/\ps.foldl oG fs2=(gj r).foldl oG fs/\((e=[]/\ps≠[]) \/ ∃b,noObj b=true/\e=([("far",b)]:br))/\σ=C3 S V rows (("row",da r)::e)/\R=([.tab,.lst (fs2.map aV)]:List aN)/\fs2.length+ps.length<=fs.length+(gj r).length) ?_ ?_ _ _ _ ⟨gj r,fs,e,rfl,rfl,g6,rfl,rfl,aF _⟩
   ·rintro x xs σ R ⟨ps,fs2,e,k1,k2,k3,rfl,rfl,k4⟩
    cases ps with
    | nil=>cases k1
    | cons f ps=>
     simp only [aK,dG]at k1
     obtain⟨rfl,rfl⟩:=k1
     rw [ao]at k4
     have k2':ps.foldl oG (oG fs2 f)=(gj r).foldl oG fs:=k2
     have fin:∀fs3,oG fs2 f=fs3->fs3.length<=fs2.length+1->∃(ps':List (List LS)) (fs2:List (List LS)) (e:br),ps.map aV=ps'.map aV/\ps'.foldl oG fs2=(gj r).foldl oG fs/\((e=[]/\ps'≠[]) \/ ∃b,noObj b=true/\e=([("far",b)]:br))/\C3 S V rows [("row",da r),("far",aV f)]=C3 S V rows (("row",da r)::e)/\([.tab,.lst (fs3.map aV)]:List aN)=([.tab,.lst (fs2.map aV)]:List aN)/\fs2.length+ps'.length<=fs.length+(gj r).length:=by
      rintro fs3 rfl hl
      exact⟨ps,_,_,rfl,k2',am ⟨aV f,bH f,rfl⟩,rfl,rfl,by exact Sg k4 hl⟩
     refine jn (C3 S V rows [("row",da r),("far",aV f)]) (by rcases k3 with ⟨rfl,_⟩ | ⟨b,_,rfl⟩<;>kernel_rfl) ?_
     have tst:∀{n:Nat} {p p1 p2:dS} (c:Bool),(fs2.any λx=>x==f)=c->tv (fE (k+5)) (n+3) DI (.Compare (.Name "far" p1) [.NotIn] [.Name "fars" p2] p) (C3 S V rows [("row",da r),("far",aV f)]) [.tab,.lst (fs2.map aV)]=some (!c,[.tab,.lst (fs2.map aV)]):=by
      rintro n p p1 p2 c rfl
      refine ja (x:=aV f) (y:=.obj 1) (R1:=[.tab,.lst (fs2.map aV)]) ∅ ∅ ∅ ?_
      show(Nz _ _ _).map not=_
      rw [KL fs2 f _ (.obj 1) rfl (λs q=>nomatch q)];rfl
     cases hc:fs2.any λx=>x==f with
     | true=>exact cW (tst true hc) (aZ (aZ (fin fs2 (by unfold oG;rw [hc];rfl) (by exact Sf))))
     | false=>
      refine fb (tst false hc) (aS _ (R1:=[.tab,.lst ((fs2++[f]).map aV)]) (iw ?_) (aZ (aZ (fin (fs2++[f]) (by unfold oG;rw [hc];rfl) (by rw [ai];exact aF _)))))
      rw [bW]
      exact eN (x:=.obj 1) (as:=[aV f]) (R1:=[.tab,.lst (fs2.map aV)]) (R2:=[.tab,.lst (fs2.map aV)]) ∅ ∅ ∅ (eb (l:=fs2.map aV) rfl rfl (by rw [ae];have:SZ=1000000:=rfl;exact Se g4 k4 this))
   ·rintro σ R ⟨ps,fs2,e,k1,k2,k3,rfl,rfl,k4⟩
    cases ps with
    | cons f ps=>cases k1
    | nil=>
     have k2':fs2=(gj r).foldl oG fs:=k2
     rcases k3 with ⟨_,q⟩ | ⟨b,hb,rfl⟩
     ·exact absurd rfl q
     ·rw [<-k2']at g2
      rw [ci]at k4
      exact aZ ⟨rs,fs2,_,rfl,g2,am ⟨da r,b,lh r,hb,rfl⟩,rfl,rfl,by exact Sd g4 k4⟩
 ·rintro σ R ⟨rs,fs,tl,g1,g2,g3,rfl,rfl,g4⟩
  cases rs with
  | cons r rs=>cases g1
  | nil=>
   have g2':fs=gL rows:=g2
   rcases g3 with ⟨_,h',rs',q⟩ | ⟨a,b,ha,hb,rfl⟩
   ·cases q
   ·exact⟨a,b,ha,hb,by rw [g2']⟩
end
end Mine.W
end
section
namespace Mine.W
section
variable {k:Nat} {S V:PV} {rows:List fk}
theorem Ha{r:fk}(h:jU r=true):(.tup [b4 r,da r]:PV)=pP (zE r):=by
 cases r with
 | leaf r=>cases h
 | node l=>
  show PV.tup [.list (l.map λr=>.str (aI r)),.list (l.map aV)]=PV.tup [.list ((l.map fk.leaf).map b4),.list ((l.map fk.leaf).map da)]
  rw [aG,aG];rfl
theorem Qk{line:LS}{h:List LS}{rest:List fk}(hrows:rows = .leaf h::rest)(hS:noObj S=true)(hVn:noObj V=true)(hV:eh (k+5) 906 [S] V)(hr:eh (k+5) 932 [V,.tup []] (.list (rows.map da)))(hl:eh (k+5) 911 [V] (.str line))(hp:eh (k+5) 918 [.str line,.str [47]] (.list (rows.map b4)))(ht:eh (k+5) 937 [.list (rows.map da)] (.list (rows.map b4)))
  (hne:rows.length<60)(hlen:(rows.flatMap gj).length<50000)(hfar:gL rows≠[])(hown:∀own∈Hb rows,own≠[]/\AA (k+5) (gL rows) own):∃R',nB (fE (k+5)) pw 400 964 [S] [] [.tab]=some (.bool true,R')/\lO R'=true:=by
 refine⟨[.tab,.dead],?_,rfl⟩
 have hSZ:SZ=1000000:=rfl
 refine cN (fi:=⟨bv (aL pw 62),[]⟩) (σ:=[("script",S)]) ∅ ∅ ?_
 refine ch V [("script",S),("vote",V)] (R1:=[.tab]) (eA (g:=906) (as:=[S]) (R1:=[.tab]) ∅ ∅ ∅ ∅ (hV _ rfl)) ∅ ∅ ∅ ?_
 refine ch (.list (rows.map da)) [("script",S),("vote",V),("rows",.list (rows.map da))] (R1:=[.tab]) (eA (g:=932) (as:=[V,.tup []]) (R1:=[.tab]) ∅ ∅ ∅ ∅ (hr _ rfl)) ∅ ∅ ∅ ?_
 refine ch (.list (rows.map b4)) (QP S V (.list (rows.map da)) (.list (rows.map b4)) []) (R1:=[.tab]) (eA (g:=918) (as:=[.str line,.str [47]]) (R1:=[.tab]) ∅ ∅ ∅ (pf (eA (g:=911) (as:=[V]) (R1:=[.tab]) ∅ ∅ ∅ ∅ (hl _ rfl)) ∅) (hp _ rfl)) ∅ ∅ ∅ ?_
 refine cW (R1:=[.tab]) (ja (x:=.list (rows.map b4)) (y:=.list (rows.map b4)) (R1:=[.tab]) ∅ ∅ (eA (g:=937) (as:=[.list (rows.map da)]) (R1:=[.tab]) ∅ ∅ ∅ ∅ (ht _ rfl)) (uE (DH _))) (aZ ?_)
 refine aS (C3 S V rows []) (R1:=[.tab,.lst []]) ∅ ?_
 refine gY (xs:=rows.map da) (σ1:=C3 S V rows []) (R1:=[.tab,.lst []]) (gG ∅ ∅ ∅) ∅ ?_
 obtain⟨z,z1,a,b,ha,hb,rfl⟩:=Hw (k:=k) (S:=S) (V:=V) hrows hlen
 refine⟨_,z1,?_⟩
 show po _ _ _ _ _ _ _
 let d:fk:=.leaf []
 let idx:List Nat:=(cM rows.length).filter λi=>jU (rows.getD i d)
 let I:PV:=.list (idx.map λ(i:Nat)=>PV.int (i:Int))
 have hI:noObj I=true:=bS (f:=λ(i:Nat)=>PV.int (i:Int)) λi ζ=>rfl
 refine ch I (yR S V rows (.obj 1) a b I []) (R1:=[.tab,.lst ((gL rows).map aV)]) (ge ?_ ?_) ∅ ∅ ∅ ?_
 ·refine IG (λ(i:Nat)=>PV.int (i:Int)) (λi=>jU (rows.getD i d)) (R1:=[.tab,.lst ((gL rows).map aV)]) ∅ (wW (Ce (b:=.int (((rows.map da).length:Nat):Int)) ∅ (by rw [ae])) ∅ (by exact Sc hne)) λi hi=>?_
  rw [ix]at hi
  refine⟨[("rows",.list (rows.map da)),("k",.int (i:Int))],∅,mW (nz (b :=!!jU (rows.getD i d)) (Be (Bc (v:=.bool (!jU (rows.getD i d))) ∅ (sF (g:=.builtin "isinstance") (as:=[da (rows.getD i d),.val (.type "tuple")]) ∅ ∅ (pf (R1:=[.tab,.lst ((gL rows).map aV)]) (mi (x:=.list (rows.map da)) (R1:=[.tab,.lst ((gL rows).map aV)]) ∅ ∅ ?_) ∅) ?_) rfl)) (Bool.not_not _)),∅⟩
  ·exact cS (b:=fM (iD (rows.map da) (i:Int)) [.tab,.lst ((gL rows).map aV)]) ∅ (gU (rP rows d da hi))
  ·cases rows.getD i d<;>kernel_rfl
 ·rw [ae]
  exact ah (g9 _ _) (by rw [ia];exact M2 hne hSZ)
 have hidx:∀i∈idx,i<rows.length/\jU (rows.getD i d)=true:=λi hi=>by
  have:=vI.mp hi
  exact⟨ix.mp this.1,this.2⟩
 have hpairs:(idx.map λi=>pP (zE (rows.getD i d)))=((rows.filter jU).map zE).map pP:=by
  rw [<-B5 rows d jU,aG,aG];rfl
 have hlenf:(rows.filter jU).length<60:=bq (g9 _ _) hne
 refine gY (xs:=(Hb rows).map pP) (σ1:=yR S V rows (.obj 1) a b I []) (R1:=[.tab,.lst ((gL rows).map aV)]) (gG (jx (x:=.list [pP rows]) (y:=.list (((rows.filter jU).map zE).map pP)) (R1:=[.tab,.lst ((gL rows).map aV)]) ∅ (ge ?_ ?_) ∅ ?_) ∅ ∅) ∅ ?_
 ·rw [<-hpairs]
  refine xg (λ(i:Nat)=>PV.int (i:Int)) (λi=>pP (zE (rows.getD i d))) (R1:=[.tab,.lst ((gL rows).map aV)]) ∅ (il ∅ ∅) λi hi=>?_
  obtain⟨h1,h2⟩:=hidx i hi
  refine⟨[("places",.list (rows.map b4)),("rows",.list (rows.map da)),("k",.int (i:Int))],∅,?_⟩
  rw [<-Ha h2]
  refine N0 (pf (R1:=[.tab,.lst ((gL rows).map aV)]) (mi (x:=.list (rows.map b4)) (R1:=[.tab,.lst ((gL rows).map aV)]) ∅ ∅ ?_) (mi (x:=.list (rows.map da)) (R1:=[.tab,.lst ((gL rows).map aV)]) ∅ ∅ ?_)) (bw rfl)
  ·exact cS (b:=fM (iD (rows.map b4) (i:Int)) [.tab,.lst ((gL rows).map aV)]) ∅ (gU (rP rows d b4 h1))
  ·exact cS (b:=fM (iD (rows.map da) (i:Int)) [.tab,.lst ((gL rows).map aV)]) ∅ (gU (rP rows d da h1))
 ·rw [ae,ae];exact Sb hSZ hlenf
 ·exact uG (l:=[pP rows]++((rows.filter jU).map zE).map pP) (by rw [ai,ae,ae];show 1+_<=_;exact Sa hSZ hlenf)
 refine ij (λxs σ R=>∃(os:List (List fk)),xs=os.map pP/\(∀o∈os,o≠[]/\AA (k+5) (gL rows) o)/\((σ=yR S V rows (.obj 1) a b I []/\R=([.tab,.lst ((gL rows).map aV)]:List aN)/\os≠[])\/(∃b' own s t,noObj b'=true/\σ=vm S V rows (gL rows) a b' I own [("seen",s),("kept",t)]/\R=([.tab,.dead]:List aN)))) ?_ ?_ _ _ _ ⟨Hb rows,rfl,hown,av ⟨rfl,rfl,λq=>nomatch q⟩⟩
 ·rintro x xs σ R ⟨os,g1,g2,g3⟩
  cases os with
  | nil=>cases g1
  | cons o os=>
   simp only [aK,dG]at g1
   obtain⟨rfl,rfl⟩:=g1
   obtain⟨on,ok⟩:=g2 o aj
   rcases g3 with ⟨rfl,rfl,_⟩ | ⟨b',own,s,t,hb',rfl,rfl⟩
   ·obtain⟨b2,s2,t2,h2,h3⟩:=Dk (k:=k) (S:=S) (V:=V) (rows:=rows) (a:=a) (b:=b) (I:=I) (own:=o) (σ:=(yR S V rows (.obj 1) a b I [("held",.list (o.map b4)),("own",.list (o.map da))])) ok on hfar hS hVn ha hb hI (av ⟨rfl,rfl⟩)
    refine jn (yR S V rows (.obj 1) a b I [("held",.list (o.map b4)),("own",.list (o.map da))]) ∅ (qO h3 ?_)
    rintro _ rfl
    exact⟨os,rfl,λo ho=>g2 o (an _ ho),am ⟨b2,o,s2,t2,h2,rfl,rfl⟩⟩
   ·obtain⟨b2,s2,t2,h2,h3⟩:=Dk (k:=k) (S:=S) (V:=V) (rows:=rows) (a:=a) (b:=b') (I:=I) (own:=o) (σ:=(yR S V rows (yh (gL rows)) a b' I [("held",.list (o.map b4)),("own",.list (o.map da)),("flat",.list ((own.map b7).map aV)),("met",.str (aI (bz (own.map b7)))),("seen",s),("kept",t)])) ok on hfar hS hVn ha hb' hI (am ⟨_,_,_,_,rfl,rfl⟩)
    refine jn (yR S V rows (yh (gL rows)) a b' I [("held",.list (o.map b4)),("own",.list (o.map da)),("flat",.list ((own.map b7).map aV)),("met",.str (aI (bz (own.map b7)))),("seen",s),("kept",t)]) ∅ (qO h3 ?_)
    rintro _ rfl
    exact⟨os,rfl,λo ho=>g2 o (an _ ho),am ⟨b2,o,s2,t2,h2,rfl,rfl⟩⟩
 ·rintro σ R ⟨os,g1,g2,g3⟩
  cases os with
  | cons o os=>cases g1
  | nil=>
   rcases g3 with ⟨_,_,q⟩ | ⟨b',own,s,t,hb',rfl,rfl⟩
   ·exact absurd rfl q
   ·exact cV (.bool true) (R1:=[.tab,.dead]) ∅ ⟨rfl,rfl⟩
end
end Mine.W
end
section
namespace Mine.W
noncomputable def Je(c:LS):Prop:=c≠[]/\c≠[46]/\c≠[46,46]/\47 ∉ c
noncomputable def eV(r:List LS):Prop:=∀c∈r,Je c
theorem wB{s:LS}(h:47 ∉ s):aQ 47 s=[s]:=by
 induction s with
 | nil=>rfl
 | cons c s ih=>
  have h1:c≠47:=λq=>h (q▸aj)
  rw [cy]
  rw [if_neg h1,ih λq=>h (an _ q)]
theorem cy(c:Nat)(s:LS):aQ 47 (c::s)=if c=47 then []::aQ 47 s else match aQ 47 s with | []=>[[c]] | h::t=>(c::h)::t:=rfl
theorem uq(a b:LS):aQ 47 (a++47::b)=aQ 47 a++aQ 47 b:=by
 induction a with
 | nil=>rfl
 | cons c a ih=>
  rw [eQ,cy,cy,ih]
  split
  ·rfl
  ·cases e:aQ 47 a with
   | nil=>exact absurd e (gh 47 a)
   | cons h t=>rfl
theorem n8:∀{r:List LS},r≠[]->eV r->aQ 47 (cj [47] r)=r
 | [],h,_=>absurd rfl h
 | [x],_,h=>wB (h x aj).2.2.2
 | x::y::r,_,h=>by
  show aQ 47 (x++[47]++cj [47] (y::r))=_
  rw [aP,List.singleton_append,uq,wB (h x aj).2.2.2,n8 (r:=y::r) (gC _ _) λc hc=>h c (an _ hc)]
  rfl
set_option tactic.hygienic true in
theorem uo(s:LS):∀c∈aQ 47 s,47 ∉ c:=by
 induction s with
 | nil=>intro c hc;rw [show aQ 47 []=[[]]from rfl,aC]at hc;rw [hc];exact bJ
 | cons x s ih=>
  intro c hc
  rw [cy]at hc
  split at hc
  ·rcases ay.mp hc with rfl | hc
   ·exact bJ
   ·exact ih c hc
  ·rename_i hx
   cases e:aQ 47 s with
   | nil=>exact absurd e (gh 47 s)
   | cons h t=>
    rw [e]at hc ih
    rcases ay.mp hc with rfl | hc
    ·intro q
     rcases ay.mp q with q | q
     ·exact hx q.symm
     ·exact ih h aj q
    ·exact ih c (an _ hc)
theorem zX{c:LS}(h:Je c):(c==[])=false/\(c==[46])=false/\(c==[46,46])=false:=⟨beq_eq_false_iff_ne.mpr h.1,beq_eq_false_iff_ne.mpr h.2.1,beq_eq_false_iff_ne.mpr h.2.2.1⟩
theorem EC{c:LS}(h:Je c)(acc:List LS):cO acc c=acc++[c]:=by
 obtain⟨a,b,d⟩:=zX h
 unfold cO
 rw [a,b,d];rfl
theorem D1:∀{r:List LS} (acc:List LS),eV r->ic acc r=acc++r:=by
 intro r
 induction r with
 | nil=>
  intro acc _
  exact(aM _).symm
 | cons c r ih=>
  intro acc h
  show ic (cO acc c) r=_
  rw [EC (h c aj),ih _ λd hd=>h d (an _ hd),aP];rfl
theorem Gj(acc a b:List LS):ic acc (a++b)=ic (ic acc a) b:=Ga
theorem E7{acc:List LS}{c:LS}(h:eV acc)(hc:47 ∉ c):eV (cO acc c):=by
 unfold cO
 cases e:c==[]||c==[46]with
 | true=>exact h
 | false=>
  cases e3:c==[46,46]with
  | true=>exact λd hd=>h d (List.dropLast_subset _ hd)
  | false=>
   obtain⟨e1,e2⟩:=f9.mp e
   intro d hd
   rcases dk.mp hd with hd | hd
   ·exact h d hd
   ·rw [aC]at hd
    rw [hd]
    exact⟨beq_eq_false_iff_ne.mp e1,beq_eq_false_iff_ne.mp e2,beq_eq_false_iff_ne.mp e3,hc⟩
theorem w7:∀{l acc:List LS},eV acc->(∀c∈l,47 ∉ c)->eV (ic acc l):=by
 intro l
 induction l with
 | nil=>
  intro acc h _
  exact h
 | cons c l ih=>
  intro acc h hl
  exact ih (E7 h (hl c aj)) λd hd=>hl d (an _ hd)
theorem u0:eV []:=λc hc=>nomatch hc
theorem B0{here:List LS}(h:eV here)(w:LS):eV (bl here w):=by
 unfold bl
 cases w.take 1==[47]
 ·exact w7 h (uo w)
 ·exact w7 u0 (uo w)
theorem Ef(acc:List LS)(c:LS):cc (cO acc c)<=cc acc+(c.length+1):=by
 unfold cO
 cases c==[]||c==[46]
 ·cases c==[46,46]
  ·show cc (acc++[c])<=_
   rw [gE,eH];have:cc []=0:=rfl;exact R8 this
  ·show cc acc.dropLast<=_
   have:=gE acc.dropLast (acc.drop (acc.length-1))
   rw [hH,j3]at this
   rw [hH];exact R4 this
 ·show cc acc<=_;exact Q1
theorem wD:∀(l acc:List LS),cc (ic acc l)<=cc acc+cc l:=by
 intro l
 induction l with
 | nil=>
  intro acc
  exact dz _ _
 | cons c l ih=>
  intro acc
  have h1:=ih (cO acc c)
  have h2:=Ef acc c
  show cc (ic (cO acc c) l)<=_
  rw [eH];exact R0 h1 h2
theorem Bp(here:List LS)(w:LS):cc (bl here w)<=cc here+(w.length+1):=by
 have h:=j8 47 w
 unfold bl
 cases w.take 1==[47]
 ·have:=wD (aQ 47 w) here;show cc (ic here _)<=_;exact RZ h this
 ·exact p2 (wD (aQ 47 w) []) rfl (az h)
set_option tactic.hygienic true in
theorem um{r:List LS}(h:eV r):aQ 47 (aI r)=[]::(if r=[]then [[]]else r):=by
 unfold aI
 conv=>lhs;rw [cy]
 rw [if_pos rfl]
 split
 ·rename_i e;rw [e];rfl
 ·rename_i e;rw [n8 e h]
set_option tactic.hygienic true in
theorem mv{r:List LS}(h:eV r):cC (aI r)=r:=by
 unfold cC
 rw [um h]
 split
 ·rename_i e;rw [e];rfl
 ·show(r.filter λc =>!c.isEmpty && !(c==[46]))=r
  rw [iV]
  intro c hc
  have h1:=h c hc
  have h2:=(zX h1).2.1
  rw [h2]
  cases c with
  | nil=>exact absurd rfl h1.1
  | cons=>rfl
theorem ug(r:List LS):(aI r).length<=cc r+1:=by
 have h:=jT [47] r
 have h1:([47]:LS).length=1:=rfl
 rw [h1,gb]at h
 unfold cc
 show(cj [47] r).length+1<=_;exact RY h
noncomputable def sL(w:LS):Prop:=(w=[]\/(∃w',w=46::w') \/ ∃w',w=47::46::w')/\w.length<=10/\iT w
theorem wV{x:LS}{r:List LS}:∃t,cj [47] (x::r)=x++t:=by
 cases r with
 | nil=>exact⟨[],(aM x).symm⟩
 | cons y r=>exact⟨[47]++cj [47] (y::r),by show x++[47]++_=_;rw [aP]⟩
theorem wU:∀{r:List LS},r≠[]->eV r->∃a c,cj [47] r=a++[c]/\c≠47
 | [],h,_=>absurd rfl h
 | [x],_,h=>by
  have hx:=h x aj
  rcases oM x with rfl | ⟨a,c,e⟩
  ·exact absurd rfl hx.1
  ·rw [A5]at e
   exact⟨a,c,e,λq=>hx.2.2.2 (by rw [e,q];exact cf _ (aC.mpr rfl))⟩
 | x::y::r,_,h=>by
  obtain⟨a,c,e,hc⟩:=wU (r:=y::r) (gC _ _) λd hd=>h d (an _ hd)
  exact⟨x++[47]++a,c,by show x++[47]++cj [47] (y::r)=_;rw [e,aP (x++[47])],hc⟩
theorem Ou{a b:LS}(h:a≠[]):(a++b).take 1=a.take 1:=by
 cases a with
 | nil=>exact absurd rfl h
 | cons c a=>rfl
theorem qQ{here:List LS}{w:LS}(h:eV here)(hw:sL w)(hs:cc here<=1000):pq here w:=by
 obtain⟨h1,h2,_⟩:=hw
 have ht:=ug here
 have rel:(w=[] \/ ∃w',w=46::w')->pq here w:=by
  intro hr
  have hw1:(w.take 1==[47])=false:=by rcases hr with rfl | ⟨w',rfl⟩<;>rfl
  have hn:bl here w=ic here (aQ 47 w):=by unfold bl;rw [hw1];rfl
  by_cases e:here=[]
  ·subst e
   exact⟨w,am ⟨⟨hr,av ⟨rfl,rfl⟩⟩,by show 1+_<_;exact RW h2⟩,hw1,by exact RU h2,hn.symm⟩
  ·obtain⟨a,c,hj,hc⟩:=wU e h
   refine⟨cj [47] here++47::w,am ⟨⟨hr,am ⟨cj [47] here,rfl,?_,rfl⟩⟩,by exact RT hs h2 ht⟩,?_,?_,?_⟩
   ·unfold It aI
    rw [hj,<-eQ]
    have:((47::a++[c]).length-1)=(47::a).length:=by rw [ai];rfl
    rw [this,List.drop_left]
    show([c]==[47])=false
    rw [beq_eq_false_iff_ne]
    intro q
    exact hc (jJ q).1
   ·cases here with
    | nil=>exact absurd rfl e
    | cons x r=>
     obtain⟨t,ht⟩:=wV (x:=x) (r:=r)
     have hx:=h x aj
     rw [ht,aP,Ou hx.1]
     cases x with
     | nil=>exact absurd rfl hx.1
     | cons d x=>
      show([d]==[47])=false
      rw [beq_eq_false_iff_ne]
      intro q
      exact hx.2.2.2 (by rw [(jJ q).1];exact aj)
   ·rw [ai,ao]
    have:(aI here).length=(cj [47] here).length+1:=rfl
    exact RS hs h2 ht this
   ·rw [uq,n8 e h,Gj,D1 [] h,ew,hn]
 rcases h1 with h1 | h1 | ⟨w',rfl⟩
 ·exact rel (av h1)
 ·exact rel (am h1)
 ·refine⟨46::w',av ⟨_,rfl,rfl⟩,rfl,by rw [ao]at h2;exact RQ h2,?_⟩
  show _=ic [] (aQ 47 (47::46::w'))
  conv=>rhs;rw [cy]
  rw [if_pos rfl]
  rfl
end Mine.W
end
section
namespace Mine.W
section
variable {α:Type} [LT α]
structure Mn(α:Type) [LT α]:Prop where
 irr:∀x:α,¬x<x
 trans:∀x y z:α,x<y->y<z->x<z
 tri:∀x y:α,¬x<y->¬y<x->x=y
theorem Kj:Mn Nat:=⟨eZ,λζ ζ ζ=>bR,λx y h1 h2=>by exact RP h1 h2⟩
theorem zG(h:Mn α):Mn (List α) where
 irr:=λl=>by
  induction l with
  | nil=>exact nV []
  | cons x l ih=>
   rw [dL]
   rintro (q | ⟨_,q⟩)
   ·exact h.irr x q
   ·exact ih q
 trans:=λl=>by
  induction l with
  | nil=>
   intro m n h1 h2
   cases n with
   | nil=>exact absurd h2 (nV m)
   | cons z n=>exact nn z n
  | cons x l ih=>
   intro m n h1 h2
   cases m with
   | nil=>exact absurd h1 (nV _)
   | cons y m=>
    cases n with
    | nil=>exact absurd h2 (nV _)
    | cons z n=>
     rw [dL]at h1 h2 ⊢
     rcases h1 with h1 | ⟨rfl,h1⟩
     ·rcases h2 with h2 | ⟨rfl,h2⟩
      ·exact av (h.trans _ _ _ h1 h2)
      ·exact av h1
     ·rcases h2 with h2 | ⟨rfl,h2⟩
      ·exact av h2
      ·exact am ⟨rfl,ih _ _ h1 h2⟩
 tri:=λl=>by
  induction l with
  | nil=>
   intro m h1 h2
   cases m with
   | nil=>rfl
   | cons y m=>exact absurd (nn y m) h1
  | cons x l ih=>
   intro m h1 h2
   cases m with
   | nil=>exact absurd (nn x l) h2
   | cons y m=>
    rw [dL]at h1 h2
    have e:=h.tri x y (λq=>h1 (av q)) λq=>h2 (av q)
    subst e
    rw [ih m (λq=>h1 (am ⟨rfl,q⟩)) λq=>h2 (am ⟨rfl,q⟩)]
theorem zw(h:Mn α):∀(p a b r:List α),p <+: a->p <+: b->¬r<a->¬b<r->p <+: r:=by
 intro p
 induction p with
 | nil=>
  intro a b r _ _ _ _
  exact eu
 | cons x p ih=>
  intro a b r ha hb h1 h2
  obtain⟨a',rfl⟩:=ha
  obtain⟨b',rfl⟩:=hb
  cases r with
  | nil=>exact absurd (nn _ _) h1
  | cons y r=>
   rw [eQ,dL]at h1 h2
   have e:=h.tri x y (λq=>h2 (av q)) λq=>h1 (av q)
   subst e
   rw [dK]
   exact⟨rfl,ih _ _ r (jj p a') (jj p b') (λq=>h1 (am ⟨rfl,q⟩)) λq=>h2 (am ⟨rfl,q⟩)⟩
end
theorem rQ:Mn LS:=zG Kj
theorem mx:Mn (List LS):=zG rQ
theorem Fd{α:Type}{bt:α->α->Bool}(hi:∀x,bt x x=false)(H:∀x y b,bt y b=true->bt x b=false->bt x y=false):∀(l:List α) (b:α) (S:α->Prop),(∀x,S x->bt x b=false)->bt b b=false->(l.foldl (λb y=>if bt y b then y else b) b=b\/l.foldl (λb y=>if bt y b then y else b) b∈l)/\(∀x,S x\/x=b\/x∈l->bt x (l.foldl (λb y=>if bt y b then y else b) b)=false):=by
 intro l
 induction l with
 | nil=>
  intro b S h hb
  exact⟨av rfl,λx q=>q.elim (h x) λq=>q.elim (λe=>e▸hb) λq=>nomatch q⟩
 | cons y l ih=>
  intro b S h hb
  rw [kN]
  by_cases e:bt y b=true
  ·rw [if_pos e]
   obtain⟨h1,h2⟩:=ih y (λx=>S x\/x=b) (λx q=>by
    rcases q with q | rfl
    ·exact H _ _ _ e (h x q)
    ·exact H _ _ _ e hb) (hi y)
   refine⟨am (h1.elim (λq=>by rw [q];exact aj) (an _)),λx q=>h2 x ?_⟩
   rcases q with q | q | q
   ·exact av (av q)
   ·exact av (am q)
   ·rcases ay.mp q with q | q
    ·exact am (av q)
    ·exact am (am q)
  ·rw [if_neg e]
   obtain⟨h1,h2⟩:=ih b (λx=>S x\/x=y) (λx q=>by
    rcases q with q | rfl
    ·exact h x q
    ·exact fj.mpr e) hb
   refine⟨h1.imp id (an _),λx q=>h2 x ?_⟩
   rcases q with q | q | q
   ·exact av (av q)
   ·exact am (av q)
   ·rcases ay.mp q with q | q
    ·exact av (am q)
    ·exact am (am q)
theorem r9{α:Type}{bt:α->α->Bool}(hi:∀x,bt x x=false)(H:∀x y b,bt y b=true->bt x b=false->bt x y=false){l:List α}(hl:l≠[])(d:α):(iJ bt l).getD d∈l /\ ∀x∈l,bt x ((iJ bt l).getD d)=false:=by
 cases l with
 | nil=>exact absurd rfl hl
 | cons x l=>
  obtain⟨h1,h2⟩:=Fd hi H l x (λζ=>False) (λζ q=>q.elim) (hi x)
  refine⟨h1.elim (λq=>?_) (an _),λy hy=>h2 y (am (ay.mp hy))⟩
  show l.foldl _ x∈_
  rw [q]
  exact aj
theorem qV{l:List (List LS)}(h:l≠[]):v6 l∈l /\ ∀x∈l,¬x<v6 l:=by
 have:=r9 (bt:=λa b:List LS=>decide (a<b)) (λx=>decide_eq_false (mx.irr x)) (λx y b h1 h2=>decide_eq_false λq=>of_decide_eq_false h2 (mx.trans _ _ _ q (of_decide_eq_true h1))) h []
 exact⟨this.1,λx hx=>of_decide_eq_false (this.2 x hx)⟩
theorem uI{l:List (List LS)}(h:l≠[]):zJ l∈l /\ ∀x∈l,¬zJ l<x:=by
 have:=r9 (bt:=λa b:List LS=>decide (b<a)) (λx=>decide_eq_false (mx.irr x)) (λx y b h1 h2=>decide_eq_false λq=>of_decide_eq_false h2 (mx.trans _ _ _ (of_decide_eq_true h1) q)) h []
 exact⟨this.1,λx hx=>of_decide_eq_false (this.2 x hx)⟩
theorem qX{α:Type}{l:List (List α)}(h:l≠[]):(kK l).getD []∈l /\ ∀x∈l,x.length<=((kK l).getD []).length:=by
 have:=r9 (bt:=λa b:List α=>decide (b.length<a.length)) (λx=>decide_eq_false (eZ _)) (λx y b h1 h2=>decide_eq_false λq=>of_decide_eq_false h2 (bR (of_decide_eq_true h1) q)) h []
 exact⟨this.1,λx hx=>b9 (of_decide_eq_false (this.2 x hx))⟩
theorem rk:∀a b:List LS,ip a b <+: a
 | [],b=>by rw [show ip [] b=[]from rfl];exact eu
 | x::a,[]=>eu
 | x::a,y::b=>by
  show(if x=y then x::ip a b else []) <+: _
  split
  ·exact dK.mpr ⟨rfl,rk a b⟩
  ·exact eu
set_option tactic.hygienic true in
theorem ph:∀a b:List LS,ip a b <+: b
 | [],b=>by rw [show ip [] b=[]from rfl];exact eu
 | x::a,[]=>eu
 | x::a,y::b=>by
  show(if x=y then x::ip a b else []) <+: _
  split
  ·rename_i e;exact dK.mpr ⟨e,ph a b⟩
  ·exact eu
theorem tS:∀p a b:List LS,p <+: a->p <+: b->p <+: ip a b
 | [],a,b,_,_=>eu
 | x::p,a,b,ha,hb=>by
  obtain⟨a',rfl⟩:=ha
  obtain⟨b',rfl⟩:=hb
  show _ <+: (if x=x then x::ip (p++a') (p++b')else [])
  rw [if_pos rfl]
  exact dK.mpr ⟨rfl,tS p _ _ (jj p a') (jj p b')⟩
noncomputable def IA(rows:List (List LS)):List LS:=ip (v6 rows) (zJ rows)
theorem Ch{rows:List (List LS)}{r:List LS}(hr:r∈rows):IA rows <+: r:=by
 have h:rows≠[]:=λq=>by rw [q]at hr;cases hr
 exact zw rQ _ _ _ r (rk _ _) (ph _ _) ((qV h).2 r hr) ((uI h).2 r hr)
theorem Iz{rows:List (List LS)}{q:List LS}(h:rows≠[])(hq:∀r∈rows,q <+: r):q <+: IA rows:=
 tS _ _ _ (hq _ (qV h).1) (hq _ (uI h).1)
theorem md{rows:List (List LS)}(h:∀r∈rows,eV r):(rows.map aI).map cC=rows:=by
 rw [aG]
 exact(bf λr hr=>mv (h r hr)).trans (fZ rows)
theorem DJ{rows:List (List LS)}(h:∀r∈rows,eV r):tR (rows.map aI)=aI (IA rows):=by
 unfold tR
 rw [md h];rfl
theorem r7{rows:List (List LS)}(hn:rows≠[])(hl:rows.length<1000)(h:∀r∈rows,eV r/\cc r<=900):mG (rows.map aI):=by
 refine⟨λq=>hn (bP.mp q),by rw [ae];exact hl,λs hs=>?_,?_,?_⟩
 ·obtain⟨r,hr,rfl⟩:=aH.mp hs
  exact⟨ah (ug r) (ah (cT (h r hr).2) (by decide)),_,rfl⟩
 ·rw [md λr hr=>(h r hr).1]
  exact(qV hn).2 _ (uI hn).1
 ·rw [md λr hr=>(h r hr).1]
  have:=(h _ (qV hn).1).2
  exact RO this
theorem uZ{p r:List LS}(h:p <+: r)(hr:eV r):eV p:=λc hc=>hr c (h.subset hc)
end Mine.W
end
section
namespace Mine.W
noncomputable def ln(p r:List LS):Bool:=r.take p.length==p
theorem fO{p r:List LS}:ln p r=true↔p <+: r:=by
 unfold ln
 rw [beq_iff_eq,y0]
 exact eq_comm
noncomputable def yS(L:List (List LS))(p:List LS):Nat:=(L.filter (ln p)).length
theorem xf{L:List (List LS)}{far:List LS}{k:Nat}(h:k<=far.length):rm L far k=yS L (far.take k):=by
 unfold rm yS ln
 rw [cB,Nat.min_eq_left h]
theorem IF{L:List (List LS)}{p q:List LS}(h:q <+: p):yS L p<=yS L q:=by
 unfold yS
 induction L with
 | nil=>exact aF _
 | cons r L ih=>
  rw [d3,d3]
  by_cases e:ln p r=true
  ·rw [if_pos e,if_pos (fO.mpr (h.trans (fO.mp e)))]
   exact cT ih
  ·rw [if_neg e]
   split
   ·exact jO ih
   ·exact ih
theorem MP{α:Type}(P Q:α->Bool):∀(L:List α),L.length<(L.filter P).length+(L.filter Q).length->∃r∈L,P r=true/\Q r=true:=by
 intro L
 induction L with
 | nil=>
  intro h
  exact absurd h (eZ 0)
 | cons r L ih=>
  intro h
  rw [d3,d3,ao]at h
  by_cases e1:P r=true
  ·by_cases e2:Q r=true
   ·exact⟨r,aj,e1,e2⟩
   ·rw [if_pos e1,if_neg e2,ao]at h
    obtain⟨s,hs,h3⟩:=ih (by exact RN h)
    exact⟨s,an _ hs,h3⟩
  ·have:(L.filter P).length+(if Q r=true then r::L.filter Q else L.filter Q).length<=(L.filter P).length+((L.filter Q).length+1):=by split<;>simp
   rw [if_neg e1]at h
   obtain⟨s,hs,h3⟩:=ih (by exact RM h this)
   exact⟨s,an _ hs,h3⟩
theorem xP{p q r:List LS}(h1:p <+: r)(h2:q <+: r):p <+: q\/q <+: p:=List.prefix_or_prefix_of_prefix h1 h2
theorem Ks{L:List (List LS)}{p q:List LS}(h1:L.length / 2+1<=yS L p)(h2:L.length / 2+1<=yS L q):p <+: q\/q <+: p:=by
 obtain⟨r,_,h3,h4⟩:=MP (ln p) (ln q) L (by unfold yS at h1 h2;exact RL h1 h2)
 exact xP (fO.mp h3) (fO.mp h4)
theorem sD{L:List (List LS)}{far:List LS}{m:Nat}(hm:m<=L.length):∀j,gk L far m j<=j/\m<=rm L far (gk L far m j) /\ ∀i,gk L far m j<i->i<=j->rm L far i<m
 | 0=>by
  refine⟨aF 0,?_,λi h1 h2=>by have:gk L far m 0=0:=rfl;exact RJ h1 h2⟩
  show m<=rm L far 0
  unfold rm
  rw [iV.mpr λr ζ=>by rw [jF,jF];rfl]
  exact hm
 | j+1=>by
  by_cases hc:rm L far (j+1)<m
  ·have e:gk L far m (j+1)=gk L far m j:=if_pos hc
   obtain⟨h1,h2,h3⟩:=sD hm j
   rw [e]
   refine⟨jO h1,h2,λi g1 g2=>?_⟩
   by_cases hi:i=j+1
   ·rw [hi];exact hc
   ·exact h3 i g1 (by exact RI g2 hi)
  ·have e:gk L far m (j+1)=j+1:=if_neg hc
   rw [e]
   exact⟨aF _,b9 hc,λi g1 g2=>by exact RH g1 g2⟩
theorem lq{L:List (List LS)}{far:List LS}{m:Nat}(hm:m<=L.length):dZ L far m <+: far/\m<=yS L (dZ L far m) /\ ∀q,q <+: far->m<=yS L q->q <+: dZ L far m:=by
 obtain⟨h1,h2,h3⟩:=sD (far:=far) hm far.length
 refine⟨List.take_prefix _ _,by rw [xf h1]at h2;exact h2,λq hq hc=>?_⟩
 have hql:=hq.length_le
 have e:=y0.mp hq
 have hle:q.length<=gk L far m far.length:=by
  rcases eY (gk L far m far.length) q.length with g | g
  ·have:=h3 q.length g hql
   rw [xf hql,<-e]at this
   exact RG hc this
  ·exact g
 rw [e]
 exact List.take_prefix_take_left hle
theorem qf{L:List (List LS)}(hn:L≠[]):L.length / 2+1<=yS L (bz L)/\(∀q,L.length / 2+1<=yS L q->q <+: bz L) /\ ∃r∈L,bz L <+: r:=by
 have hpos:0<L.length:=b6.mpr hn
 have hm:L.length / 2+1<=L.length:=by exact OZ hpos
 have hne:(L.map λr=>dZ L r (L.length / 2+1))≠[]:=λq=>hn (bP.mp q)
 obtain⟨h1,h2⟩:=qX hne
 obtain⟨r,hr,e⟩:=aH.mp h1
 have hv:bz L=dZ L r (L.length / 2+1):=e.symm
 have hc:L.length / 2+1<=yS L (bz L):=by rw [hv];exact(lq hm).2.1
 refine⟨hc,λq hq=>?_,r,hr,by rw [hv];exact(lq hm).1⟩
 have hf:(L.filter (ln q))≠[]:=λe=>by unfold yS at hq;rw [e]at hq;exact absurd hq (pZ _)
 obtain⟨s,hs⟩:=ml _ hf
 obtain⟨hs1,hs2⟩:=vI.mp hs
 obtain⟨g1,g2,g3⟩:=lq (L:=L) (far:=s) hm
 have g4:=g3 q (fO.mp hs2) hq
 have g5:(dZ L s (L.length / 2+1)).length<=(bz L).length:=h2 _ (aH.mpr ⟨s,hs1,rfl⟩)
 rcases Ks g2 hc with g | g
 ·exact g4.trans g
 ·rw [g.eq_of_length_le g5];exact g4
theorem Bb{L:List (List LS)}(hn:L≠[]){P:List LS->Prop}(hP:∀p r,p <+: r->P r->P p)(h:∀r∈L,P r):P (bz L):=by
 obtain⟨_,_,r,hr,h1⟩:=qf hn
 exact hP _ _ h1 (h r hr)
theorem zZ{L:List (List LS)}(hn:L≠[])(far:List LS):dZ L far (L.length / 2+1)=ip (bz L) far:=by
 have hpos:0<L.length:=b6.mpr hn
 obtain⟨g1,g2,g3⟩:=lq (L:=L) (far:=far) (m:=L.length / 2+1) (by exact OZ hpos)
 obtain⟨v1,v2,_⟩:=qf hn
 have h1:dZ L far (L.length / 2+1) <+: ip (bz L) far:=tS _ _ _ (v2 _ g2) g1
 have h2:ip (bz L) far <+: dZ L far (L.length / 2+1):=g3 _ (ph _ _) (ah v1 (IF (rk _ _)))
 exact h1.eq_of_length_le h2.length_le
end Mine.W
end
section
namespace Mine.W
theorem rT:∀{r:List LS},r≠[]->(cj [47] r).length+1=cc r
 | [],h=>absurd rfl h
 | [x],_=>by rw [eH];rfl
 | x::y::r,_=>by
  have ih:=rT (r:=y::r) (gC _ _)
  rw [eH,<-ih]
  show(x++[47]++cj [47] (y::r)).length+1=_
  rw [ai,ai]
  show x.length+1+_+1=_
  exact RF
theorem C0{p V:List LS}(h:p <+: V)(hne:p≠V)(hV:eV V):(aI p).length<(aI V).length:=by
 obtain⟨t,rfl⟩:=h
 cases t with
 | nil=>exact absurd (aM p).symm hne
 | cons c t=>
  have hc:=hV c (cf _ aj)
  have hc0:0<c.length:=b6.mpr hc.1
  have hs:cc (p++c::t)=cc p+(c.length+1+cc t):=by rw [gE,eH]
  have h1:=rT (r:=p++c::t) (λq=>by have:=congrArg bY q;rw [ai,ao]at this;exact absurd this (by simp))
  show(cj [47] p).length+1<(cj [47] (p++c::t)).length+1
  rw [h1,hs]
  by_cases hp:p=[]
  ·rw [hp];show 0+1<_;exact RE hc0
  ·rw [rT hp];exact RD
theorem su{α:Type}(P:α->Bool):∀(u:List α) (m:Nat),m<=(u.filter P).length->(∀A b C,u=A++b::C->(∃c∈C,P c=true)->P b=true)->m<=u.length /\ ∀y∈u.take m,P y=true
 | u,0,_,_=>⟨bp _,λy hy=>by rw [jF]at hy;cases hy⟩
 | [],m+1,h,_=>absurd h (pZ m)
 | y::u,m+1,h,hc=>by
  have hy:P y=true:=by
   by_cases e:∃c∈u,P c=true
   ·exact hc [] y u rfl e
   ·have:u.filter P=[]:=by rw [AI];exact λc hcm q=>e ⟨c,hcm,q⟩
    rw [d3,this]at h
    by_cases hy:P y=true
    ·exact hy
    ·rw [if_neg hy]at h;exact absurd h (pZ m)
  rw [d3,if_pos hy,ao]at h
  obtain⟨h1,h2⟩:=su P u m (Nat.le_of_succ_le_succ h) λA b C e=>hc (y::A) b C (by rw [e];rfl)
  refine⟨cT h1,λz hz=>?_⟩
  rw [qx]at hz
  rcases ay.mp hz with rfl | hz
  ·exact hy
  ·exact h2 z hz
theorem MN{α:Type}(P:α->Bool){m:Nat}(hm:0<m):∀(t:List α),m<=(t.filter P).length->(∀A b C,t=A++b::C->(∃a∈A,P a=true)->(∃c∈C,P c=true)->P b=true)->∃a,a+m<=t.length /\ ∀y∈(t.drop a).take m,P y=true:=by
 intro t
 induction t with
 | nil=>
  intro h _
  exact absurd h (by show ¬m<=0;exact RC hm)
 | cons x t ih=>
  intro h hc
  by_cases hx:P x=true
  ·obtain⟨h1,h2⟩:=su P (x::t) m h λA b C e hC=>by
    cases A with
    | nil=>cases e;exact hx
    | cons a A=>cases e;exact hc (x::A) b C rfl ⟨x,aj,hx⟩ hC
   exact⟨0,by exact RB h1,h2⟩
  ·rw [d3,if_neg hx]at h
   obtain⟨a,h1,h2⟩:=ih h λA b C e ⟨a,ha,ha'⟩=>hc (x::A) b C (by rw [e];rfl) ⟨a,an _ ha,ha'⟩
   exact⟨a+1,by rw [ao];exact RA h1,h2⟩
theorem mV{α:Type}{t:List α}{m j:Nat}(hm:0<m)(x:α):x∈(t.take (j+m)).drop (j+1)++(t.take (j+1)).drop j↔x∈(t.drop j).take m:=by
 have e1:(t.take (j+m)).drop (j+1)=((t.drop j).drop 1).take (m-1):=by
  rw [pI,LM]
  congr 1
  exact Rz
 have e2:(t.take (j+1)).drop j=(t.drop j).take 1:=by rw [pI];congr 1;exact Pj
 rw [e1,e2]
 cases h:t.drop j with
 | nil=>simp
 | cons y r=>
  obtain⟨m',rfl⟩:∃m',m=m'+1:=⟨m-1,by exact Ry hm⟩
  rw [qx,List.drop_succ_cons,jI,F8]
  simp only [qx,jF,dk,ay,bJ,or_false]
  exact or_comm
noncomputable def Oj(a b:LS):Bool :=!decide (aQ 47 b<aQ 47 a)
theorem nb{a b:LS}:Oj a b=true ↔ ¬aQ 47 b<aQ 47 a:=by
 unfold Oj
 rw [cG,decide_eq_false_iff_not]
theorem ut(ss:List LS):(nq ss).Perm ss:=gw ss Oj
theorem uB{α:Type} [LT α](h:Mn α){x y z:α}(h1:¬y<x)(h2:¬z<y):¬z<x:=λq=>by
 by_cases e:x<y
 ·exact h2 (h.trans _ _ _ q e)
 ·rw [h.tri x y e h1]at q
  exact h2 q
theorem wH{α:Type} [LT α](h:Mn α){x y:α}:¬y<x \/ ¬x<y:=by
 by_cases e:y<x
 ·exact am λq=>h.irr _ (h.trans _ _ _ e q)
 ·exact av e
theorem xK(ss:List LS):(nq ss).Pairwise λa b=>Oj a b=true:=by
 refine jl (le:=Oj) (λa b c h1 h2=>nb.mpr (uB mx (nb.mp h1) (nb.mp h2))) (λa b=>?_) ss
 rw [fT]
 exact(wH mx).imp nb.mpr nb.mpr
theorem rS{L:List (List LS)}(hn:L≠[])(hg:∀r∈L,eV r):v7 (L.map aI)=aI (bz L):=by
 obtain⟨v1,v2,r0,hr0,v3⟩:=qf hn
 have hpos:0<L.length:=b6.mpr hn
 have hVg:eV (bz L):=uZ v3 (hg r0 hr0)
 obtain⟨t,ht⟩:∃t,t=nq (L.map aI):=⟨_,rfl⟩
 have hperm:t.Perm (L.map aI):=ht▸ut _
 have hsort:t.Pairwise λa b=>Oj a b=true:=ht▸xK _
 have htl:t.length=L.length:=by rw [hperm.length_eq,ae]
 have hrow:∀s∈t,eV (cC s)/\aI (cC s)=s:=λs hs=>by
  obtain⟨r,hr,rfl⟩:=aH.mp (hperm.mem_iff.mp hs)
  rw [mv (hg r hr)]
  exact⟨hg r hr,rfl⟩
 have hcnt:∀p,(t.filter λs=>ln p (cC s)).length=yS L p:=λp=>by
  have h1:=(hperm.filter λs=>ln p (cC s)).length_eq
  rw [h1]
  unfold yS
  rw [vK,ae]
  congr 1
  exact sk λr hr=>by show ln p (cC (aI r))=_;rw [mv (hg r hr)]
 obtain⟨m,hm⟩:∃m,m=L.length / 2+1:=⟨_,rfl⟩
 have hm0:0<m:=by exact OY hm
 have hmn:m<=L.length:=by exact Rx hpos hm
 have wtext:∀j,(iO t m j)=((iO t m j).map cC).map aI:=λj=>by
  rw [aG]
  refine((bf λs hs=>?_).trans (fZ _)).symm
  have:s∈(t.drop j).take m:=(mV hm0 s).mp hs
  exact(hrow s (iz (iy this))).2
 have wgood:∀j,∀r∈(iO t m j).map cC,eV r:=λj r hr=>by
  obtain⟨s,hs,rfl⟩:=aH.mp hr
  have:s∈(t.drop j).take m:=(mV hm0 s).mp hs
  exact(hrow s (iz (iy this))).1
 have wcp:∀j,tR (iO t m j)=aI (IA ((iO t m j).map cC)):=λj=>by
  conv=>lhs;rw [wtext j]
  exact DJ (wgood j)
 have wpre:∀j,j+m<=L.length->IA ((iO t m j).map cC) <+: bz L:=λj hj=>by
  refine v2 _ ?_
  rw [<-hm,<-hcnt]
  have hall:∀s∈(t.drop j).take m,ln (IA ((iO t m j).map cC)) (cC s)=true:=λs hs=>fO.mpr (Ch (aH.mpr ⟨s,(mV hm0 s).mpr hs,rfl⟩))
  have hsub:((t.drop j).take m).Sublist t:=(List.take_sublist _ _).trans (Gb _ _)
  have:=(hsub.filter λs=>ln (IA ((iO t m j).map cC)) (cC s)).length_le
  rw [iV.mpr hall,cB,cR,htl]at this
  exact Rw hj this
 obtain⟨a,ha1,ha2⟩:∃a,a+m<=t.length /\ ∀s∈(t.drop a).take m,ln (bz L) (cC s)=true:=by
  by_cases hV:bz L=[]
  ·exact⟨0,by exact Rv htl hmn,λs ζ=>by rw [hV,fO];exact eu⟩
  ·refine MN (λs=>ln (bz L) (cC s)) hm0 t (by rw [hcnt,hm];exact v1) λA b C e ⟨x,hx,hx'⟩ ⟨y,hy,hy'⟩=>?_
   rw [e]at hsort
   obtain⟨_,s2,s3⟩:=CT.mp hsort
   have s4:=s3 x hx b aj
   have s5:=(lH.mp s2).1 y hy
   have tb:b∈t:=by rw [e];exact cf _ aj
   have tx:x∈t:=by rw [e];exact fY _ hx
   have ty:y∈t:=by rw [e];exact cf _ (an _ hy)
   have sp:∀s∈t,aQ 47 s=[]::(if cC s=[]then [[]]else cC s):=λs hs=>by
    have:=um (hrow s hs).1
    rwa [(hrow s hs).2]at this
   have lift:∀s∈t,ln (bz L) (cC s)=true->[]::bz L <+: aQ 47 s:=λs hs h=>by
    have hp:=fO.mp h
    rw [sp s hs,if_neg (λq=>by rw [q]at hp;exact hV (List.prefix_nil.mp hp))]
    exact dK.mpr ⟨rfl,hp⟩
   have:=zw rQ _ _ _ (aQ 47 b) (lift x tx hx') (lift y ty hy') (nb.mp s4) (nb.mp s5)
   rw [sp b tb]at this
   have h2:=(dK.mp this).2
   rw [fO]
   split at h2
   ·cases hv:bz L with
    | nil=>exact absurd hv hV
    | cons c V=>
     rw [hv]at h2
     have:=(dK.mp h2).1
     exact absurd this (hVg c (by rw [hv];exact aj)).1
   ·exact h2
 have hcpa:IA ((iO t m a).map cC)=bz L:=by
  have h1:=wpre a (by exact Ru htl ha1)
  have h2:bz L <+: IA ((iO t m a).map cC):=by
   refine Iz ?_ λr hr=>?_
   ·intro q
    have q':iO t m a=[]:=bP.mp q
    have h3:(t.drop a).take m≠[]:=λq=>by
     have:=congrArg bY q
     rw [cB,cR,ci]at this
     exact Rt hm0 ha1 this
    obtain⟨s,hs⟩:=ml _ h3
    have:=(mV hm0 s).mpr hs
    unfold iO at q'
    rw [q']at this
    cases this
   ·obtain⟨s,hs,rfl⟩:=aH.mp hr
    exact fO.mp (ha2 s ((mV hm0 s).mp hs))
  exact h1.eq_of_length_le h2.length_le
 have hmet:v7 (L.map aI)=(kK ((cM (L.length-m+1)).map λk=>tR (iO t m k))).getD []:=by unfold v7;rw [ae,<-hm,<-ht]
 have hne:((cM (L.length-m+1)).map λk=>tR (iO t m k))≠[]:=λq=>by
  have:=congrArg bY q
  rw [ae,ia,ci]at this
  exact Pd this
 obtain⟨l1,l2⟩:=qX hne
 rw [<-hmet]at l1 l2
 obtain⟨j,hj,e⟩:=aH.mp l1
 rw [ix]at hj
 have h3:=l2 _ (aH.mpr ⟨a,ix.mpr (by exact Rr htl ha1),rfl⟩)
 rw [wcp a,hcpa,<-e,wcp j]at h3
 rw [<-e,wcp j]
 by_cases hq:IA ((iO t m j).map cC)=bz L
 ·rw [hq]
 ·exact absurd (C0 (wpre j (by exact Rq hmn hj)) hq hVg) (by exact Px h3)
end Mine.W
end
section
namespace Mine.W
theorem EM{α:Type} [LT α]:∀(d:List α) (c:α) (r:List α),d<d++c::r:=by
 intro d
 induction d with
 | nil=>
  intro c r
  exact List.Lex.nil
 | cons z d ih=>
  intro c r
  exact List.Lex.cons (ih c r)
theorem zT:∀{p q:List LS},p <+: q->cj [47] p <+: cj [47] q
 | [],q,_=>eu
 | [x],q,h=>by
  obtain⟨t,rfl⟩:=h
  obtain⟨u,hu⟩:=wV (x:=x) (r:=t)
  exact⟨u,hu.symm⟩
 | x::y::p,q,h=>by
  obtain⟨t,rfl⟩:=h
  show x++[47]++cj [47] (y::p) <+: x++[47]++cj [47] (y::p++t)
  exact(List.prefix_append_right_inj _).mpr (zT (jj _ t))
theorem zj{p q:List LS}(h:p <+: q)(hne:p≠q)(hq:eV q):aI p<aI q:=by
 have h1:aI p <+: aI q:=dK.mpr ⟨rfl,zT h⟩
 have h2:=C0 h hne hq
 obtain⟨t,ht⟩:=h1
 cases t with
 | nil=>rw [<-ht,aM]at h2;exact absurd h2 (eZ _)
 | cons c t=>rw [<-ht];exact EM _ c t
noncomputable abbrev wS(r far:List LS):List LS:=IA [r,far]
theorem Dj(r far:List LS):wS r far <+: r:=Ch aj
theorem uU(r far:List LS):wS r far <+: far:=Ch (an _ aj)
theorem Ht{q r far:List LS}(h1:q <+: r)(h2:q <+: far):q <+: wS r far:=Iz (λq=>nomatch q) λs hs=>by
 rcases ay.mp hs with rfl | hs
 ·exact h1
 ·rw [aC]at hs;rw [hs];exact h2
theorem Nk(r far:List LS):ip r far=wS r far:=
 (Ht (rk _ _) (ph _ _)).eq_of_length_le (tS _ _ _ (Dj r far) (uU r far)).length_le
noncomputable def Oi(a b:LS):Bool :=!decide (b<a)
theorem na{a b:LS}:Oi a b=true ↔ ¬b<a:=by
 unfold Oi
 rw [cG,decide_eq_false_iff_not]
theorem Bm(ss:List LS):(ga ss).Perm ss:=gw ss Oi
theorem xJ(ss:List LS):(ga ss).Pairwise λa b=>Oi a b=true:=by
 refine jl (le:=Oi) (λa b c h1 h2=>na.mpr (uB rQ (na.mp h1) (na.mp h2))) (λa b=>?_) ss
 rw [fT]
 exact(wH rQ).imp na.mpr na.mpr
theorem Av{L:List (List LS)}{far:List LS}(hf:eV far){i:Nat}(hi:i<L.length):Aw (L.map λr=>aI (wS r far)) i=aI (dZ L far (L.length-i)):=by
 obtain⟨t,ht⟩:∃t,t=ga (L.map λr=>aI (wS r far)):=⟨_,rfl⟩
 have hperm:t.Perm (L.map λr=>aI (wS r far)):=ht▸Bm _
 have hsort:t.Pairwise λa b=>Oi a b=true:=ht▸xJ _
 have htl:t.length=L.length:=by rw [hperm.length_eq,ae]
 have hit:i<t.length:=by exact Rp hi htl
 have good:∀p,p <+: far->eV p:=λp h=>uZ h hf
 have hrow:∀s∈t,∃p,s=aI p/\p <+: far:=λs hs=>by
  obtain⟨r,hr,rfl⟩:=aH.mp (hperm.mem_iff.mp hs)
  exact⟨_,rfl,uU r far⟩
 have hcnt:∀p,p <+: far->(t.filter λs=>ln p (cC s)).length=yS L p:=λp hp=>by
  rw [(hperm.filter λs=>ln p (cC s)).length_eq]
  unfold yS
  rw [vK,ae]
  congr 1
  refine sk λr hr=>?_
  show ln p (cC (aI (wS r far)))=_
  rw [mv (good _ (uU r far)),Bool.eq_iff_iff,fO,fO]
  exact⟨λh=>h.trans (Dj r far),λh=>Ht h hp⟩
 have hat:Aw (L.map λr=>aI (wS r far)) i=t[i]:=by
  unfold Aw
  rw [<-ht,db,bQ hit];rfl
 rw [hat]
 have esplit:t=t.take i++t[i]::t.drop (i+1):=by rw [<-bZ hit,j3]
 obtain⟨p,hp,hpf⟩:=hrow t[i] (List.getElem_mem hit)
 have hsort':=hsort
 rw [esplit]at hsort'
 obtain⟨_,s2,s3⟩:=CT.mp hsort'
 have s4:=(lH.mp s2).1
 have rowt:∀q,q <+: far->cC (aI q)=q:=λq hq=>mv (good q hq)
 have hm:L.length-i<=L.length:=fu _ _
 obtain⟨f1,f2,f3⟩:=lq (L:=L) (far:=far) hm
 have up:p <+: dZ L far (L.length-i):=by
  refine f3 p hpf ?_
  rw [<-hcnt p hpf]
  have hall:∀s∈t.drop i,ln p (cC s)=true:=λs hs=>by
   rw [bZ hit]at hs
   rw [fO]
   rcases ay.mp hs with rfl | hs
   ·rw [hp,rowt p hpf];exact vH
   ·obtain⟨q,hq,hqf⟩:=hrow s (iz hs)
    have h5:=na.mp (s4 s hs)
    rw [hq,hp]at h5
    rw [hq,rowt q hqf]
    rcases xP hpf hqf with h | h
    ·exact h
    ·by_cases e:q=p
     ·rw [e];exact vH
     ·exact absurd (zj h e (good p hpf)) h5
  have:=((Gb i t).filter λs=>ln p (cC s)).length_le
  rw [iV.mpr hall,cR,htl]at this
  exact this
 have dn:dZ L far (L.length-i) <+: p:=by
  rcases xP f1 hpf with h | h
  ·exact h
  ·by_cases e:p=dZ L far (L.length-i)
   ·rw [<-e];exact vH
   ·exfalso
    have hnone:∀s∈t.take (i+1),¬ln (dZ L far (L.length-i)) (cC s)=true:=λs hs q=>by
     have hst:s∈t:=iy hs
     obtain⟨u,hu,huf⟩:=hrow s hst
     rw [hu,rowt u huf,fO]at q
     have hlt:aI p<aI u:=zj (h.trans q) (λe2=>e (h.eq_of_length_le (by rw [e2];exact q.length_le))) (good u huf)
     rw [List.take_succ_eq_append_getElem hit]at hs
     rcases dk.mp hs with hs | hs
     ·have h5:=na.mp (s3 s hs t[i] aj)
      rw [hu,hp]at h5
      exact h5 hlt
     ·rw [aC]at hs
      rw [hs]at hu
      rw [hp]at hu
      rw [hu]at hlt
      exact rQ.irr _ hlt
    have h6:=hcnt (dZ L far (L.length-i)) f1
    rw [<-j3 (i+1) t,List.filter_append,AI.mpr hnone,ew]at h6
    have h7:=g9 (λs=>ln (dZ L far (L.length-i)) (cC s)) (t.drop (i+1))
    rw [cR]at h7
    exact Ro htl hit f2 h6 h7
 rw [hp,up.eq_of_length_le dn.length_le]
theorem uy{L:List (List LS)}{far:List LS}(hn:L≠[])(hf:eV far):Aw (L.map λr=>aI (wS r far)) ((L.length-1) / 2)=aI (wS (bz L) far):=by
 have hpos:0<L.length:=b6.mpr hn
 rw [Av hf (by exact Pf hpos),show L.length-(L.length-1) / 2=L.length / 2+1 by exact Rn hpos,zZ hn,Nk]
theorem Ej{L:List (List LS)}{far:List LS}(hn:L≠[])(hf:eV far):Aw (L.map λr=>aI (wS r far)) (L.length / 2)=aI (dZ L far ((L.length+1) / 2)):=by
 have hpos:0<L.length:=b6.mpr hn
 rw [Av hf (by exact Rm hpos),show L.length-L.length / 2=(L.length+1) / 2 by exact OX]
theorem yq{r far:List LS}(h1:eV r)(h2:eV far):tR [aI r,aI far]=aI (wS r far):=
 DJ (rows:=[r,far]) λs hs=>by
  rcases ay.mp hs with rfl | hs
  ·exact h1
  ·rw [aC]at hs;rw [hs];exact h2
end Mine.W
end
section
namespace Mine.W
theorem gM{a b:LS}(h1:iT a)(h2:iT b):iT (a++b):=λc hc=>(dk.mp hc).elim (h1 c) (h2 c)
theorem oF(i:Nat)(h:i<10):iT (js i):=by
 have:∀i:Fin 10,∀c∈js i.1,c=39\/c∈me:=by
  intro i
  match i with
  | ⟨0,_⟩ | ⟨1,_⟩ | ⟨2,_⟩ | ⟨3,_⟩ | ⟨4,_⟩ | ⟨5,_⟩ | ⟨6,_⟩ | ⟨7,_⟩ | ⟨8,_⟩ | ⟨9,_⟩=>
   intro c hc
   simp only [js,GZ,List.getD_cons_zero,List.getD_cons_succ,ay,bJ,or_false]at hc
   all_goals simp only [me,ay,bJ,or_false]
   all_goals first | (rcases hc with rfl | rfl | rfl<;>decide) | (rcases hc with rfl | rfl<;>decide) | (cases hc;decide)
  | ⟨n+10,h⟩=>exact absurd h (kr (gZ 10 n))
 exact this ⟨i,h⟩
theorem vC:iT [47]:=λc hc=>by rw [aC]at hc;rw [hc];exact am (by decide)
theorem D0(x:Int):((∃w,nX x=46::w) \/ ∃w,nX x=47::46::w)/\iT (nX x):=by
 have h1:((∃w,pF x=46::w) \/ ∃w,pF x=47::46::w)/\iT (pF x):=by
  unfold pF
  cases decide (x<0)
  ·exact⟨av ⟨_,rfl⟩,gM (gM (λc hc=>by rw [show(bif false then [47,46]else [46]:LS)=[46]from rfl,aC]at hc;rw [hc];exact am (by decide)) vC) (oF _ (l7 _ (by decide)))⟩
  ·refine⟨am ⟨_,rfl⟩,gM (gM (λc hc=>?_) vC) (oF _ (l7 _ (by decide)))⟩
   rcases ay.mp (show c∈([47,46]:LS)from hc)with rfl | hc
   ·exact am (by decide)
   ·rw [aC]at hc;rw [hc];exact am (by decide)
 unfold nX
 cases decide (99<x.natAbs)
 ·exact h1
 ·refine⟨h1.1.imp (λ⟨w,e⟩=>⟨w++[47]++js (x.natAbs / 100 % 10),?_⟩) (λ⟨w,e⟩=>⟨w++[47]++js (x.natAbs / 100 % 10),?_⟩),gM (gM h1.2 vC) (oF _ (l7 _ (by decide)))⟩
  ·show pF x++[47]++_=_;rw [e];rfl
  ·show pF x++[47]++_=_;rw [e];rfl
theorem xv(x:Int):sL (gz x):=by
 obtain⟨h1,h2⟩:=D0 x
 unfold gz
 cases nX x==[46,47]
 ·exact⟨am h1,zb x,h2⟩
 ·exact⟨av rfl,bp _,λc hc=>nomatch hc⟩
theorem za{w:LS}(h:sL w):(w.take 4==fU)=false:=by
 rw [beq_eq_false_iff_ne]
 intro q
 rcases h.1 with rfl | ⟨w',rfl⟩ | ⟨w',rfl⟩
 ·exact nomatch q
 ·exact absurd (jJ q).1 (by decide)
 ·exact absurd (jJ q).1 (by decide)
theorem vd:sL eI:=⟨am (av ⟨_,rfl⟩),bw rfl,λc hc=>by
 simp only [ay,bJ,or_false]at hc
 rcases hc with rfl | rfl | rfl<;>exact am (by decide)⟩
noncomputable def Cz(m:Nat):cP->Prop
 | .way w=>sL w
 | .sub w ws=>sL w/\ws.length<=m /\ ∀x∈ws,sL x
theorem Cz.mono{m:Nat}{v:cP}(h:Cz m v):Cz (m+1) v:=by
 cases v with
 | way w=>exact h
 | sub w ws=>exact⟨h.1,jO h.2.1,h.2.2⟩
noncomputable def rx(m:Nat)(V:List cP):Prop:=V.length<=m /\ ∀v∈V,Cz m v
theorem xw{m:Nat}{V:List cP}{v:cP}(h:rx m V)(hv:Cz (m+1) v):rx (m+1) (V++[v]):=by
 refine⟨by rw [ai];exact cT h.1,λu hu=>?_⟩
 rcases dk.mp hu with hu | hu
 ·exact(h.2 u hu).mono
 ·rw [aC]at hu;rw [hu];exact hv
theorem JY{m:Nat}{s:VS}(x:Int)(h:rx m (ez s)):rx (m+1) (ez (dq s x)):=by
 unfold dq
 split
 ·exact xw h (xv x)
 ·split
  ·exact xw h ⟨xv x,bp _,λy hy=>nomatch hy⟩
  ·obtain⟨V,cur⟩:=s
   cases cur with
   | none=>exact xw h (xv x)
   | some z=>
    obtain⟨w,ws⟩:=z
    have h':rx m (V++[.sub w ws]):=h
    refine⟨by have:=h'.1;rw [ai]at this;show(V++[cP.sub w (ws++[gz x])]).length<=_;rw [ai];exact jO this,λu hu=>?_⟩
    rcases dk.mp (show u∈V++[cP.sub w (ws++[gz x])]from hu)with hu | hu
    ·exact(h'.2 u (fY _ hu)).mono
    ·rw [aC]at hu
     rw [hu]
     obtain⟨a,b,c⟩:=h'.2 _ (cf _ (aC.mpr rfl))
     refine⟨a,by rw [ai];exact cT b,λy hy=>?_⟩
     rcases dk.mp hy with hy | hy
     ·exact c y hy
     ·rw [aC]at hy;rw [hy];exact xv x
theorem KU:∀(l:List Int) (s:VS) (m:Nat),rx m (ez s)->rx (m+l.length) (ez (l.foldl dq s)):=by
 intro l
 induction l with
 | nil=>
  intro s m h
  exact h
 | cons x l ih=>
  intro s m h
  have:=ih (dq s x) (m+1) (JY x h)
  rwa [g8,gS 1]at this
theorem JN(ns:List Int):rx 8 (e9 ns):=by
 have h:=KU (lQ++ns.take 5) ([],none) 0 ⟨aF 0,λv hv=>nomatch hv⟩
 have hl:(lQ++ns.take 5).length<=8:=by
  rw [ai,cB]
  have:lQ.length=3:=rfl
  exact Rl this
 have up:∀(j m:Nat) (V:List cP),rx m V->rx (m+j) V:=by
  intro j
  induction j with
  | zero=>exact λm V h=>h
  | succ j ih=>exact λm V h=>⟨jO (ih m V h).1,λv hv=>((ih m V h).2 v hv).mono⟩
 have:=up (8-(lQ++ns.take 5).length) _ _ h
 rwa [eo,FQ hl]at this
theorem sz{s:LS}(h:iT s):iT (c6 s):=by
 have h39:iT [39]:=λc hc=>av (aC.mp hc)
 unfold c6
 cases s.isEmpty
 ·cases !s.any cU
  ·refine gM (gM h39 ?_) h39
   intro c hc
   unfold dN at hc
   obtain⟨x,hx,hc⟩:=tr.mp hc
   split at hc
   ·simp only [ay,bJ,or_false]at hc
    rcases hc with rfl | rfl | rfl | rfl | rfl
    all_goals first | exact av rfl | exact am (by decide)
   ·rw [aC]at hc;rw [hc];exact h x hx
  ·exact h
 ·exact λc hc=>by
   simp only [cond_true,ay,bJ,or_false]at hc
   rcases hc with rfl | rfl<;>exact av rfl
theorem Eu(s:LS):(c6 s).length<=5*s.length+2:=by
 unfold c6
 cases s.isEmpty
 ·cases !s.any cU
  ·have:=rM s
   show([39]++dN 39 [39,34,39,34,39] s++[39]).length<=_
   rw [ai,ai];show 1+_+1<=_;exact Rk this
  ·show s.length<=_;exact Rj
 ·show 2<=_;exact Ri
theorem uQ:∀{ws:List LS},(∀w∈ws,iT w)->iT (lN ws)
 | [],_=>λc hc=>nomatch hc
 | [w],h=>sz (h w aj)
 | w::v::ws,h=>by
  have ih:=uQ (ws:=v::ws) λu hu=>h u (an _ hu)
  show iT (c6 w++[32]++lN (v::ws))
  refine gM (gM (sz (h w aj)) λc hc=>?_) ih
  rw [aC]at hc;rw [hc];exact am (by decide)
theorem Gv{m:Nat}:∀{l:List LS},(∀w∈l,w.length<=m)->((l.map c6).map bY).sum<=l.length*(5*m+2):=by
 intro l
 induction l with
 | nil=>
  intro _
  exact bp _
 | cons w l ih=>
  intro h
  have ih:=ih λu hu=>h u (an _ hu)
  have h1:=Eu w
  have h2:=h w aj
  simp only [aK,qz,ao]
  rw [Nat.succ_mul]
  have:5*w.length+2<=5*m+2:=by exact Rh h2
  exact Rg ih h1 this
theorem Hq{ws:List LS}{m:Nat}(h:∀w∈ws,w.length<=m):(lN ws).length<=ws.length*(5*m+3):=by
 have h1:=jT [32] (ws.map c6)
 have h2:=Gv h
 have h3:([32]:LS).length=1:=rfl
 rw [ae,h3,gb]at h1
 unfold lN
 have:ws.length*(5*m+3)=ws.length*(5*m+2)+ws.length:=by rw [show 5*m+3=5*m+2+1 from rfl,Nat.mul_succ]
 exact Rf h1 h2 this
theorem EQ(w:LS)(ws:List LS):((lN (fU::w::ws)).take 4==fU)=true:=by
 have:lN (fU::w::ws)=fU++([32]++lN (w::ws)):=by
  show c6 fU++[32]++_=_
  rw [aP];rfl
 rw [this];rfl
theorem qk:iT fU:=λc hc=>by
 simp only [ay,bJ,or_false]at hc
 rcases hc with rfl | rfl | rfl | rfl<;>exact am (by decide)
end Mine.W
end
section
namespace Mine.W
noncomputable def j7(v:PV):LS:=(pS v).getD []
noncomputable def oh:PV->List LS
 | .tup l=>l.map j7
 | _=>[]
theorem m8(l:List LS):(l.map PV.str).map j7=l:=by rw [aG];exact fZ l
theorem m5(r:List LS):oh (aV r)=r:=m8 r
theorem Df(l:List (List LS)):(l.map aV).map oh=l:=by
 rw [aG]
 exact(bf λr ζ=>m5 r).trans (fZ l)
noncomputable def HX:PV->List LS
 | .tup l=>l.map j7
 | .list l=>bz (l.map oh)
 | _=>[]
theorem oZ(r:fk):HX (da r)=b7 r:=by
 cases r with
 | leaf r=>exact m8 r
 | node l=>show bz ((l.map aV).map oh)=_;rw [Df];rfl
noncomputable def zk:PV->PV
 | .tup l=>.str (aI (l.map j7))
 | .list l=>.list (l.map λv=>.str (aI (oh v)))
 | _=>.none
theorem kP(r:fk):zk (da r)=b4 r:=by
 cases r with
 | leaf r=>show PV.str (aI ((r.map .str).map j7))=_;rw [m8];rfl
 | node l=>
  show PV.list ((l.map aV).map λv=>.str (aI (oh v)))=_
  rw [aG]
  exact congrArg PV.list (bf λr ζ=>by show PV.str (aI (oh (aV r)))=_;rw [m5])
noncomputable def PJ:PV->LS
 | .str s=>s
 | .list l=>v7 (l.map j7)
 | _=>[]
noncomputable def C6(far:LS):PV->LS
 | .str s=>tR [s,far]
 | .list l=>Aw (l.map λv=>tR [j7 v,far]) ((l.length-1) / 2)
 | _=>[]
noncomputable def jB(r:List LS):Prop:=eV r/\cc r<=100
noncomputable def kB(l:List (List LS)):Prop:=l≠[]/\l.length<50 /\ ∀r∈l,jB r
noncomputable def wl:fk->Prop
 | .leaf r=>jB r
 | .node l=>kB l
theorem GF{p r:List LS}(h:p <+: r):cc p<=cc r:=by
 obtain⟨t,rfl⟩:=h
 rw [gE];exact dz _ _
theorem Kc{p r:List LS}(h:p <+: r)(hr:jB r):jB p:=⟨uZ h hr.1,ah (GF h) hr.2⟩
theorem ue{L:List (List LS)}(h:kB L):jB (bz L):=Bb h.1 (P:=jB) (λζ ζ=>Kc) h.2.2
theorem tL{r:fk}(h:wl r):jB (b7 r):=by
 cases r with
 | leaf r=>exact h
 | node l=>exact ue h
theorem xN{r:List LS}(h:jB r):r.length<=100:=ah (kb r) h.2
theorem JU{r:List LS}(h:jB r):yF (aI r):=⟨ah (ug r) (ah (cT h.2) (by decide)),_,rfl⟩
theorem MO{L:List (List LS)}(h:kB L){j:Nat}(hj:j+(L.length / 2+1)<=L.length):mG (iO (nq (L.map aI)) (L.length / 2+1) j):=by
 obtain⟨t,ht⟩:∃t,t=nq (L.map aI):=⟨_,rfl⟩
 obtain⟨m,hm⟩:∃m,m=L.length / 2+1:=⟨_,rfl⟩
 rw [<-ht,<-hm]
 have hm0:0<m:=by exact OY hm
 have hperm:t.Perm (L.map aI):=ht▸ut _
 have htl:t.length=L.length:=by rw [hperm.length_eq,ae]
 have hrow:∀s∈iO t m j,jB (cC s)/\aI (cC s)=s:=λs hs=>by
  have:s∈(t.drop j).take m:=(mV hm0 s).mp hs
  obtain⟨r,hr,rfl⟩:=aH.mp (hperm.mem_iff.mp (iz (iy this)))
  rw [mv (h.2.2 r hr).1]
  exact⟨h.2.2 r hr,rfl⟩
 have e:iO t m j=((iO t m j).map cC).map aI:=by
  rw [aG]
  exact((bf λs hs=>(hrow s hs).2).trans (fZ _)).symm
 have hlen:(iO t m j).length<=200:=by
  unfold iO
  have:=h.2.1
  rw [ai,cR,cB,cR,cB];exact Rd htl this
 rw [e]
 refine r7 (λq=>?_) (by rw [ae];exact Rc hlen) λr hr=>?_
 ·have q':iO t m j=[]:=bP.mp q
  have h3:(t.drop j).take m≠[]:=λq=>by
   have:=congrArg bY q
   rw [cB,cR,ci]at this
   exact Rb hj hm0 htl this
  obtain⟨s,hs⟩:=ml _ h3
  have:=(mV hm0 s).mpr hs
  unfold iO at q'
  rw [q']at this
  cases this
 ·obtain⟨s,hs,rfl⟩:=aH.mp hr
  have:=(hrow s hs).1
  exact⟨this.1,ah this.2 (by decide)⟩
theorem L7{k:Nat}{L:List (List LS)}{vs:List PV}{g:PV->LS}(hL:kB L)(e:vs.map g=L.map aI)(hv:∀v∈vs,v = .str (g v) \/ ∃l,v = .list l/\bF l=true/\eh (k+2) 952 [v] (.str (g v))):eh (k+3) 952 [.list vs] (.str (aI (bz L))):=by
 have hlen:vs.length=L.length:=by have:=congrArg bY e;rwa [ae,ae]at this
 have hpos:0<L.length:=b6.mpr hL.1
 have hl:=hL.2.1
 rw [<-rS hL.1 λr hr=>(hL.2.2 r hr).1,<-e]
 refine Qj (λq=>by rw [q]at hlen;exact absurd hlen.symm (by show L.length≠0;exact Ra hpos)) (by exact OW hlen hl) (λv hv'=>⟨hv v hv',?_⟩) λj hj=>?_
 ·have:g v∈L.map aI:=e▸aH.mpr ⟨v,hv',rfl⟩
  obtain⟨r,hr,h1⟩:=aH.mp this
  rw [<-h1]
  exact JU (hL.2.2 r hr)
 ·rw [e,hlen]
  rw [hlen]at hj
  exact MO hL (by exact Q9 hpos hj)
theorem Hm(own:List fk):own.map b7=(own.map da).map HX:=by
 rw [aG]
 exact bf λr ζ=>(oZ r).symm
theorem Ki{k:Nat}{own:List fk}(h:∀r∈own,wl r)(hn:own≠[])(hl:own.length<50):eh (k+4) 952 [.list (own.map b4)] (.str (aI (bz (own.map b7)))):=by
 refine L7 (k:=k+1) (g:=PJ) ⟨λq=>hn (bP.mp q),by rw [ae];exact hl,λr hr=>?_⟩ ?_ λv hv=>?_
 ·obtain⟨x,hx,rfl⟩:=aH.mp hr
  exact tL (h x hx)
 ·rw [aG,aG]
  refine bf λr hr=>?_
  cases r with
  | leaf r=>rfl
  | node l=>
   show v7 ((l.map λr=>PV.str (aI r)).map j7)=aI (bz l)
   rw [aG]
   exact rS (h _ hr).1 λr hr'=>((h _ hr).2.2 r hr').1
 ·obtain⟨r,hr,rfl⟩:=aH.mp hv
  cases r with
  | leaf r=>exact av rfl
  | node l=>
   have hL:kB l:=h _ hr
   refine am ⟨_,rfl,bS (f:=λr=>PV.str (aI r)) λr ζ=>rfl,?_⟩
   have e:PJ (b4 (.node l))=aI (bz l):=by
    show v7 ((l.map λr=>PV.str (aI r)).map j7)=aI (bz l)
    rw [aG]
    exact rS hL.1 λr hr'=>(hL.2.2 r hr').1
   rw [e]
   refine L7 (k:=k) (g:=j7) hL (by rw [aG];rfl) λv hv=>?_
   obtain⟨r,_,rfl⟩:=aH.mp hv
   exact av rfl
theorem Du{k:Nat}{l:List (List LS)}(h:kB l):eh (k+2) 947 [.list (l.map aV)] (aV (bz l)):=by
 have:=Dy (k:=k) (vs:=l.map aV) (f:=oh) (λq=>h.1 (bP.mp q)) (by rw [ae];have:=h.2.1;exact Kn this) λv hv=>by
  obtain⟨r,hr,rfl⟩:=aH.mp hv
  rw [m5]
  refine⟨av (by rw [m5]),?_⟩
  have:=xN (h.2.2 r hr);exact M1 this
 rwa [Df]at this
theorem Ez{k:Nat}{own:List fk}(h:∀r∈own,wl r)(hn:own≠[])(hl:own.length<50):eh (k+3) 947 [.list (own.map da)] (aV (bz (own.map b7))):=by
 rw [Hm]
 refine Dy (k:=k+1) (f:=HX) (λq=>hn (bP.mp q)) (by rw [ae];exact Kn hl) λv hv=>?_
 obtain⟨r,hr,rfl⟩:=aH.mp hv
 have h1:=xN (tL (h r hr))
 refine⟨?_,by rw [oZ];exact M1 h1⟩
 cases r with
 | leaf r=>exact av (by rw [oZ];rfl)
 | node l=>
  refine am ⟨_,rfl,bS (f:=aV) λr ζ=>bH r,?_⟩
  rw [oZ]
  exact Du (h _ hr)
theorem Hc{k:Nat}{own:List fk}{far:List LS}(h:∀r∈own,wl r)(hl:own.length<50)(hf:jB far):eh (k+4) 959 [.list (own.map b4),.str (aI far)] (.list (((own.map b7).map λr=>aI (wS r far)).map .str)):=by
 have ck:∀r,jB r->mG [aI r,aI far]:=λr hr=>r7 (rows:=[r,far]) (λq=>nomatch q) (by show 2<1000;decide) λs hs=>by
  rcases ay.mp hs with rfl | hs
  ·exact⟨hr.1,ah hr.2 (by decide)⟩
  ·rw [aC]at hs;rw [hs];exact⟨hf.1,ah hf.2 (by decide)⟩
 have nd:∀l,kB l->C6 (aI far) (b4 (.node l))=aI (wS (bz l) far)/\(l.map λr=>PV.str (aI r)).map (C6 (aI far))=l.map λr=>aI (wS r far):=λl hL=>by
  have e:(l.map λr=>PV.str (aI r)).map (C6 (aI far))=l.map λr=>aI (wS r far):=by
   rw [aG]
   exact bf λr hr=>yq (hL.2.2 r hr).1 hf.1
  refine⟨?_,e⟩
  show Aw ((l.map λr=>PV.str (aI r)).map λv=>tR [j7 v,aI far]) (((l.map λr=>PV.str (aI r)).length-1) / 2)=_
  rw [ae,aG]
  rw [<-uy hL.1 hf.1]
  congr 1
  exact bf λr hr=>yq (hL.2.2 r hr).1 hf.1
 have e:(own.map b7).map (λr=>aI (wS r far))=(own.map b4).map (C6 (aI far)):=by
  rw [aG,aG]
  refine bf λr hr=>?_
  cases r with
  | leaf r=>exact(yq (h _ hr).1 hf.1).symm
  | node l=>exact(nd l (h _ hr)).1.symm
 rw [e]
 refine HY (k:=k+1) (by rw [ae];exact Kn hl) λv hv=>?_
 obtain⟨r,hr,rfl⟩:=aH.mp hv
 cases r with
 | leaf r=>exact av ⟨_,rfl,rfl,ck r (h _ hr)⟩
 | node l=>
  have hL:kB l:=h _ hr
  refine am ⟨_,l.map λr=>aI (wS r far),rfl,bS (f:=λr=>PV.str (aI r)) λr ζ=>rfl,?_,λq=>hL.1 (bP.mp q),by rw [ae];have:=hL.2.1;exact OV this,?_⟩
  ·rw [<-(nd l hL).2]
   refine HY (k:=k) (by rw [ae];have:=hL.2.1;exact Kn this) λv hv=>?_
   obtain⟨r,hr',rfl⟩:=aH.mp hv
   exact av ⟨_,rfl,rfl,ck r (hL.2.2 r hr')⟩
  ·rw [(nd l hL).1,ae]
   exact(uy hL.1 hf.1).symm
theorem Hd{k:Nat}{own:List fk}{fars:List (List LS)}(h:∀r∈own,wl r)(hn:own≠[])(hl:own.length<50)(hf:∀f∈fars,jB f):AA (k+4) fars own where
 len:=by exact OU hl
 met:=Ki h hn hl
 val:=Ez (k:=k+1) h hn hl
 txt:=by
  have hR:kB (own.map b7):=⟨λq=>hn (bP.mp q),by rw [ae];exact hl,λr hr=>by
   obtain⟨x,hx,rfl⟩:=aH.mp hr
   exact tL (h x hx)⟩
  exact ah (ue hR).2 (by decide)
 inn:=λl hl'=>Du (k:=k+2) (h _ hl')
 flen:=λf hf'=>⟨by have:=xN (hf f hf');exact M1 this,ah (hf f hf').2 (by decide)⟩
 seen:=λf hf'=>by
  have hR:kB (own.map b7):=⟨λq=>hn (bP.mp q),by rw [ae];exact hl,λr hr=>by
   obtain⟨x,hx,rfl⟩:=aH.mp hr
   exact tL (h x hx)⟩
  have hfg:=hf f hf'
  have hv:=ue hR
  refine⟨(own.map b7).map λr=>aI (wS r f),λq=>hR.1 (bP.mp q),by rw [ae,ae];exact OV hl,Hc h hl hfg,?_,?_,?_⟩
  ·exact r7 (rows:=[bz (own.map b7),f]) (λq=>nomatch q) (by show 2<1000;decide) λs hs=>by
    rcases ay.mp hs with rfl | hs
    ·exact⟨hv.1,ah hv.2 (by decide)⟩
    ·rw [aC]at hs;rw [hs];exact⟨hfg.1,ah hfg.2 (by decide)⟩
  ·rw [ae,yq hv.1 hfg.1]
   exact uy hR.1 hfg.1
  ·rw [ae]
   have:=Ej hR.1 hfg.1
   rwa [show(own.map b7).length=own.length from ae _]at this ⊢
end Mine.W
end
section
namespace Mine.W
theorem EP{α:Type}{step:br->List aN->PV->Option St}{Φ:St->Prop}(S:Option PV->br)(F G:α->PV)(init:List PV)(l:List α)(hb:init.length+l.length<100000)
  (hs:∀o a acc,a∈l->acc.length<100000->step (S o) [.tab,.lst acc] (F a)=some (.next,S (some (F a)),[.tab,.lst (acc++[G a])]))(he:∀o,Φ (.next,S o,[.tab,.lst (init++l.map G)])):FH step (l.map F) (S none) [.tab,.lst init] Φ:=by
 refine ij (λxs σ R=>∃o done rest,l=done++rest/\xs=rest.map F/\σ=S o/\R=([.tab,.lst (init++done.map G)]:List aN)) ?_ ?_ _ _ _ ⟨none,[],l,rfl,rfl,rfl,by rw [nO,aM]⟩
 ·rintro x xs σ R ⟨o,done,rest,h1,h2,rfl,rfl⟩
  cases rest with
  | nil=>cases h2
  | cons a rest=>
   simp only [aK,dG]at h2
   obtain⟨rfl,rfl⟩:=h2
   have hm:a∈l:=by rw [h1];exact cf _ aj
   have hl:(init++done.map G).length<100000:=by rw [ai,ae];rw [h1,ai]at hb;exact Pp hb
   refine⟨_,hs o a _ hm hl,some (F a),done++[a],rest,by rw [h1,aP];rfl,rfl,rfl,?_⟩
   rw [bW,aP];rfl
 ·rintro σ R ⟨o,done,rest,h1,h2,rfl,rfl⟩
  cases rest with
  | cons a rest=>cases h2
  | nil=>
   rw [aM]at h1
   subst h1
   exact he o
theorem w9{α:Type}{k:Nat}{line w:LS}{l:List α}{F:α->LS}{G:α->PV}{here:List LS}(hn:l.length<1000)(hs:eh (k+3) 884 [.str line,.bool true] (.list ((fU::w::l.map F).map .str)))(hw:pq here w)
  (hv:∀a∈l,noObj (G a)=true/\((((F a).take 4==fU)=true/\eh (k+3) 918 [.str (F a),.str (aI (bl here w))] (G a))\/(((F a).take 4==fU)=false/\pq (bl here w) (F a)/\G a = .str (aI (bl (bl here w) (F a)))))) :
  eh (k+4) 918 [.str line,.str (aI here)] (.list (.str (aI (bl here w))::l.map G)):=by
 intro R hR
 have hno:bF (l.map G)=true:=bS λv hx=>(hv v hx).1
 have emap:(l.map F).map PV.str=l.map λa=>PV.str (F a):=by rw [aG];rfl
 refine et (R1:=[.tab,.dead]) ?_ rfl hno rfl hR
 refine cN (fi:=⟨bv (aL pw 54),[]⟩) (σ:=[("line",.str line),("here",.str (aI here))]) ∅ ∅ ?_
 refine ch (.list ((fU::w::l.map F).map .str)) [("line",.str line),("here",.str (aI here)),("words",.list ((fU::w::l.map F).map .str))] (R1:=[.tab]) (eA (g:=884) (as:=[.str line,.bool true]) (R1:=[.tab]) ∅ ∅ ∅ ∅ (hs _ rfl)) ∅ ∅ ∅ ?_
 refine cW (R1:=[.tab]) ∅ (aZ ?_)
 refine ch (.str (aI (bl here w))) [("line",.str line),("here",.str (aI (bl here w))),("words",.list ((fU::w::l.map F).map .str))] (R1:=[.tab]) (Ae hw ∅ ∅ ∅ ∅ ∅ ∅ ∅ rfl) ∅ ∅ ∅ ?_
 refine aS [("line",.str line),("here",.str (aI (bl here w))),("words",.list ((fU::w::l.map F).map .str)),("places",.obj 1)] (R1:=[.tab,.lst [.str (aI (bl here w))]]) ∅ ?_
 refine gY (xs:=(l.map F).map .str) (σ1:=[("line",.str line),("here",.str (aI (bl here w))),("words",.list ((fU::w::l.map F).map .str)),("places",.obj 1)]) (R1:=[.tab,.lst [.str (aI (bl here w))]]) (gG ∅ ∅ ∅) ∅ ?_
 rw [emap]
 refine EP (λo=>("line",.str line)::("here",.str (aI (bl here w)))::("words",.list ((fU::w::l.map F).map .str))::("places",.obj 1)::(o.map λv=>(("word":Str),v)).toList) (λa=>.str (F a)) G [.str (aI (bl here w))] l (by show 1+_<_;exact Pk hn) (λo a acc hx ha=>?_) (λo=>?_)
 ·refine qI [("line",.str line),("here",.str (aI (bl here w))),("words",.list ((fU::w::l.map F).map .str)),("places",.obj 1),("word",.str (F a))] (by cases o<;>kernel_rfl) (dp ?_)
  rcases(hv a hx).2 with ⟨h1,h2⟩ | ⟨h1,h2,h3⟩
  ·refine vj (R1:=[.tab,.lst acc]) (nz (b:=(F a).take 4==fU) ∅ h1) (dp (iw (eN (x:=.obj 1) (as:=[G a]) (R1:=[.tab,.lst acc]) (R2:=[.tab,.lst acc]) ∅ ∅ (fF ?_) (eb (l:=acc) rfl rfl (bR ha (by decide))))))
   exact eA (g:=918) (as:=[.str (F a),.str (aI (bl here w))]) (R1:=[.tab,.lst acc]) ∅ ∅ ∅ ∅ (h2 _ rfl)
  ·refine gV (R1:=[.tab,.lst acc]) (nz (b:=(F a).take 4==fU) ∅ h1) (dp (iw (eN (x:=.obj 1) (as:=[G a]) (R1:=[.tab,.lst acc]) (R2:=[.tab,.lst acc]) ∅ ∅ (fF ?_) (eb (l:=acc) rfl rfl (bR ha (by decide))))))
   rw [h3]
   exact Ae h2 ∅ ∅ ∅ ∅ ∅ ∅ ∅ rfl
 ·exact cV (.list (.str (aI (bl here w))::l.map G)) (R1:=[.tab,.dead]) (by cases o<;>kernel_rfl) ⟨rfl,rfl⟩
noncomputable abbrev h0:List LS:=bl [] eI
noncomputable def Es:cP->fk
 | .way w=>.leaf (bl h0 w)
 | .sub w ws=>.node (bl h0 w::ws.map (bl (bl h0 w)))
noncomputable def og(V:List cP):List fk:=.leaf h0::V.map Es
noncomputable def vY:cP->LS
 | .way w=>w
 | .sub w ws=>lN (fU::w::ws)
noncomputable abbrev VP(V:List cP):PV:=.list [.str eI,.list (V.map jm)]
theorem ka{here:List LS}{w:LS}{m:Nat}(h:eV here/\cc here<=m)(hw:sL w):eV (bl here w)/\cc (bl here w)<=m+11:=
 ⟨B0 h.1 w,ah (Bp here w) (cq h.2 (cT hw.2.1))⟩
theorem nr:eV h0/\cc h0<=11:=ka (here:=[]) (m:=0) ⟨u0,aF 0⟩ vd
theorem up{r:List LS}{m:Nat}(h:eV r/\cc r<=m)(hm:m<=100):jB r:=⟨h.1,ah h.2 hm⟩
theorem Kd{v:cP}(h:Cz 8 v):wl (Es v):=by
 cases v with
 | way w=>exact up (ka nr h) (by decide)
 | sub w ws=>
  obtain⟨a,b,c⟩:=h
  refine⟨gC _ _,by rw [ao,ae];exact OT b,λr hr=>?_⟩
  rcases ay.mp hr with rfl | hr
  ·exact up (ka nr a) (by decide)
  ·obtain⟨x,hx,rfl⟩:=aH.mp hr
   exact up (ka (ka nr a) (c x hx)) (by decide)
theorem GS{V:List cP}(h:rx 8 V):∀r∈og V,wl r:=λr hr=>by
 rcases ay.mp hr with rfl | hr
 ·exact up nr (by decide)
 ·obtain⟨v,hv,rfl⟩:=aH.mp hr
  exact Kd (h.2 v hv)
noncomputable def NW(h:List LS):PV->PV
 | .str s=>aV (bl h s)
 | .list [.str w,.list l]=>.list (aV (bl h w)::l.map λv=>aV (bl (bl h w) (j7 v)))
 | _=>.none
theorem vh(v:cP):NW h0 (jm v)=da (Es v):=by
 cases v with
 | way w=>rfl
 | sub w ws=>
  show PV.list (aV (bl h0 w)::(ws.map PV.str).map λv=>aV (bl (bl h0 w) (j7 v)))=PV.list ((bl h0 w::ws.map (bl (bl h0 w))).map aV)
  rw [aK,aG,aG];rfl
theorem NG{k:Nat}{V:List cP}(h:rx 8 V):eh (k+3) 932 [VP V,.tup []] (.list ((og V).map da)):=by
 have e:(og V).map da=aV h0::(V.map jm).map (NW h0):=by
  unfold og
  rw [aK,aG,aG]
  exact congrArg (_ :: ·) (bf λv ζ=>(vh v).symm)
 rw [e]
 intro R hR
 refine HZ (k:=k+1) (here:=[]) (w:=eI) (f:=NW h0) (bw rfl) (by rw [ae];have:=h.1;exact EA this) (λv hv=>?_) hR
 obtain⟨u,hu,rfl⟩:=aH.mp hv
 have hu':=h.2 u hu
 have hh:cc h0<=11:=nr.2
 have hhl:=kb h0
 refine⟨by rw [vh];exact lh _,?_⟩
 cases u with
 | way w=>exact av ⟨w,rfl,rfl,by have:=hu'.2.1;show h0.length+_<=_;exact OS hh hhl this⟩
 | sub w ws=>
  obtain⟨a,b,c⟩:=hu'
  refine am ⟨_,rfl,by show(true&&(bF (ws.map .str)&&true))=true;rw [bH];rfl,λR hR=>?_⟩
  refine HZ (k:=k) (here:=h0) (w:=w) (f:=λv=>aV (bl (bl h0 w) (j7 v))) (by have:=a.2.1;exact OS hh hhl this) (by rw [ae];exact EA b) (λv hv=>?_) hR
  obtain⟨s,hs,rfl⟩:=aH.mp hv
  refine⟨bH _,av ⟨s,rfl,rfl,?_⟩⟩
  have h1:=(c s hs).2.1
  have h2:=(ka nr a).2
  have h3:=kb (bl h0 w)
  exact Q8 h1 h2 h3
theorem Gy{v:cP}(h:Cz 8 v):iT (vY v)/\(vY v).length<=600:=by
 cases v with
 | way w=>exact⟨h.2.2,ah h.2.1 (by decide)⟩
 | sub w ws=>
  obtain⟨a,b,c⟩:=h
  have h1:∀x∈fU::w::ws,iT x/\x.length<=10:=λx hx=>by
   rcases ay.mp hx with rfl | hx
   ·exact⟨qk,by decide⟩
   ·rcases ay.mp hx with rfl | hx
    ·exact⟨a.2.2,a.2.1⟩
    ·exact⟨(c x hx).2.2,(c x hx).2.1⟩
  have h2:=Hq λx hx=>(h1 x hx).2
  refine⟨uQ λx hx=>(h1 x hx).1,ah h2 ?_⟩
  exact ah (kF _ (cT (cT b))) (by decide)
noncomputable def Ox:PV->LS
 | .str s=>s
 | .list [.str w,.list l]=>lN (fU::w::l.map j7)
 | _=>[]
theorem ui(v:cP):Ox (jm v)=vY v:=by
 cases v with
 | way w=>rfl
 | sub w ws=>show lN (fU::w::(ws.map PV.str).map j7)=_;rw [m8];rfl
theorem NH{k:Nat}{V:List cP}(h:rx 8 V):eh (k+3) 911 [VP V] (.str (lN (fU::eI::V.map vY))):=by
 have e:V.map vY=(V.map jm).map Ox:=by
  rw [aG]
  exact bf λv ζ=>(ui v).symm
 have bnd:∀(l:List LS) (m:Nat),(∀x∈l,x.length<=600)->l.length<=10->((l.map c6).map bY).sum+(m+2)<=100000+m:=λl m h1 h2=>by
  exact p3 (ah (Gv h1) (kF _ h2))
 have hV:=h.1
 have hall:∀x∈V.map vY,x.length<=600:=λx hx=>by
  obtain⟨v,hv,rfl⟩:=aH.mp hx
  exact(Gy (h.2 v hv)).2
 have hall2:∀x∈fU::eI::V.map vY,x.length<=600:=λx hx=>by
  rcases ay.mp hx with rfl | hx
  ·decide
  ·rcases ay.mp hx with rfl | hx
   ·decide
   ·exact hall x hx
 have b1:=bnd (fU::eI::V.map vY) (V.map jm).length hall2 (by rw [ao,ao,ae];exact OR hV)
 rw [e]at b1 hall ⊢
 refine H1 (k:=k+1) (by rw [ae];exact EA hV) (ah b1 (by rw [ae];exact Q7 hV)) (λs hs=>?_) λv hv=>?_
 ·rcases ay.mp hs with rfl | hs
  ·decide
  ·have:=hall s hs;exact OQ this
 ·obtain⟨u,hu,rfl⟩:=aH.mp hv
  have hu':=h.2 u hu
  rw [ui]
  cases u with
  | way w=>exact av ⟨w,rfl,rfl⟩
  | sub w ws=>
   obtain⟨a,b,c⟩:=hu'
   refine am ⟨_,rfl,by show(true&&(bF (ws.map .str)&&true))=true;rw [bH];rfl,?_⟩
   have hx:∀x∈fU::w::ws,x.length<=600:=λx hx=>by
    rcases ay.mp hx with rfl | hx
    ·decide
    ·rcases ay.mp hx with rfl | hx
     ·have:=a.2.1;exact OP this
     ·have:=(c x hx).2.1;exact OP this
   have b2:=bnd (fU::w::ws) ws.length hx (by rw [ao,ao];exact OR b)
   have:=H1 (k:=k) (w:=w) (vs:=ws.map .str) (g:=j7) (by rw [ae];exact EA b) (by rw [m8,ae];exact Q6 b b2) (by rw [m8];exact λs hs=>by have:=hx s (an _ hs);exact OQ this) (λv hv=>by
    obtain⟨s,_,rfl⟩:=aH.mp hv
    exact av ⟨s,rfl,rfl⟩)
   rwa [m8]at this
theorem HR{k:Nat}{V:List cP}(h:rx 8 V):eh (k+7) 918 [.str (lN (fU::eI::V.map vY)),.str [47]] (.list ((og V).map b4)):=by
 have hV:=h.1
 have e:(og V).map b4 = .str (aI h0)::V.map λv=>b4 (Es v):=by unfold og;rw [aK,aG];rfl
 rw [e]
 have hf:pq [] eI:=qQ u0 vd (by show 0<=1000;exact Q5)
 refine w9 (k:=k+3) (here:=[]) (w:=eI) (by exact EA hV) (DB (k:=k+1) (ws:=fU::eI::V.map vY) (λw hw=>?_) (λq=>nomatch q) (by rw [ao,ao,ae];exact OO hV)) hf λv hv=>?_
 ·rcases ay.mp hw with rfl | hw
  ·exact⟨qk,by decide⟩
  ·rcases ay.mp hw with rfl | hw
   ·exact⟨vd.2.2,by decide⟩
   ·obtain⟨v,hv,rfl⟩:=aH.mp hw
    have:=Gy (h.2 v hv)
    exact⟨this.1,ah this.2 (by decide)⟩
 ·refine⟨lK _,?_⟩
  have hv':=h.2 v hv
  cases v with
  | way w=>exact am ⟨za hv',qQ nr.1 hv' (ah nr.2 (by decide)),rfl⟩
  | sub w ws=>
   obtain⟨a,b,c⟩:=hv'
   refine av ⟨EQ w ws,?_⟩
   have e2:b4 (Es (.sub w ws)) = .list (.str (aI (bl h0 w))::ws.map λx=>.str (aI (bl (bl h0 w) x))):=by
    show PV.list ((bl h0 w::ws.map (bl (bl h0 w))).map λr=>.str (aI r))=_
    rw [aK,aG];rfl
   rw [e2]
   have hs:∀x∈fU::w::ws,iT x/\x.length<=10000:=λx hx=>by
    rcases ay.mp hx with rfl | hx
    ·exact⟨qk,by decide⟩
    ·rcases ay.mp hx with rfl | hx
     ·exact⟨a.2.2,by have:=a.2.1;exact ON this⟩
     ·exact⟨(c x hx).2.2,by have:=(c x hx).2.1;exact ON this⟩
   refine w9 (k:=k+2) (F:=id) (here:=h0) (w:=w) (by exact EA b) ?_ (qQ nr.1 a (ah nr.2 (by decide))) λx hx=>⟨rfl,am ⟨za (c x hx),qQ (ka nr a).1 (c x hx) (ah (ka nr a).2 (by decide)),rfl⟩⟩
   rw [ms]
   exact DB (k:=k) hs (λq=>nomatch q) (by rw [ao,ao];exact OO b)
theorem NF{k:Nat}{rows:List fk}(h:∀r∈rows,wl r)(hl:rows.length<50):eh (k+3) 937 [.list (rows.map da)] (.list (rows.map b4)):=by
 have e:rows.map b4=(rows.map da).map zk:=by
  rw [aG]
  exact bf λr ζ=>(kP r).symm
 rw [e]
 intro R hR
 refine DA (by rw [ae];exact ah (bg hl) (by decide)) (λx hx=>?_) (bS λr ζ=>lh r) (λx hx=>?_) hR
 ·obtain⟨r,hr,rfl⟩:=aH.mp hx
  rw [kP]
  cases r with
  | leaf r=>exact λR hR=>tN (ah (h _ hr).2 (by decide)) hR
  | node l=>
   have hL:kB l:=h _ hr
   have e2:(l.map λr=>PV.str (aI r))=(l.map aV).map zk:=by
    rw [aG]
    exact bf λr ζ=>(kP (.leaf r)).symm
   show eh _ _ _ (.list (l.map λr=>PV.str (aI r)))
   rw [e2]
   intro R hR
   refine DA (by rw [ae];exact ah (bg hL.2.1) (by decide)) (λx hx=>?_) (bS (f:=aV) λr ζ=>bH r) (λx hx=>?_) hR
   ·obtain⟨r,hr',rfl⟩:=aH.mp hx
    rw [show zk (aV r) = .str (aI r)from kP (.leaf r)]
    exact λR hR=>tN (ah (hL.2.2 r hr').2 (by decide)) hR
   ·obtain⟨r,hr',rfl⟩:=aH.mp hx
    rw [show zk (aV r) = .str (aI r)from kP (.leaf r)];rfl
 ·obtain⟨r,hr,rfl⟩:=aH.mp hx
  rw [kP];exact lK r
theorem Dw{rows:List fk}(h:∀r∈rows,wl r):∀f∈gL rows,jB f:=by
 have hp:∀f∈rows.flatMap gj,jB f:=λf hf=>by
  obtain⟨r,hr,hf⟩:=tr.mp hf
  cases r with
  | leaf r=>rw [show gj (.leaf r)=[r]from rfl,aC]at hf;rw [hf];exact h _ hr
  | node l=>exact(h _ hr).2.2 f hf
 have go:∀(l acc:List (List LS)),(∀f∈acc,jB f)->(∀f∈l,jB f)->∀f∈l.foldl oG acc,jB f:=by
  intro l
  induction l with
  | nil=>exact λacc ha ζ=>ha
  | cons x l ih=>
   intro acc ha hl
   refine ih _ (λf hf=>?_) λf hf=>hl f (an _ hf)
   unfold oG at hf
   cases hc:acc.any λy=>y==x with
   | true=>rw [hc]at hf;exact ha f hf
   | false=>
    rw [hc]at hf
    rcases dk.mp hf with hf | hf
    ·exact ha f hf
    ·rw [aC]at hf;rw [hf];exact hl x aj
 exact go _ [] (λf hf=>nomatch hf) hp
theorem KX{h:List LS}{rest:List fk}:gL (.leaf h::rest)≠[]:=by
 have go:∀(l acc:List (List LS)),acc≠[]->l.foldl oG acc≠[]:=by
  intro l
  induction l with
  | nil=>exact λacc h=>h
  | cons x l ih=>
   intro acc ha
   refine ih _ ?_
   unfold oG
   cases acc.any λy=>y==x
   ·show acc++[x]≠[];simp
   ·exact ha
 exact go (rest.flatMap gj) [h] (λq=>nomatch q)
theorem law_true(ns:List Int)(hn:ns.length<=63):∃R',fE 11 964 [.list (ns.map .int)] [] [.tab]=some (.bool true,R')/\R'[0]? = some .tab:=by
 have h:=JN ns
 have hr:=GS h
 have hV:=h.1
 have hS:noObj (.list (ns.map .int))=true:=bS (f:=PV.int) λζ ζ=>rfl
 have hVn:noObj (VP (e9 ns))=true:=by
  show(true&&(bF ((e9 ns).map jm)&&true))=true
  rw [bS λv ζ=>?_]at ⊢
  ·rfl
  ·cases v with
   | way w=>rfl
   | sub w ws=>show(true&&(bF (ws.map .str)&&true))=true;rw [bH];rfl
 have hlen:(og (e9 ns)).length<50:=by unfold og;rw [ao,ae];exact OT hV
 have hparts:((og (e9 ns)).flatMap gj).length<50000:=by
  have:∀l:List fk,(∀r∈l,wl r)->(l.flatMap gj).length<=l.length*50:=by
   intro l
   induction l with
   | nil=>exact λζ=>aF 0
   | cons r l ih=>
    intro hl
    have h1:=ih λx hx=>hl x (an _ hx)
    have h2:(gj r).length<=50:=by
     have:=hl r aj
     cases r with
     | leaf r=>show 1<=50;decide
     | node l=>exact bg this.2.1
    rw [jH,ai,ao,Nat.succ_mul]
    exact Q4 h1 h2
  have:=this _ hr
  exact Q3 hlen this
 obtain⟨R',h1,h2⟩:=Qk (k:=5) (rows:=og (e9 ns)) (h:=h0) (rest:=(e9 ns).map Es) rfl hS hVn (NR (k:=8) hn) (NG (k:=7) h) (NH (k:=7) h) (HR (k:=3) h) (NF (k:=7) hr hlen) (by exact OU hlen) hparts KX λown ho=>by
  rcases ay.mp ho with rfl | ho
  ·exact⟨gC _ _,Hd (k:=6) hr (gC _ _) hlen (Dw hr)⟩
  ·obtain⟨r,hr',rfl⟩:=aH.mp ho
   obtain⟨hr1,hr2⟩:=vI.mp hr'
   cases r with
   | leaf r=>cases hr2
   | node l=>
    have hL:kB l:=hr _ hr1
    have hne:zE (.node l)≠[]:=λq=>hL.1 (bP.mp q)
    refine⟨hne,Hd (k:=6) (λx hx=>?_) hne (by show(l.map fk.leaf).length<50;rw [ae];exact hL.2.1) (Dw hr)⟩
    obtain⟨y,hy,rfl⟩:=aH.mp hx
    exact hL.2.2 y hy
 have:=et (k:=10) (R:=[.tab]) h1 (by show(noObj (.list (ns.map .int))&&true)=true;rw [hS];rfl) rfl h2 rfl
 exact⟨[.tab],this,rfl⟩
end Mine.W
end
theorem PySem.Challenge.cw_ik0231_01_holds : PySem.Challenge.rw_ik0231_01.Holds :=
 Mine.holds_of (Mine.law_from Mine.W.law_true)
