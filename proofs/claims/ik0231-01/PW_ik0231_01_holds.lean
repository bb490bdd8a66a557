import PyProof.Rows.All
import Wide.All
import OpenK.AllK
import Wide.FinOn
import Lean
import PySem.Challenge.RW_ik0231_01
set_option Elab.async false
set_option tactic.hygienic false
set_option backward.match.sparseCases false
set_option maxHeartbeats 4000000
set_option maxRecDepth 100000
set_option linter.unusedVariables false
set_option bootstrap.genMatcherCode false
set_option genSizeOf false
set_option compiler.extract_closed false
open PySem PySem.W PyProof.Rows
open _root_.And renaming intro->t8
open _root_.Array renaming getElem?_eq_getElem->iJ,forIn_toList->lF,length_toList->CR,isEmpty_iff->FK,size_push->Jo
open _root_.Array.Perm renaming mem_iff->yK
open _root_.Bool renaming and_eq_true_iff->aM,false_eq_true->a0,false_ne_true->bc,and_eq_true->bd,not_eq_true'->cG,or_eq_true->fT,or_eq_true_iff->gt,eq_false_iff->ib,or_eq_false_iff->iz,and_false->jI,not_true->qA,true_and->yI,false_or->yJ,and_assoc->LD,and_self->MB
open _root_.Eq renaming trans->cU,symm->fb
open _root_.Exists renaming imp->CP
open _root_.False renaming elim->nC
open _root_.ForIn renaming forIn->pn
open _root_.ForInStep renaming yield->j0
open _root_.Inhabited renaming default->bO
open _root_.Int renaming toNat_natCast->fy,natCast_nonneg->gS,ofNat_lt->iK,ofNat_le->iL,le_trans->iM,fdiv->kE,not_lt->md,fmod->pX,toNat_of_nonneg->qx,le_of_lt->sW,toNat->tY,min_eq_left->vP,ne_of_gt->A2,le_total->A3,natAbs_of_nonneg->DQ,add_lt_add_right->DR,toNat_of_nonpos->FJ,lt_of_toNat_lt->F5,lt_of_lt_of_le->F6,lt_of_le_of_lt->F7,self_le_toNat->Jj,min_eq_right->JA,max_eq_right->JB
open _root_.Int.ofNat renaming inj->tZ
open _root_.LawfulBEq renaming eq_of_beq->aJ
open _root_.Lean renaming maxHeartbeats->nS
open _root_.List renaming length_map->ae,length_append->ai,mem_cons_self->aj,mem_cons_of_mem->am,length_cons->aq,mem_cons->aw,mem_singleton->aC,mem_map->aH,map_map->aI,map_cons->aN,append_nil->aP,append_assoc->aQ,size_toArray->aT,lookup_cons->a9,mem_of_getElem?->be,map_congr_left->bf,toArray->bk,all_eq_true->bu,getElem?_append_right->bH,not_mem_nil->bJ,map_eq_nil_iff->bQ,getElem?_eq_getElem->bR,getElem?_toArray->bU,map_append->bV,length->bX,drop_eq_getElem_cons->bY,length_pos_iff->b5,mem_append_right->cg,length_nil->cj,length_take->cD,range->cM,length_drop->cT,contains_iff_mem->cZ,getD_eq_getElem?_getD->dg,mem_append->dp,mem_map_of_mem->dE,cons_prefix_cons->dI,cons_lt_cons_iff->dK,filter_cons->d5,nil_prefix->eu,nil_append->ew,forIn_cons->ey,getElem?_eq_some_iff->eE,getElem?_append_left->eF,isEmpty_iff->eO,cons_append->eP,mem_append_left->e9,drop_eq_nil_of_le->fE,lookup->fF,map_id'->fY,mergeSort_perm->gn,filterMap_cons->gr,mapM_cons->gw,cons_ne_nil->gy,length_filter_le->g8,getElem?_eq_none->g9,dropLast_eq_take->hG,length_range->hU,mem_range->iu,mem_of_mem_take->iv,mem_of_mem_drop->iw,forall_mem_cons->ix,filter_eq_self->iV,prefix_append->jj,pairwise_mergeSort->jl,take_zero->jD,getElem?_map->jE,flatMap_cons->jF,drop_zero->jG,take_append_drop->jZ,contains_eq_mem->kB,foldl_cons->kM,map_nil->lw,pairwise_cons->lG,exists_mem_of_ne_nil->mq,not_lt->mu,map_id->mv,nil_lt_cons->nu,take_of_length_le->nO,not_lt_nil->nV,length_singleton->oK,eq_nil_or_concat->oL,drop_take->pE,toList_toArray->qq,take_succ_cons->qr,sum_cons->qu,map_take->qv,any_cons->qw,filter_congr->sm,take_length->tq,mem_flatMap->tr,isEmpty_nil->tu,prefix_rfl->vC,mem_filter->vD,length_set->vE,filter_map->vF,lt_irrefl->wm,forIn_nil->wn,prefix_iff_eq_take->yU,drop->yV,length_eq_one_iff->AC,filter_eq_nil_iff->AD,length_mergeSort->AY,countP_mono_left->AZ,concat_eq_append->A0,pairwise_append->CL,length_dropLast->CM,drop_eq_nil_iff->CN,append_toArray->DP,mem_filterMap->FI,getElem?_set->F0,foldl_append->F1,drop_sublist->F2,map_snd_zip->Jf,le_antisymm->Jg,ext_getElem->Jh,countP_cons->Ji,nodup_cons->Jy,find?_cons->Jz,rec->Lx,drop_drop->Ly,map_drop->Mw,le_trans->Mx,le_total->My,all_cons->Mz
open _root_.List.Mem renaming tail->F3,head->F4
open _root_.List.Perm renaming eq_of_pairwise->tX
open _root_.List.Sublist renaming refl->xn
open _root_.List.cons renaming injEq->dF,inj->jH
open _root_.Min renaming min->yO
open _root_.MonadExcept renaming tryCatch->il
open _root_.Nat renaming le_trans->ah,le_of_eq->aA,le_refl->aF,le_of_lt->bg,zero_le->bo,lt_of_le_of_lt->bp,le_of_ble_eq_true->bv,lt_trans->bI,sub_add_cancel->bP,le_antisymm->bW,le_of_not_lt->cn,add_le_add->cr,succ_le_succ->cV,le_succ->cX,not_lt->dj,lt_of_lt_of_le->dk,le_add_of_sub_le->dm,lt_succ_self->dz,le_add_right->dA,mul_div_le->dQ,zero_add->dU,ne_of_lt->dW,lt_of_not_le->d7,not_le_of_lt->eR,sub_self->eW,lt_or_ge->eX,lt_irrefl->eY,le_of_lt_succ->fx,sub_le->fA,mul_one->f8,lt_mul_div_succ->gv,ne_of_gt->gQ,add_comm->gR,le_add_left->gX,add_assoc->g0,not_lt_zero->ji,le_succ_of_le->jL,ble_eq_true_of_le->kb,not_lt_of_le->km,mul_le_mul_right->kC,add_le_add_right->kD,min_le_left->kW,div_le_self->kX,mod_lt->ma,lt_of_le_of_ne->mc,lt_trichotomy->mK,ble->mL,min_le_right->nB,div_lt_self->oI,sub_eq_zero_of_le->py,sub_one_lt->pR,sub_le_sub_right->pS,sub_le_of_le_add->pU,not_succ_le_zero->pV,le_sub_one_of_lt->pW,beq->qo,add_le_add_left->qt,succ_sub->sS,sub_pos_of_lt->sT,lt_succ_of_le->sU,le_of_succ_le->sV,succ_ne_zero->tW,succ_add_eq_add_succ->yS,lt_add_of_pos_right->AB,zero_mul->AT,lt_of_succ_lt_succ->AU,le_of_add_right_le->AV,eq_zero_of_le_zero->AW,lt_of_sub_eq_succ->CG,le_sub_of_add_le'->CH,le_of_add_left_le->CI,eq_of_beq_eq_true->CJ,sub_sub->DL,le_sub_of_add_le->DM,add_sub_add_left->DN,add_mul->DO,sub_le_sub_left->FG,add_sub_cancel'->FH,lt_of_lt_of_eq->FY,add_sub_cancel->FZ,rec->Jd,lt_of_succ_lt->Je,succ_ne_self->Jx,div_add_mod->Lv
open _root_.Nat.ToInt renaming of_diseq->pz
open _root_.Ne renaming symm->di
open _root_.Option renaming ne_none_iff_exists'->bj,isNone_iff_eq_none->cK,isSome_iff_exists->fX,bind_some->gj,map_some->iZ,bind_eq_some_iff->je,map_eq_some_iff->jB,getD_some->sk,getD_none->FF
open _root_.Option.some renaming inj->aV,injEq->gH
open _root_.Or renaming inr->an,inl->av
open _root_.PUnit renaming unit->DK
open _root_.Prod renaming ext->sj
open _root_.Prod.mk renaming inj->eQ
open _root_.Pure renaming pure->b7
open _root_.PyProof.Rows renaming get?_update_seq->eN,listUpdate_at->tn,oneType'->Js,kwAll_cons->Mo,bubble->Mu,assignInOrder_cons->Mv
open _root_.PySem renaming wpAny_bind->aa,wpAny_pure->ab,Value->af,Shared->ag,wpAny_mono->ao,wpAny->ar,model->ay,Addr->aB,wpAny_holding->aW,strValues->ba,codeAny_builtin->bB,Around->bD,Expr->bE,World->bF,starEach->bS,plainId_quiet->bT,wpAny_newObj_type->cf,builtinLookup_eq_fast->ch,wpAny_of_eq->ci,wpAny_updateSeq->cw,Operator->cy,codeAny->cB,wpAny_tryCatch->cI,Keyword->cS,wpAny_seqItems->c0,letOwnedTupleGo->c6,mainGlobals->da,wpAny_Name->db,Pos->dN,wpAny_setState_of->dR,wpAny_letGo->dS,Params->dZ,NameKind->d3,typeLookup_type->d6,Env->d9,eval->ed,wpAny_call_entry->em,Spec->eo,wpAny_pyNext_list_item->eB,Program->eC,wpAny_call->fj,wpAny_Call_Name_kw->fk,wpAny_standAt->fu,Heap->fv,isSubtype_type->fz,Builtin->fC,attributeBase->fJ,Comprehension->fK,pyNext->fR,Result->fS,wpAny_specialOf->gh,wpAny_truthy_bool->gk,codeAny_mono->gm,rawInt->gz,wpAny_callSpecial?_slot->gM,wpAny_askSetting->gN,entryFor_of_tree->gO,backTo->hO,Stmt->ip,seqItems?->ir,Arguments->iA,assign->iD,wpAny_rule->iX,letTemporaryGo->iY,treeTable->jd,Obj->jf,builtinsNs->jK,updateSeq->jW,wpAny_typeOf->kc,wpAny_pyIter_list->kd,newFunctionEnv->kg,holding->kh,foldedSetIterable->ki,entryFor->kl,wpAny_pyNext_list_end->kL,wpAny_isInstance->kQ,wpAny_execs_cons->kR,typeIs_str->kT,isSubtype->kU,DictEntry->kY,methodCallPos->lu,getItem->lv,subscripted->lz,richCompare->lA,callSpecialIfBoundUnlessNone?->lD,wpAny_execs_nil->lZ,importedModules->l5,argsOk->l6,Thread->l7,wpAny_newFunctionEnv_cells->mM,wpAny_Constant_str->mN,typeLookup->mO,sizeLine->mQ,pyIter->mR,methodCallForm->mS,assignEach->mT,Fin->mU,CmpOp->mX,Call_name1->mY,wpAny_evalAll_nil->nH,standAt->nI,wpAny_comprehension_free->nQ,wpAny_attempt->nR,behindInMarks->nU,specialOf->pi,opaqueClassAbove->pj,compareOp->po,codeAmong->pq,checkBuiltinCall->pr,cellsFrom->pt,wpAny_load->pQ,Call_method1->pY,codeAny_of_tree->qn,wpAny_newTuple->rD,wpAny_field->rE,compPost->rF,callWith_function_kw->rG,bindArgs->rH,wpAny_Constant_none->sP,wpAny_Assign_stores->sQ,swapsWithSole->tj,swappedStores->tm,ExceptHandler->tw,Tok->tU,table->vG,operate->vH,getAttr->vK,compEnvC->vL,Sem->vN,Model->vO,swapsWith->xi,noFill_tuple_add->xj,isSame->xk,keywordEach->yF,notedBy->Az,wpAny_setField->AI,setsByText->AL,recursionLimit->AM,isSubtype_stop->AO,closureFor->AQ,Meets->AX,IsPart->A1,evalArgs_none->CE,callWith_type->CF,seq_tuple_add->DH,fenceModules?->DI,wpAny_callSpecial?_none->Fz,wpAny_allTrue_And_cons->FO,truthy->FP,richCompare_meets_room->FQ,isType->FV,concat_meets->FW,wpAny_allTrue_Or_cons->Jb,codeAny_call_function->Jc,wpAny_alloc->Jr,callWith->Jt,cStatics->Ju,backToKw->Jv,typeOf->Mk,setEntries->Mm,isInstance->Mp,importEnds->Mq,denote->Mr,cellOf->Ms,call_function_tree->Mt
open _root_.PySem.Around renaming under_plainId->bh
open _root_.PySem.AutoSeq1 renaming wpAny_loadPart'->aE,sub_list_list->wq
open _root_.PySem.Bind renaming madeHere->MC
open _root_.PySem.Builtin renaming divisionGoesByPylong->sX
open _root_.PySem.Builtin.Builtins renaming bindParams->dD,unionMembers->LB,nestingLimit->LC
open _root_.PySem.Builtin.Deque renaming size->vR
open _root_.PySem.Builtin.Frozenset renaming addrOf->j2,oneOther->pB,slot0->JC,sizeOf->JD
open _root_.PySem.Builtin.List renaming listExtendWith->dL,listLengthHint->qz,listSameRef->su,listUpdate->sY,listTouch->tz,listItems->tA
open _root_.PySem.Builtin.Range renaming rangeSize->sq
open _root_.PySem.Builtin.Re renaming reNoCollectionInside->pZ,reAnswer->xo
open _root_.PySem.Builtin.Slice renaming slicePlaces->gV,sliceAdjust->kq,sliceApplied->qy
open _root_.PySem.Builtin.SmallTypes renaming iterAll->oM,refuseKeywords->Jl,newRecord->Jm,newClass->Jn
open _root_.PySem.Builtin.Str renaming tooLong->wp
open _root_.PySem.Builtin.Tuple renaming tupleExact->ia
open _root_.PySem.Calls renaming spliced_cons->fI,spliced_nil->hH,evalArgs_plain->ko,callWith_builtin->yX
open _root_.PySem.Code renaming quiet_builtin->rC
open _root_.PySem.Expr renaming ListComp->MA
open _root_.PySem.F renaming plain_max_loop->ct,plain_min_loop->gI,entry_max_loop->i8,plain_extend_loop->jg,slot_bool_hash->jk,args_tuple_add_2->l9,entry_tuple_add->ms,slot_tuple_add->mV,plainAttrs_str->mW,slot_set_iter->nA,slot_tuple_getitem->tV,entry_min_loop->vQ,plainAttrs_list->wk,args_str_join_2->wl,slot_str_split->xl,args_set_add_2->xm,slot_str_join->yG,entry_set_add->yH,slot_set_add->yQ,slot_list_lt->yR,called_tuple->yW,entry_extend_loop->Jk,plain_tuple_new->Lz,plain_list_iadd->LA
open _root_.PySem.Heap renaming get?_push_of_some->au,get?_update_other->aD,get?_push_size->aU,get?_update_self->cA,lt_size->c8,size_push->iy,nsMap->nP,get?_none_of_le->pF,SameBut->so,ExtBut->CO
open _root_.PySem.Heap.SameBut renaming update->jM
open _root_.PySem.Manifest renaming signature?->yT
open _root_.PySem.MeetsSeq3 renaming plain_eq_loop->cY,entry_eq_loop->iU
open _root_.PySem.NameKind renaming free->d8,cell->pA
open _root_.PySem.Obj renaming mapSeq->bC,mapFields->rB
open _root_.PySem.PyData renaming depthAll->kA,keyHash->oH,canLayAll0->DJ,strOk->Lu
open _root_.PySem.SeqAt renaming shaped->rI
open _root_.PySem.SetTable renaming below->FE
open _root_.PySem.Sre renaming M->l8,Seen->sR
open _root_.PySem.Sre.M renaming admitted->vM,runFor->yP,attemptFrom->FC,mk->Jw
open _root_.PySem.Str renaming ofString->et,mk->FX
open _root_.PySem.Txt renaming split->AA
open _root_.PySem.Value renaming bool->dT,str->iE,ref->jY,type->lE,notImplemented->AS
open _root_.PySem.W renaming emptyDict->gP,findIn->kj,hideAll_get->lC,SharedT->mr,tabObj->mP,instObj->nK,Looks->qp,hideAll->sg,absHeap->si,kas_rev->vI,kas_descPart->vJ,plainGet_of->yD,lookIn_dict->yE,opening->Ay,typeIn->AJ,peekA->AN,dictOf->AP,any_some->AR,kas_tail3->FA,kas_place->FB,looks_findIn->FU,stepOk->Ml,namesBound->Mn
open _root_.PySem.W.Fast renaming tw14364793385576792824->nz,tw8920871248978507458->nL,tw5923862056798008813->nN,tw9807087744658564304->wo
open _root_.PySem.W.KasT renaming kasWp_bind->kN
open _root_.PySem.W.Looks renaming of_peek->fD,of_pure->Lw
open _root_.PySem.W.SharedT renaming abs->Ls
open _root_.PySem.callAny renaming viaDunder->CD
open _root_.ToString renaming toString->jC
namespace Mine
@[elab_as_elim] theorem rwG {α:Sort u} {a b:α} {M:α->Prop} (h:a=b) (p:M b):M a:=h▸p
@[elab_as_elim] theorem rwB {α:Sort u} {a b:α} {M:α->Prop} (h:b=a) (p:M b):M a:=h▸p
end Mine
local macro_rules
| `(term| ∅)=>`(by kernel_rfl)
| `(tactic| rewrite [$e:term])=>`(tactic| first | with_reducible_and_instances refine Mine.rwG $e ?_ | with_reducible_and_instances refine Mine.rwG ($e ..) ?_ | rewrite [$e:term]at ⊢)
| `(tactic| rewrite [<-$e:term])=>`(tactic| first | with_reducible_and_instances refine Mine.rwB $e ?_ | with_reducible_and_instances refine Mine.rwB ($e ..) ?_ | rewrite [<-$e:term]at ⊢)
| `(tactic| rewrite [$e:rwRule,$es:rwRule,*])=>`(tactic| (rewrite [$e:rwRule];rewrite [$es:rwRule,*]))
| `(tactic| show $t:term)=>`(tactic| first | refine(?_ : $t) | change $t at ⊢)
section
namespace Mine
section
set_option genSizeOf false
set_option genInjectivity false
inductive LE where
 | v (i:Nat)
 | n (k:Nat)
 | a (x y:LE)
 | m (k:Nat) (x:LE)
end
noncomputable def LE.d(c:List Nat)(e:LE):Nat:=LE.rec (λi=>c.getD i 0) (λk=>k) (λζ ζ x y=>x+y) (λk ζ x=>k*x) e
noncomputable def LE.co(e:LE)(j:Nat):Nat:=LE.rec (λi=>bif qo j (i+1)then 1 else 0) (λk=>bif qo j 0 then k else 0) (λζ ζ x y=>x+y) (λk ζ x=>k*x) e
noncomputable def lX(c:List Nat)(j:Nat):Nat:=Jd 1 (λj ζ=>c.getD j 0) j
noncomputable def lS(f:Nat->Nat)(n:Nat):Nat:=Jd (f 0) (λn x=>x+f (n+1)) n
noncomputable def lB(f g:Nat->Nat)(n:Nat):Bool:=Jd (mL (f 0) (g 0)) (λn x=>mL (f (n+1)) (g (n+1))&&x) n
theorem PS{f g X:Nat->Nat}(n:Nat)(h:lB f g n=true):lS (λj=>f j*X j) n<=lS (λj=>g j*X j) n:=by
 induction n with
 | zero=>exact kC _ (bv h)
 | succ n ih=>
  have h:=(bd _ _).mp h
  exact cr (ih h.2) (kC _ (bv h.1))
theorem Hr{X:Nat->Nat}(i n:Nat):lS (λj=>(bif qo j i then 1 else 0)*X j) n=bif mL i n then X i else 0:=by
 induction n with
 | zero=>cases i with
  | zero=>exact Nat.one_mul _
  | succ i=>exact AT _
 | succ n ih=>
  refine(congrArg (· + (bif qo (n+1) i then 1 else 0)*X (n+1)) ih).trans ?_
  rcases mK i (n+1)with h | h | h
  ·rw [show mL i n=true from kb (fx h),show mL i (n+1)=true from kb (bg h),show qo (n+1) i=false from ib.mpr λq=>dW h (CJ q).symm]
   exact congrArg _ (AT _)
  ·subst h
   rw [show mL (n+1) n=false from ib.mpr λq=>Nat.not_succ_le_self n (bv q),show mL (n+1) (n+1)=true from kb (aF _),show qo (n+1) (n+1)=true from Nat.beq_refl _]
   exact(dU _).trans (Nat.one_mul _)
  ·rw [show mL i n=false from ib.mpr λq=>eR (Je h) (bv q),show mL i (n+1)=false from ib.mpr λq=>eR h (bv q),show qo (n+1) i=false from ib.mpr λq=>dW h (CJ q)]
   exact congrArg _ (AT _)
theorem Nh{f g X:Nat->Nat}(n:Nat):lS (λj=>(f j+g j)*X j) n=lS (λj=>f j*X j) n+lS (λj=>g j*X j) n:=by
 induction n with
 | zero=>exact DO _ _ _
 | succ n ih=>exact(congr (congrArg _ ih) (DO _ _ _)).trans (Nat.add_add_add_comm _ _ _ _)
theorem Hs{f X:Nat->Nat}(k n:Nat):lS (λj=>(k*f j)*X j) n=k*lS (λj=>f j*X j) n:=by
 induction n with
 | zero=>exact Nat.mul_assoc _ _ _
 | succ n ih=>exact(congr (congrArg _ ih) (Nat.mul_assoc _ _ _)).trans (Nat.mul_add _ _ _).symm
theorem LE.den(c:List Nat)(e:LE):e.d c=lS (λj=>e.co j*lX c j) c.length:=by
 induction e with
 | v i=>
  refine cU ?_ (Hr (i+1) c.length).symm
  cases h:mL (i+1) c.length with
  | true=>rfl
  | false=>exact(dg).trans (congrArg (·.getD 0) (g9 (cn λq=>bc (h▸kb q))))
 | n k=>
  show k=_
  refine cU (cU (f8 k).symm ?_) (Hs (f:=λj=>bif qo j 0 then 1 else 0) (X:=lX c) k c.length).symm |>.trans ?_
  ·rw [Hr];rfl
  ·exact congrArg (lS · c.length) (funext λj=>congrArg (· * lX c j) (by cases j with | zero=>exact f8 k | succ j=>exact Nat.mul_zero k))
 | a x y ihx ihy=>exact(congr (congrArg _ ihx) ihy).trans (Nh c.length).symm
 | m k x ih=>exact(congrArg _ ih).trans (Hs k c.length).symm
structure LH where
 k:Nat
 l:LE
 r:LE
noncomputable def lL(hs:List LH):LE:=Lx (.n 0) (λh ζ t=>.a (.m h.k h.l) t) hs
noncomputable def lR(hs:List LH):LE:=Lx (.n 0) (λh ζ t=>.a (.m h.k h.r) t) hs
noncomputable def lI(c:List Nat)(G:Prop)(hs:List LH):Prop:=Lx G (λh ζ t=>h.l.d c<=h.r.d c->t) hs
theorem PT{c:List Nat}{G:Prop}:∀(hs:List LH),((lL hs).d c<=(lR hs).d c->G)->lI c G hs:=λhs=>by
 induction hs generalizing G with
 | nil=>exact λk=>k (aF _)
 | cons h t ih=>exact λk q=>ih λz=>k (cr (Nat.mul_le_mul_left _ q) z)
theorem dh(c:List Nat)(g:Nat)(hs:List LH)(l r:LE)(ok:lB (LE.co (.a (.m (g+1) l) (lR hs))) (LE.co (.a (.m (g+1) r) (.a (lL hs) (.n g)))) c.length=true):lI c (l.d c<=r.d c) hs:=PT hs λq=>by
 have h:(g+1)*l.d c+(lR hs).d c<=(g+1)*r.d c+((lL hs).d c+g):=by
  have:=PS (X:=lX c) c.length ok
  rw [<-LE.den,<-LE.den]at this
  exact this
 refine fx (Nat.lt_of_mul_lt_mul_left (a:=g+1) ?_)
 rw [Nat.mul_succ]
 refine sU (Nat.le_of_add_le_add_right (b:=(lR hs).d c) (ah h ?_))
 show _+(_+g)<=_+g+_
 exact(g0 _ g _).symm▸qt (ah (kD q g) (aA (gR _ g))) _
theorem m2(P:Nat->Prop)(h0:∀k,P (2*k))(h1:∀k,P (2*k+1))(a:Nat):P a:=by
 rcases Nat.mod_two_eq_zero_or_one a with h | h
 ·have:=Lv a 2;rw [h]at this;exact this▸h0 (a/2)
 ·have:=Lv a 2;rw [h]at this;exact this▸h1 (a/2)
theorem d0(k:Nat):2*k/2=k:=Nat.mul_div_cancel_left k (by decide)
theorem d1(k:Nat):(2*k+1)/2=k:=Nat.mul_add_div (by decide) k 1
theorem tP(a:Nat):((-1)+(a:Int)).toNat=a-1:=(congrArg tY (Int.add_comm (-1) a)).trans (Int.toNat_sub a 1)
theorem tM(x:Int):x.toNat=(max 0 x).toNat:=(A3 0 x).elim (λh=>congrArg tY (JB h).symm) λh=>(FJ h).trans (congrArg tY (Int.max_eq_left h).symm)
theorem o0{a b:Nat}:a+(b+1)=a+1+b:=fb (yS a b)
theorem o1{a:Nat}(h0:¬(((63:Nat):Int)<(a:Int))):a<=63:=cn λq=>h0 (iK.mpr q)
theorem o2{a b:Nat}(h0:a<b):a+1<=b:=Nat.succ_le_of_lt h0
theorem o3{a b:Nat}(h0:a+10*(b+1)<=900):a+10*b<=900:=dh [a,b] 0 [⟨1,.a (.v 0) (.m 10 (.a (.v 1) (.n 1))),.n 900⟩] (.a (.v 0) (.m 10 (.v 1))) (.n 900) (.refl true) h0
theorem o4{a b:Nat}(h0:a+50*(b+1)<=9000):a+1+50*b<=9000:=dh [a,b] 0 [⟨1,.a (.v 0) (.m 50 (.a (.v 1) (.n 1))),.n 9000⟩] (.a (.a (.v 0) (.n 1)) (.m 50 (.v 1))) (.n 9000) (.refl true) h0
theorem o5{a b c:Nat}(h0:a<=b)(h1:c+10*b<=900):c+10*a<=900:=dh [a,b,c] 0 [⟨10,.v 0,.v 1⟩,⟨1,.a (.v 2) (.m 10 (.v 1)),.n 900⟩] (.a (.v 2) (.m 10 (.v 0))) (.n 900) (.refl true) h0 h1
theorem o6{a b c:Nat}(h0:a<=b)(h1:c+50*b<=9000):c+50*a<=9000:=dh [a,b,c] 0 [⟨50,.v 0,.v 1⟩,⟨1,.a (.v 2) (.m 50 (.v 1)),.n 9000⟩] (.a (.v 2) (.m 50 (.v 0))) (.n 9000) (.refl true) h0 h1
theorem o7{a b:Nat}(h0:a<=b):a-b=0:=py h0
theorem o8{a b:Nat}(h0:a+10*(b+1)<=900):a+1+10*b<=900:=dh [a,b] 0 [⟨1,.a (.v 0) (.m 10 (.a (.v 1) (.n 1))),.n 900⟩] (.a (.a (.v 0) (.n 1)) (.m 10 (.v 1))) (.n 900) (.refl true) h0
theorem o9{a b:Nat}(h0:a+50*(b+1)<=9000):a+3+50*b<=9000:=dh [a,b] 0 [⟨1,.a (.v 0) (.m 50 (.a (.v 1) (.n 1))),.n 9000⟩] (.a (.a (.v 0) (.n 3)) (.m 50 (.v 1))) (.n 9000) (.refl true) h0
theorem UU{a b:Nat}(h0:a+10*(b+2)<=900):a<1000:=dh [a,b] 0 [⟨1,.a (.v 0) (.m 10 (.a (.v 1) (.n 2))),.n 900⟩] (.a (.v 0) (.n 1)) (.n 1000) (.refl true) h0
theorem LI{a b:Nat}(h0:a<=b):a+1<=b+1:=kD h0 1
theorem WV{a b c:Nat}(h0:a<=b)(h1:c<=b):(max a c)<=b:=Nat.max_le_of_le_of_le h0 h1
theorem WU{a b:Nat}(h0:a+50*b<=9000):a+64<9900:=dh [a,b] 0 [⟨1,.a (.v 0) (.m 50 (.v 1)),.n 9000⟩] (.a (.a (.v 0) (.n 64)) (.n 1)) (.n 9900) (.refl true) h0
theorem WT{a b:Nat}{c:Int}(h0:a<=b)(h1:(b:Int)<c):(a:Int)<c:=F7 (iL.mpr h0) h1
theorem Ui{a:Nat}{b:Int}(h0:(a:Int)<b):¬((a:Int)≥b):=Int.not_le.mpr h0
theorem WS{a b c d:Nat}(h0:a<=6)(h1:b+64<c):b+1+(yO a d)<c:=dh [a,b,c,yO a d] 0 [⟨1,.v 0,.n 6⟩,⟨1,.a (.a (.v 1) (.n 64)) (.n 1),.v 2⟩,⟨1,.v 3,.v 0⟩] (.a (.a (.a (.v 1) (.n 1)) (.v 3)) (.n 1)) (.v 2) (.refl true) h0 h1 (kW a d)
theorem VE{a:Nat}(h0:a<=1000000):(a:Int)<=1000000:=Nat.ToInt.of_le rfl rfl h0
theorem W8{a:Int}(h0:¬(0<=a)):a<0:=Int.lt_of_not_ge h0
theorem VD{b:Nat}{a:Int}(h0:0<=a+(b:Int)):(-(b:Int))<=a:=Int.add_nonneg_iff_neg_le.mp h0
theorem WR{a:Int}(h0:0<=a):¬(a<0):=Int.not_lt_of_ge h0
theorem W7{b:Nat}{a:Int}(h0:a<(b:Int))(h1:¬(a<0)):0<=a/\a<(b:Int):=⟨md.mp h1,h0⟩
theorem WQ{b:Nat}{a:Int}(h0:0<=a+(b:Int))(h1:a<0):0<=a+(b:Int)/\a+(b:Int)<(b:Int):=⟨h0,F6 (DR h1 b) (Int.le_of_eq (Int.zero_add b))⟩
theorem VC{b:Nat}{a:Int}:(a+(b:Int)).toNat=(max 0 (a+(b:Int))).toNat:=tM _
theorem VB{a:Nat}{b:Int}(h0:(a:Int)<=b):a<=b.toNat:=iL.mp (iM h0 (Jj b))
theorem WP{a b:Nat}{c:Int}(h0:a<=b)(h1:(b:Int)<=c):a<=c.toNat:=ah h0 (iL.mp (iM h1 (Jj c)))
theorem WO{a b:Nat}:(yO a b)<=b:=nB a b
theorem WN{a b c:Nat}:(yO (a-b) (c-b))<=c:=ah (nB _ _) (fA _ _)
theorem WM{a b:Nat}:((a:Int)-(b:Int)-1+1).toNat=a-b:=(congrArg tY (Int.sub_add_cancel _ _)).trans (Int.toNat_sub a b)
theorem WL{a b:Nat}:((a:Int)+(b:Int)*1).toNat=a+b:=congrArg (λx=>((a:Int)+x).toNat) (Int.mul_one _)
theorem WK{a b c:Nat}(h0:a-b=c)(h1:a<=c)(h2:b<=c):b=0:=AW (Nat.le_of_add_le_add_left (a:=a) (ah (kD h1 b) (h0▸aA (bP (ah h2 (h0▸fA a b))))))
theorem WJ{a b c:Nat}(h0:a-b=c):c<=a-0:=h0▸fA a b
theorem Oc{a b:Nat}(h0:a<=b):a<=b+1:=Nat.le_add_right_of_le h0
theorem WI{a b:Nat}(h0:a<=b):a-1<=b:=ah (fA a 1) h0
theorem VA{a b:Nat}(h0:a<=b+1):a+1<=b+1+1:=LI h0
theorem Vz{a b:Nat}(h0:a<900)(h1:b<=a+1):b<=900:=ah h1 h0
theorem Vy{a b:Nat}{c:Int}(h0:a<b)(h1:b=c.toNat):a<c.toNat:=FY h0 h1
theorem WH{a:Nat}{b:Int}(h0:a<b.toNat):0<((b.toNat:Nat):Int)-(a:Int):=Int.sub_pos_of_lt (iK.mpr h0)
theorem WG{a:Nat}:((a+1:Nat):Int)=(a:Int)+1:=Nat.ToInt.add_congr rfl rfl
theorem WF{b:Nat}{a:Int}:((a.toNat:Nat):Int)-((b+1:Nat):Int)=((a.toNat:Nat):Int)-(b:Int)-1:=(Int.sub_sub (a.toNat:Int) (b:Int) 1).symm
theorem WE{b:Nat}{a:Int}(h0:a.toNat<=b):((a.toNat:Nat):Int)-(b:Int)<=0:=by lia
theorem WD{a b:Nat}(h0:¬(a<256))(h1:b<256):a≠b:=λq=>h0 (q.symm▸h1)
theorem WC{a b:Nat}(h0:¬(a<256))(h1:b<256):¬(a<=b):=λq=>h0 (bp q h1)
theorem WB{a:Nat}:7+a/32=6+(1+a/32):=by lia
theorem WA{a b c:Nat}(h0:a=b)(h1:c≥a):b<=c:=le_of_eq_of_le h0.symm h1
theorem Wz{a b c:Nat}(h0:a=b)(h1:¬(c≥a)):c<b:=h0▸d7 h1
theorem Wy{a b c:Nat}(h0:a+1-b<=c+1):a+1-(b+1)<=c:=by rw [<-DL];exact pU h0
theorem Wx{a b:Nat}(h0:a<b):¬(a≥b):=eR h0
theorem Ww{a:Nat}(h0:a<=1000000):(yO 9223372036854775807 a)=a:=Nat.min_eq_right (ah h0 (by decide))
theorem Wv{a b c d:Nat}(h0:a+(b+1)<=c)(h1:d=a):d+1<=c:=h1.symm▸ah (cV (dA a b)) h0
theorem Wu{a b:Nat}(h0:a+50*(b+1)<=9000):a+1+1+1+1+50*b<=9000:=dh [a,b] 0 [⟨1,.a (.v 0) (.m 50 (.a (.v 1) (.n 1))),.n 9000⟩] (.a (.a (.a (.a (.a (.v 0) (.n 1)) (.n 1)) (.n 1)) (.n 1)) (.m 50 (.v 1))) (.n 9000) (.refl true) h0
theorem Wt{a b c:Nat}(h0:a+2<=b)(h1:c+10*(b+1)<=900):c+10*(a+2)<=900:=dh [a,b,c] 0 [⟨10,.a (.v 0) (.n 2),.v 1⟩,⟨1,.a (.v 2) (.m 10 (.a (.v 1) (.n 1))),.n 900⟩] (.a (.v 2) (.m 10 (.a (.v 0) (.n 2)))) (.n 900) (.refl true) h0 h1
theorem Ws{a b c:Nat}(h0:a+2<=b)(h1:c+50*(b+1)<=9000):c+1+1+50*(a+2)<=9000:=dh [a,b,c] 0 [⟨50,.a (.v 0) (.n 2),.v 1⟩,⟨1,.a (.v 2) (.m 50 (.a (.v 1) (.n 1))),.n 9000⟩] (.a (.a (.a (.v 2) (.n 1)) (.n 1)) (.m 50 (.a (.v 0) (.n 2)))) (.n 9000) (.refl true) h0 h1
theorem Wr{a:Nat}:a<=a+2:=by lia
theorem Wq{a b:Nat}(h0:a+2<=b):a+3<=b+1:=LI h0
theorem Wp{a b:Nat}(h0:a≥b):¬(a<b):=dj.mpr h0
theorem Wo{a b:Nat}(h0:a<=b):¬(a>b):=km h0
theorem Wn{a b:Nat}(h0:a<b):¬(b<a):=Nat.not_lt_of_gt h0
theorem Vx{a b:Nat}(h0:a-b=0)(h1:b<=a):b=a:=bW h1 (Nat.le_of_sub_eq_zero h0)
theorem Q8{a b c:Nat}(h0:a-b=c+1):b<a:=CG h0
theorem Vw{a b c:Nat}(h0:a-b=c+1):a-(b+1)=c:=by rw [<-DL,h0];rfl
theorem OL{a b:Nat}(h0:a<=b)(h1:a≥b):a=b:=bW h0 h1
theorem Vv{a b:Nat}(h0:a<b):a<b:=by omega
theorem Wm{a b:Nat}(h0:a+50*b<=9000):a<9900:=dh [a,b] 0 [⟨1,.a (.v 0) (.m 50 (.v 1)),.n 9000⟩] (.a (.v 0) (.n 1)) (.n 9900) (.refl true) h0
theorem Vu{a:Nat}:a+1<=a+2:=cX (a+1)
theorem Wl{a b:Nat}(h0:(a:Int)>(b:Int)):b<a:=iK.mp h0
theorem Wk{a b:Nat}(h0:¬((a:Int)>(b:Int))):¬(b<a):=λq=>h0 (iK.mpr q)
theorem Wj{a:Nat}(h0:2<=a):0+2<=a+1:=Oc h0
theorem Q7{a b:Nat}:a<=a+(b+1):=dA a (b+1)
theorem OK{a:Nat}:1<=a+1:=by lia
theorem QO{a b c:Nat}(h0:a+(b+1)<=c):a+1+b<=c:=dh [a,b,c] 0 [⟨1,.a (.v 0) (.a (.v 1) (.n 1)),.v 2⟩] (.a (.a (.v 0) (.n 1)) (.v 1)) (.v 2) (.refl true) h0
theorem QN{a b:Nat}(h0:a+1<=b):a<=b:=sV h0
theorem QM{a b c:Nat}(h0:a<=b+1+c):a<=b+(c+1):=dh [a,b,c] 0 [⟨1,.v 0,.a (.a (.v 1) (.n 1)) (.v 2)⟩] (.v 0) (.a (.v 1) (.a (.v 2) (.n 1))) (.refl true) h0
theorem Wi{a b c:Nat}(h0:a<b+(c+1)):a<b+1+c:=dh [a,b,c] 0 [⟨1,.a (.v 0) (.n 1),.a (.v 1) (.a (.v 2) (.n 1))⟩] (.a (.v 0) (.n 1)) (.a (.a (.v 1) (.n 1)) (.v 2)) (.refl true) h0
theorem QL{a b:Nat}(h0:a<b+1)(h1:a≥b):a=b:=Nat.eq_of_le_of_lt_succ h1 h0
theorem Q6{a b:Nat}(h0:a<b):a<=b-1:=pW h0
theorem Q5{a b:Nat}(h0:a<b):b-1<b:=Nat.sub_one_lt_of_lt h0
theorem Q4{a b:Nat}(h0:¬(a<b)):b<=a:=cn h0
theorem Wh{a b:Nat}:2*((a-b)/2)<=a-b:=dQ (a-b) 2
theorem w3{a b c m:Nat}(h:m<=c-a)(p:a<=b)(q:b<a+m):b<c:=d7 λw=>eY _ (bp (ah h (pS w a)) (Nat.sub_lt_left_of_lt_add p q))
theorem w4{a b c m:Nat}(h:m<=c-a)(p:c-m<=b)(q:b<c):a<=b:=by
 rcases Nat.le_total a c with e | e
 ·exact ah (DM (gR a m▸(Nat.le_sub_iff_add_le e).mp h)) p
 ·rw [py e]at h
  rw [AW h]at p
  exact absurd q (dj.mpr p)
theorem Wg{a b c:Nat}(h0:a<=b/\b<a+(c-a)/2\/c-(c-a)/2<=b/\b<c):a<=b/\b<c:=h0.elim (λh=>⟨h.1,w3 (kX _ 2) h.1 h.2⟩) λh=>⟨w4 (kX _ 2) h.1 h.2,h.2⟩
theorem w6{a b c m:Nat}(h:c<2*(m+1)+a)(h1:a+m<=b)(h2:b+m<c):b=a+m/\c=a+m+m+1:=⟨bW (dh [c,m,a,b] 0 [⟨1,.a (.v 0) (.n 1),.a (.m 2 (.a (.v 1) (.n 1))) (.v 2)⟩,⟨1,.a (.a (.v 3) (.v 1)) (.n 1),.v 0⟩] (.v 3) (.a (.v 2) (.v 1)) (.refl true) h h2) (dh [m,a,b] 0 [⟨1,.a (.v 1) (.v 0),.v 2⟩] (.a (.v 1) (.v 0)) (.v 2) (.refl true) h1),bW (dh [c,m,a] 0 [⟨1,.a (.v 0) (.n 1),.a (.m 2 (.a (.v 1) (.n 1))) (.v 2)⟩] (.v 0) (.a (.a (.a (.v 2) (.v 1)) (.v 1)) (.n 1)) (.refl true) h) (dh [c,m,a,b] 0 [⟨1,.a (.v 2) (.v 1),.v 3⟩,⟨1,.a (.a (.v 3) (.v 1)) (.n 1),.v 0⟩] (.a (.a (.a (.v 2) (.v 1)) (.v 1)) (.n 1)) (.v 0) (.refl true) h1 h2)⟩
theorem WY{a b c:Nat}(h:a-b<c):a<c+b:=bp (dm (aF _)) (Nat.add_lt_add_right h b)
theorem w2{a b c m:Nat}(h:c-a<2*(m+1))(h1:a+m<=b)(h2:b<c-m):a+c-1-b=b:=by
 obtain⟨rfl,rfl⟩:=w6 (WY h) h1 (Nat.add_lt_of_lt_sub h2)
 show a+(a+m+m)-(a+m)=a+m
 rw [show a+(a+m+m)=a+m+(a+m) by rw [Nat.add_right_comm a m m,Nat.add_left_comm,g0],FZ]
theorem Wf{a b c:Nat}(h0:¬(a<=b/\b<a+(c-a)/2\/c-(c-a)/2<=b/\b<c))(h1:a<=b/\b<c):a+c-1-b=b:=w2 (gv (c-a) (by decide)) (cn λq=>h0 (.inl ⟨h1.1,q⟩)) (d7 λq=>h0 (.inr ⟨q,h1.2⟩))
theorem We{a b c:Nat}(h0:a<=b/\b<c):a<=a+c-1-b:=DM (Nat.le_pred_of_lt (Nat.add_lt_add_left h0.2 a))
theorem Wd{a b c:Nat}(h0:a<=b/\b<c):a+c-1-b<c:=by
 refine bp (FG h0.1 _) ?_
 rw [Nat.sub_right_comm,Nat.add_sub_cancel_left]
 exact pR (gQ (bp (bo b) h0.2))
theorem Wc{a b c:Nat}(h0:a<=b)(h1:b<c):0<=a/\a<c:=⟨bo a,bp h0 h1⟩
theorem Wb{a b:Nat}(h0:a<b):0<=a/\a<b:=if_false_right.mp h0
theorem Wa{a b c:Nat}(h0:a<=b):0+c-1-b<=0+c-1-a:=FG h0 (0+c-1)
theorem V9{a b c:Nat}(h0:a<b):0+b-1-c<b:=by
 refine bp (fA _ _) ?_
 rw [dU]
 exact pR (gQ (bp (bo a) h0))
theorem V8{a b c:Nat}(h0:a+(b+1)<=c):a<=c:=AV h0
theorem Q3{a:Nat}:0+1<=a+1:=gX (0+1) a
theorem Q2{a b:Nat}(h0:a+1-(0+1)<=b)(h1:b<a+1):b=a+1-1:=QL h1 h0
theorem V7{a b:Nat}(h0:a+1<=b):a+1+1<=b+1:=LI h0
theorem V6{a b c:Nat}(h0:a+1-(b+1+1)<=c):a-(b+1)<=c:=ah (aA (Nat.add_sub_add_right a 1 (b+1)).symm) h0
theorem Vt{a b:Nat}(h0:¬(a<b))(h1:¬(b<a)):b=a:=bW (cn h0) (cn h1)
theorem Q1{a b:Nat}(h0:a<=b):a+(b-a)<=b:=dh [a,b,(b-a)] 0 [⟨1,.a (.v 2) (.v 0),.v 1⟩] (.a (.v 0) (.v 2)) (.v 1) (.refl true) (aA (bP (dh [a,b] 0 [⟨1,.v 0,.v 1⟩] (.v 0) (.v 1) (.refl true) h0)))
theorem V5{a b:Nat}(h0:1<=a)(h1:a<=b):1<=b:=ah h0 h1
theorem Vs{a b c:Nat}(h0:a<=b)(h1:c<=a+(b-a)):c<=b:=dh [a,b,c,(b-a)] 0 [⟨1,.v 2,.a (.v 0) (.v 3)⟩,⟨1,.a (.v 3) (.v 0),.v 1⟩] (.v 2) (.v 1) (.refl true) h1 (aA (bP (dh [a,b] 0 [⟨1,.v 0,.v 1⟩] (.v 0) (.v 1) (.refl true) h0)))
theorem V4{a b:Nat}(h0:a+1<=b):a+1+(b-(a+1))<=b:=Q1 h0
theorem Q0{a b c:Nat}(h0:a+1<=b)(h1:c<=a+1+(b-(a+1))):c<=b:=Vs h0 h1
theorem Vr{a b:Nat}(h0:a+1<=b):1<=b:=Nat.one_le_of_lt h0
theorem V3{a:Nat}(h0:0<a):1+(a-1)<=a:=Q1 h0
theorem UT{a b:Nat}(h0:a<=b)(h1:b<1):a=b:=bW (dh [a,b] 0 [⟨1,.v 0,.v 1⟩] (.v 0) (.v 1) (.refl true) h0) (dh [a,b] 0 [⟨1,.a (.v 1) (.n 1),.n 1⟩] (.v 1) (.v 0) (.refl true) h1)
theorem M4{a b:Nat}(h0:a=b):a<=b:=aA h0
theorem US{a b:Nat}(h0:0<a)(h1:b<=1+(a-1))(h2:¬(b=a)):b<1+(a-1):=mc h1 λq=>h2 (q.trans ((gR _ _).trans (bP h0)))
theorem Pw{a b:Nat}(h0:a<=1+(b-1))(h1:a>1):a<=b:=dh [a,(b-1),b] 0 [⟨1,.v 0,.a (.n 1) (.v 1)⟩,⟨1,.a (.v 1) (.n 1),.v 2⟩] (.v 0) (.v 2) (.refl true) h0 (aA (bP (dh [a,(b-1),b] 0 [⟨1,.v 0,.a (.n 1) (.v 1)⟩,⟨1,.a (.n 1) (.n 1),.v 0⟩,⟨1,.v 1,.v 2⟩] (.n 1) (.v 2) (.refl true) h0 h1 (fA _ _))))
theorem UR{a b c:Nat}(h0:¬(a<b))(h1:a<=c)(h2:c<=b):c=b:=bW h2 (ah (cn h0) h1)
theorem UQ{a b:Nat}(h0:a<=1+(b-1))(h1:¬(a=b))(h2:a>1):a+1<=b:=match b,h0,h1 with | 0,h0,_=>absurd h0 (eR h2) | b+1,h0,h1=>mc (ah h0 (aA (gR 1 b))) h1
theorem UP{a b c:Nat}(h0:a<=b)(h1:b<c):a<c:=bp h0 h1
theorem UO{a b:Nat}(h0:0<a)(h1:¬(b=a))(h2:¬(b>1)):b+1<=a:=mc (ah (cn h2) h0) h1
theorem UN{a b c:Nat}(h0:¬(a>1))(h1:b<=c)(h2:c<a):b=c:=bW (dh [b,c] 0 [⟨1,.v 0,.v 1⟩] (.v 0) (.v 1) (.refl true) h1) (dh [a,b,c] 0 [⟨1,.v 0,.n 1⟩,⟨1,.a (.v 2) (.n 1),.v 0⟩] (.v 2) (.v 1) (.refl true) (cn h0) h2)
theorem UM{a b:Nat}(h0:a<=b)(h1:b-a<=0):a=b:=bW (dh [a,b,(b-a)] 0 [⟨1,.a (.v 2) (.v 0),.v 1⟩] (.v 0) (.v 1) (.refl true) (aA (bP (dh [a,b] 0 [⟨1,.v 0,.v 1⟩] (.v 0) (.v 1) (.refl true) h0)))) (dh [a,b,(b-a)] 0 [⟨1,.v 2,.n 0⟩,⟨1,.v 1,.a (.v 2) (.v 0)⟩] (.v 1) (.v 0) (.refl true) h1 (dm (aF _)))
theorem UL{a b:Nat}(h0:¬(a≥b)):a<=(a+b)/2:=dh [a,b,((a+b)/2)] 1 [⟨1,.a (.v 0) (.n 1),.v 1⟩,⟨1,.a (.a (.v 0) (.v 1)) (.n 1),.m 2 (.a (.v 2) (.n 1))⟩] (.v 0) (.v 2) (.refl true) (d7 h0) (gv _ (by decide))
theorem UK{a b c:Nat}(h0:a<=b)(h1:¬(c≥a)):(c+a)/2<=b:=dh [a,b,c,((c+a)/2)] 1 [⟨2,.v 0,.v 1⟩,⟨1,.a (.v 2) (.n 1),.v 0⟩,⟨1,.m 2 (.v 3),.a (.v 2) (.v 0)⟩] (.v 3) (.v 1) (.refl true) h0 (d7 h1) (dQ _ 2)
theorem UJ{a b c:Nat}(h0:a-b<=c+1):(b+a)/2-b<=c:=pU (fx (Nat.div_lt_of_lt_mul (dh [a-b,a,b,c] 0 [⟨1,.v 0,.a (.v 3) (.n 1)⟩,⟨1,.v 1,.a (.v 0) (.v 2)⟩] (.a (.a (.v 2) (.v 1)) (.n 1)) (.m 2 (.a (.a (.v 3) (.v 2)) (.n 1))) (.refl true) h0 (dm (aF _)))))
theorem UI{a b:Nat}(h0:¬(a≥b)):(a+b)/2+1<=b:=dh [a,b,((a+b)/2)] 1 [⟨1,.a (.v 0) (.n 1),.v 1⟩,⟨1,.m 2 (.v 2),.a (.v 0) (.v 1)⟩] (.a (.v 2) (.n 1)) (.v 1) (.refl true) (d7 h0) (dQ _ 2)
theorem w5{a b c m:Nat}(h:b+a<2*(m+1))(h0:a-b<=c+1):a<=c+(m+1):=dh [b,a,m,(a-b),c] 1 [⟨1,.a (.a (.v 0) (.v 1)) (.n 1),.m 2 (.a (.v 2) (.n 1))⟩,⟨1,.v 3,.a (.v 4) (.n 1)⟩,⟨1,.v 1,.a (.v 3) (.v 0)⟩] (.v 1) (.a (.v 4) (.a (.v 2) (.n 1))) (.refl true) h h0 (dm (aF _))
theorem UH{a b c:Nat}(h0:a-b<=c+1):a-((b+a)/2+1)<=c:=pU (w5 (gv (b+a) (by decide)) h0)
theorem UG{a b c:Nat}(h0:a<(b+c)/2+1):a<=(b+c)/2:=fx h0
theorem UF{a b c:Nat}(h0:a<=b)(h1:¬(c≥a)):(c+a)/2<b:=dh [a,b,c,((c+a)/2)] 1 [⟨2,.v 0,.v 1⟩,⟨1,.a (.v 2) (.n 1),.v 0⟩,⟨1,.m 2 (.v 3),.a (.v 2) (.v 0)⟩] (.a (.v 3) (.n 1)) (.v 1) (.refl true) h0 (d7 h1) (dQ _ 2)
theorem UE{a b:Nat}(h0:0+a=b):a=b:=by lia
theorem UD{a:Nat}:a-0<=a:=M4 rfl
theorem Pu{a b:Nat}(h0:a<=b):¬(b<a):=by lia
theorem UC{a b c:Nat}(h0:a+1+b=c):b<c:=dh [a,b,c] 0 [⟨1,.a (.a (.v 0) (.n 1)) (.v 1),.v 2⟩] (.a (.v 1) (.n 1)) (.v 2) (.refl true) (aA h0)
theorem UB{a b:Nat}:a-b<=a:=fA a b
theorem UA{a b:Nat}(h0:a<=b):b-(b-a)=a:=Nat.sub_sub_self h0
theorem Pt{a b c:Nat}(h0:a+1+b=c):a+(b+1)=c:=(yS a b).symm.trans h0
theorem Uz{a:Nat}(h0:1<=a):(max a 1)=a:=Nat.max_eq_left h0
theorem Uy{a:Nat}:0+1<=a+1+1:=by lia
theorem Ux{a b:Nat}(h0:a+1<=b+1):a+1<=b+1+1:=Oc h0
theorem Ps{a b:Nat}(h0:a<=b):a+0<b+1:=sU h0
theorem Uw{a b:Nat}(h0:a<b):a+1<b+1:=Ps h0
theorem M3{a b c:Nat}(h0:a=b)(h1:c<a):c<b:=FY h1 h0
theorem Pr{a b c:Nat}(h0:a=b)(h1:c<a):0<b:=dh [a,b,c] 0 [⟨1,.v 0,.v 1⟩,⟨1,.a (.v 2) (.n 1),.v 0⟩] (.a (.n 0) (.n 1)) (.v 1) (.refl true) (aA h0) h1
theorem Uv{a b:Nat}(h0:a<b):0<b:=Pr rfl h0
theorem Uu{a b c:Nat}(h0:a+(b+1)<64)(h1:c=a):c<=16777216:=dh [a,b,c] 0 [⟨1,.a (.a (.v 0) (.a (.v 1) (.n 1))) (.n 1),.n 64⟩,⟨1,.v 2,.v 0⟩] (.v 2) (.n 16777216) (.refl true) h0 (aA h1)
theorem Ut{a b c:Nat}(h0:a+(b+1)<64)(h1:c=a):c+1<=16777216+1:=dh [a,b,c] 0 [⟨1,.a (.a (.v 0) (.a (.v 1) (.n 1))) (.n 1),.n 64⟩,⟨1,.v 2,.v 0⟩] (.a (.v 2) (.n 1)) (.a (.n 16777216) (.n 1)) (.refl true) h0 (aA h1)
theorem Us{a b:Nat}(h0:a+(b+1)<64):a+1+b<64:=dh [a,b] 0 [⟨1,.a (.a (.v 0) (.a (.v 1) (.n 1))) (.n 1),.n 64⟩] (.a (.a (.a (.v 0) (.n 1)) (.v 1)) (.n 1)) (.n 64) (.refl true) h0
theorem Ur{a:Nat}(h0:a<64):a<=16777216:=ah (bg h0) (by decide)
theorem Uq{a:Nat}(h0:a<64):a<=16777216+1:=ah (bg h0) (by decide)
theorem Up{a b:Nat}(h0:a=b)(h1:2<=b):¬(a<2):=km (h0.symm▸h1)
theorem Pq{a b:Nat}(h0:a=b)(h1:2<=b):2<=a:=le_of_le_of_eq h1 h0.symm
theorem Pp{a b c:Nat}(h0:a=b)(h1:c=b):c=a:=by grind
theorem M2{a b:Nat}(h0:a<64)(h1:b=a):b<64:=h1.symm▸h0
theorem Uo{a b:Nat}(h0:a=b)(h1:¬(2<=b)):a<2:=h0.symm▸d7 h1
theorem Po{a b:Nat}(h0:a=b)(h1:¬(2<=b)):a<64:=bI (h0.symm▸d7 h1) (by decide:2<64)
theorem Kf{a b:Nat}(h0:a<64)(h1:b=a):b<=16777216:=h1.symm▸ah (bg h0) (by decide)
theorem Un{a:Nat}(h0:3<=a):0+3<=a+1:=Oc h0
theorem Um{a:Nat}(h0:3<=a):0+2+1+1<=a+1:=LI h0
theorem Ul:¬(1>1):=by lia
theorem Uk{a:Nat}(h0:a<2):a<30:=bI h0 (by decide)
theorem Pn{a b c:Nat}(h0:a+(b+c)<100000):a+b<100000:=dh [a,b,c] 0 [⟨1,.a (.a (.v 0) (.a (.v 1) (.v 2))) (.n 1),.n 100000⟩] (.a (.a (.v 0) (.v 1)) (.n 1)) (.n 100000) (.refl true) h0
theorem Uj{a:Int}(h0:99<a.natAbs):((a.natAbs:Nat):Int)>99:=F5 h0
theorem Uh{a:Int}(h0:¬(99<a.natAbs)):¬(((a.natAbs:Nat):Int)>99):=λq=>h0 (iK.mp q)
theorem Ug{a:Nat}(h0:0+1+a<100000):a+1<=100000:=CI h0
theorem Uf{a b:Nat}(h0:a+1+b<100000):b+1<=100000:=CI h0
theorem Ue{a b:Nat}(h0:a+b<100000):a+(b+1)<=100001:=Oc h0
theorem Ud{a b:Nat}:a<=a+0+b:=dA a b
theorem Uc{a b c d e f:Nat}(h0:a<=b+c+(d+1*e)):f+e+a<=f+(b+c)+(d+1*e+1*e):=dh [a,b,c,d,e,f] 0 [⟨1,.v 0,.a (.a (.v 1) (.v 2)) (.a (.v 3) (.m 1 (.v 4)))⟩] (.a (.a (.v 5) (.v 4)) (.v 0)) (.a (.a (.v 5) (.a (.v 1) (.v 2))) (.a (.a (.v 3) (.m 1 (.v 4))) (.m 1 (.v 4)))) (.refl true) h0
theorem Ub{a b c:Nat}:a+b+(c+1)=a+1+(b+c):=by lia
theorem Pl{a b c:Nat}:a+1+(b+c)=a+1+b+c:=fb (g0 (a+1) b c)
theorem Ua{a:Nat}:0+1+(a+1)=a+1+1:=gR (0+1) (a+1)
theorem T9{a b c:Nat}(h0:a+1+b=c+1):a+1+1+b=c+1+1:=bW (dh [a,b,c] 0 [⟨1,.a (.a (.v 0) (.n 1)) (.v 1),.a (.v 2) (.n 1)⟩] (.a (.a (.a (.v 0) (.n 1)) (.n 1)) (.v 1)) (.a (.a (.v 2) (.n 1)) (.n 1)) (.refl true) (aA h0)) (dh [a,b,c] 0 [⟨1,.a (.v 2) (.n 1),.a (.a (.v 0) (.n 1)) (.v 1)⟩] (.a (.a (.v 2) (.n 1)) (.n 1)) (.a (.a (.a (.v 0) (.n 1)) (.n 1)) (.v 1)) (.refl true) (aA h0.symm))
theorem Pk{a b:Nat}:a<=b+a:=gX a b
theorem T8{a:Nat}:0<=(-1)+((a+(0+1):Nat):Int):=Int.add_le_add_left (a:=1) (iL.mpr (gX 1 a)) (-1)
theorem T7{a:Nat}:((-1)+((a+(0+1):Nat):Int)).toNat=a:=tP (a+(0+1))
theorem T6{a b c:Nat}(h0:a+(0+1+b)<=c+1):a+b<=c+1:=dh [a,b,c] 0 [⟨1,.a (.v 0) (.a (.a (.n 0) (.n 1)) (.v 1)),.a (.v 2) (.n 1)⟩] (.a (.v 0) (.v 1)) (.a (.v 2) (.n 1)) (.refl true) h0
theorem T5{a b c:Nat}(h0:a+(0+1+1+b)<=c+1):a+b<=c+1:=dh [a,b,c] 0 [⟨1,.a (.v 0) (.a (.a (.a (.n 0) (.n 1)) (.n 1)) (.v 1)),.a (.v 2) (.n 1)⟩] (.a (.v 0) (.v 1)) (.a (.v 2) (.n 1)) (.refl true) h0
theorem T4{a b c:Nat}(h0:a+(0+1+1+1+b)<=c+1):a+b<=c+1:=dh [a,b,c] 0 [⟨1,.a (.v 0) (.a (.a (.a (.a (.n 0) (.n 1)) (.n 1)) (.n 1)) (.v 1)),.a (.v 2) (.n 1)⟩] (.a (.v 0) (.v 1)) (.a (.v 2) (.n 1)) (.refl true) h0
theorem T3{a b c d:Nat}(h0:a+b+(0+1+1+1+c)<=d+1):a+c<=d+1:=dh [a,b,c,d] 0 [⟨1,.a (.a (.v 0) (.v 1)) (.a (.a (.a (.a (.n 0) (.n 1)) (.n 1)) (.n 1)) (.v 2)),.a (.v 3) (.n 1)⟩] (.a (.v 0) (.v 2)) (.a (.v 3) (.n 1)) (.refl true) h0
theorem T2{a b c d e f:Nat}(h0:a<=300000)(h1:b+(c+1+d)<=a+1)(h2:e<=b)(h3:f=1000000):e<f:=dh [a,b,c,d,e,f] 0 [⟨1,.v 0,.n 300000⟩,⟨1,.a (.v 1) (.a (.a (.v 2) (.n 1)) (.v 3)),.a (.v 0) (.n 1)⟩,⟨1,.v 4,.v 1⟩,⟨1,.n 1000000,.v 5⟩] (.a (.v 4) (.n 1)) (.v 5) (.refl true) h0 h1 h2 (aA h3.symm)
theorem T1{a b c d e:Nat}(h0:a+(b+1+c)<=d+1)(h1:e=0):a+(b+1+e)+c<=d+1:=dh [a,b,c,d,e] 0 [⟨1,.a (.v 0) (.a (.a (.v 1) (.n 1)) (.v 2)),.a (.v 3) (.n 1)⟩,⟨1,.v 4,.n 0⟩] (.a (.a (.v 0) (.a (.a (.v 1) (.n 1)) (.v 4))) (.v 2)) (.a (.v 3) (.n 1)) (.refl true) h0 (aA h1)
theorem T0{a b c:Nat}(h0:a+b<=c+1):a<=c+1:=AV h0
theorem TZ{a b c d:Nat}(h0:a<=300000)(h1:b+c<=a+1)(h2:d=1000000):b+c<=d:=dh [a,b,c,d] 0 [⟨1,.v 0,.n 300000⟩,⟨1,.a (.v 1) (.v 2),.a (.v 0) (.n 1)⟩,⟨1,.n 1000000,.v 3⟩] (.a (.v 1) (.v 2)) (.v 3) (.refl true) h0 h1 (aA h2.symm)
theorem TY{a b c d e:Nat}(h0:a<=300000)(h1:b+c<=a+1)(h2:d<=b+c)(h3:e=1000000):d+1<=e:=dh [a,b,c,d,e] 0 [⟨1,.v 0,.n 300000⟩,⟨1,.a (.v 1) (.v 2),.a (.v 0) (.n 1)⟩,⟨1,.v 3,.a (.v 1) (.v 2)⟩,⟨1,.n 1000000,.v 4⟩] (.a (.v 3) (.n 1)) (.v 4) (.refl true) h0 h1 h2 (aA h3.symm)
theorem TX{a b c:Nat}(h0:a<=100000)(h1:b<=5*a)(h2:c=1000000):1+b<=c:=dh [a,b,c] 0 [⟨5,.v 0,.n 100000⟩,⟨1,.v 1,.m 5 (.v 0)⟩,⟨1,.n 1000000,.v 2⟩] (.a (.n 1) (.v 1)) (.v 2) (.refl true) h0 h1 (aA h2.symm)
theorem TV{a b c:Nat}(h0:a<=100000)(h1:b<=5*a)(h2:c=1000000):1+b+1<=c:=dh [a,b,c] 0 [⟨5,.v 0,.n 100000⟩,⟨1,.v 1,.m 5 (.v 0)⟩,⟨1,.n 1000000,.v 2⟩] (.a (.a (.n 1) (.v 1)) (.n 1)) (.v 2) (.refl true) h0 h1 (aA h2.symm)
theorem TU{a:Nat}:((-1)+(a:Int)).toNat=a-1:=tP a
theorem TS{a b c d:Nat}(h0:a+b<=100000)(h1:c<=b+1)(h2:d=1000000):c<=d:=dh [a,b,c,d] 0 [⟨1,.a (.v 0) (.v 1),.n 100000⟩,⟨1,.v 2,.a (.v 1) (.n 1)⟩,⟨1,.n 1000000,.v 3⟩] (.v 2) (.v 3) (.refl true) h0 h1 (aA h2.symm)
theorem TQ{a b c:Nat}(h0:a+(b+1)<=200000)(h1:c<=a+1):c+b<=200000:=dh [a,b,c] 0 [⟨1,.a (.v 0) (.a (.v 1) (.n 1)),.n 200000⟩,⟨1,.v 2,.a (.v 0) (.n 1)⟩] (.a (.v 2) (.v 1)) (.n 200000) (.refl true) h0 h1
theorem TP{a b c:Nat}(h0:a=1000000)(h1:b+(c+1)<=200000):b+1<=a:=dh [a,b,c] 0 [⟨1,.n 1000000,.v 0⟩,⟨1,.a (.v 1) (.a (.v 2) (.n 1)),.n 200000⟩] (.a (.v 1) (.n 1)) (.v 0) (.refl true) (aA h0.symm) h1
theorem TO{a b c:Nat}(h0:a+b<=100000)(h1:c<=b+1):a+c<=200000:=dh [a,b,c] 0 [⟨1,.a (.v 0) (.v 1),.n 100000⟩,⟨1,.v 2,.a (.v 1) (.n 1)⟩] (.a (.v 0) (.v 2)) (.n 200000) (.refl true) h0 h1
theorem TN{a b c:Nat}(h0:a+b<=100000)(h1:c<=b+1):0+c<=200000:=dh [a,b,c] 0 [⟨1,.a (.v 0) (.v 1),.n 100000⟩,⟨1,.v 2,.a (.v 1) (.n 1)⟩] (.a (.n 0) (.v 2)) (.n 200000) (.refl true) h0 h1
theorem M1{a b c:Nat}(h0:a+b<=300000)(h1:c=1000000):a+b<=c:=dh [a,b,c] 0 [⟨1,.a (.v 0) (.v 1),.n 300000⟩,⟨1,.n 1000000,.v 2⟩] (.a (.v 0) (.v 1)) (.v 2) (.refl true) h0 (aA h1.symm)
theorem Pj{a b c d:Nat}(h0:a+b<=300000)(h1:c=1000000)(h2:d<=a+b):d+1<=c:=dh [a,b,c,d] 0 [⟨1,.a (.v 0) (.v 1),.n 300000⟩,⟨1,.n 1000000,.v 2⟩,⟨1,.v 3,.a (.v 0) (.v 1)⟩] (.a (.v 3) (.n 1)) (.v 2) (.refl true) h0 (aA h1.symm) h2
theorem M0{a:Nat}(h0:a<1000):1+a<100000:=dh [a] 0 [⟨1,.a (.v 0) (.n 1),.n 1000⟩] (.a (.a (.n 1) (.v 0)) (.n 1)) (.n 100000) (.refl true) h0
theorem TM{a:Nat}(h0:a<1000):2+a<100000:=dh [a] 0 [⟨1,.a (.v 0) (.n 1),.n 1000⟩] (.a (.a (.n 2) (.v 0)) (.n 1)) (.n 100000) (.refl true) h0
theorem TL{a b c:Nat}(h0:a+(b+2)<=300000)(h1:c=1000000):b+1+1<=c:=dh [a,b,c] 0 [⟨1,.a (.v 0) (.a (.v 1) (.n 2)),.n 300000⟩,⟨1,.n 1000000,.v 2⟩] (.a (.a (.v 1) (.n 1)) (.n 1)) (.v 2) (.refl true) h0 (aA h1.symm)
theorem TK{a b c:Nat}(h0:a+(b+2)<=300000)(h1:c=1000000):a+(b+1+1)<=c:=M1 h0 h1
theorem TJ{a b:Nat}(h0:a<b):¬((a:Int)≥(b:Int)):=λq=>eR h0 (iL.mp q)
theorem TI{a b:Nat}(h0:a<b)(h1:¬((a:Int)+1<(b:Int))):b=a+1:=bW (cn λq=>h1 (iK.mpr q)) h0
theorem Pi{a:Nat}:a+1-a=1:=fb (Nat.eq_sub_of_add_eq' rfl)
theorem Ph{a b:Nat}(h0:a+(b+1)<100000):a+1+b<100000:=dh [a,b] 0 [⟨1,.a (.a (.v 0) (.a (.v 1) (.n 1))) (.n 1),.n 100000⟩] (.a (.a (.a (.v 0) (.n 1)) (.v 1)) (.n 1)) (.n 100000) (.refl true) h0
theorem MZ{a b:Nat}(h0:a+(b+1)<100000):a<100000:=Nat.lt_of_add_right_lt h0
theorem TH{a b:Nat}:a+(5+b)=a+1+1+1+1+1+b:=by lia
theorem TG{a b:Nat}:a+(5+b)=a+b+1+1+1+1+1:=by lia
theorem TF{a b:Nat}:a+(1+b)=a+1+b:=fb (g0 a 1 b)
theorem TD{a b:Nat}:a+(1+b)=a+b+1:=by lia
theorem TC{a:Nat}(h0:a<10000):1+a<100000:=dh [a] 0 [⟨1,.a (.v 0) (.n 1),.n 10000⟩] (.a (.a (.n 1) (.v 0)) (.n 1)) (.n 100000) (.refl true) h0
theorem TB{a:Nat}(h0:a<10000):100000=99999-a+a+1:=bW (dh [a,(99999-a)] 0 [⟨1,.n 99999,.a (.v 1) (.v 0)⟩] (.n 100000) (.a (.a (.v 1) (.v 0)) (.n 1)) (.refl true) (dm (aF _))) (dh [a,(99999-a)] 0 [⟨1,.a (.v 1) (.v 0),.n 99999⟩] (.a (.a (.v 1) (.v 0)) (.n 1)) (.n 100000) (.refl true) (aA (bP (dh [a] 0 [⟨1,.a (.v 0) (.n 1),.n 10000⟩] (.v 0) (.n 99999) (.refl true) h0))))
theorem TA{a:Nat}(h0:a<10000):99998-a+1=99999-a:=(sS (ah (bg h0) (by decide))).symm
theorem Tz{a:Nat}(h0:a<=10000):0+a<100000:=dh [a] 0 [⟨1,.v 0,.n 10000⟩] (.a (.a (.n 0) (.v 0)) (.n 1)) (.n 100000) (.refl true) h0
theorem Tx{a b:Nat}:a+(b+1+1)=a+1+b+1:=o0
theorem Tw{a b:Nat}(h0:a<=10000)(h1:b<=5*a):b<=50000:=dh [a,b] 0 [⟨5,.v 0,.n 10000⟩,⟨1,.v 1,.m 5 (.v 0)⟩] (.v 1) (.n 50000) (.refl true) h0 h1
theorem Tv{a:Nat}(h0:a<=50000):100000=99999-a+a+1:=bW (dh [a,(99999-a)] 0 [⟨1,.n 99999,.a (.v 1) (.v 0)⟩] (.n 100000) (.a (.a (.v 1) (.v 0)) (.n 1)) (.refl true) (dm (aF _))) (dh [a,(99999-a)] 0 [⟨1,.a (.v 1) (.v 0),.n 99999⟩] (.a (.a (.v 1) (.v 0)) (.n 1)) (.n 100000) (.refl true) (aA (bP (dh [a] 0 [⟨1,.v 0,.n 50000⟩] (.v 0) (.n 99999) (.refl true) h0))))
theorem Tu{a:Nat}(h0:a<=50000):99999-a=99997-a+1+1:=(sS (ah h0 (by decide:50000<=99998))).trans (congrArg (·+1) (sS (ah h0 (by decide:50000<=99997))))
theorem Tt{a b c:Nat}(h0:a<=b)(h1:b-a=c):a+c=b:=h1▸FH h0
theorem Ts{a b c d:Nat}(h0:a-(b+c)=d+1):b+c+1<=a:=CG h0
theorem Pg{a b:Nat}(h0:a+1<b+1):a<b:=Nat.succ_lt_succ_iff.mp h0
theorem Tr{a:Nat}(h0:a<1000):a<100000:=bI h0 (by decide)
theorem Pf{a:Nat}(h0:0<a):(a:Int)≠0:=Int.natCast_ne_zero_iff_pos.mpr h0
theorem Tq{a:Nat}(h0:a%2=1):a/2=(a-1)/2:=m2 (λa=>a%2=1->a/2=(a-1)/2) (λk h=>nomatch (Nat.mul_mod_right 2 k).symm.trans h) (λk ζ=>(d1 k).trans (d0 k).symm) a h0
theorem Tp{a:Nat}(h0:a%2=1):(a-1)/2<a:=bp (kX _ 2) (pR λq=>nomatch (congrArg (· % 2) q).symm.trans h0)
theorem To{a:Nat}(h0:¬(a%2=1)):((a%2:Nat):Int)≠1:=pz rfl rfl h0
theorem Tn{a:Nat}(h0:0<a)(h1:¬(a%2=1)):((a/2:Nat):Int)-1=(((a-1)/2:Nat):Int):=m2 (λa=>0<a->¬(a%2=1)->((a/2:Nat):Int)-1=(((a-1)/2:Nat):Int)) (λk h ζ=>by cases k with | zero=>exact absurd h (eY 0) | succ j=>exact(congrArg (λx:Nat=>(x:Int)-1) (d0 (j+1))).trans ((Int.add_sub_cancel j 1).trans (congrArg Int.ofNat (d1 j).symm))) (λk ζ h=>absurd (Nat.mul_add_mod 2 k 1) h) a h0 h1
theorem Pe{a:Nat}(h0:0<a):(a-1)/2<a:=dh [a,(a-1),((a-1)/2)] 0 [⟨1,.a (.v 1) (.n 1),.v 0⟩,⟨1,.m 2 (.v 2),.v 1⟩] (.a (.v 2) (.n 1)) (.v 0) (.refl true) (aA (bP (dh [a] 0 [⟨1,.a (.n 0) (.n 1),.v 0⟩] (.n 1) (.v 0) (.refl true) h0))) (dQ _ 2)
theorem MY{a:Nat}:¬((a:Int)<0):=by lia
theorem Tl{a b:Nat}:(a:Int)<(b:Int)↔a<b:=iK
theorem Tk{a b c:Nat}(h0:a<=b)(h1:c=b):¬(c<a):=λq=>km h0 (h1▸q)
theorem Tj{a:Nat}:((a+1:Nat):Int)-1=(a:Int):=Int.sub_eq_iff_eq_add.mpr rfl
theorem Ti{a:Nat}(h0:a<10000):a<100000:=bI h0 (by decide)
theorem Th{a b:Nat}(h0:a=b)(h1:0<b):a/2+1<=a:=dh [a,b,(a/2)] 1 [⟨1,.v 1,.v 0⟩,⟨1,.a (.n 0) (.n 1),.v 1⟩,⟨1,.m 2 (.v 2),.v 0⟩] (.a (.v 2) (.n 1)) (.v 0) (.refl true) (aA h0.symm) h1 (dQ _ 2)
theorem Tg{a b:Nat}(h0:a<1000)(h1:b=a):b<10000:=dh [a,b] 0 [⟨1,.a (.v 0) (.n 1),.n 1000⟩,⟨1,.v 1,.v 0⟩] (.a (.v 1) (.n 1)) (.n 10000) (.refl true) h0 (aA h1)
theorem Tf{a b:Nat}(h0:a=b)(h1:0<b)(h2:a=0):False:=gQ h1 (h0.symm.trans h2)
theorem MX{a b:Nat}(h0:a<1000)(h1:b=1000000):a<=b:=h1.symm▸ah (bg h0) (by decide)
theorem Te{a b c d:Nat}(h0:a=1000000)(h1:b<=1000)(h2:c=b+1)(h3:d<=c):d<=a:=dh [a,b,c,d] 0 [⟨1,.n 1000000,.v 0⟩,⟨1,.v 1,.n 1000⟩,⟨1,.v 2,.a (.v 1) (.n 1)⟩,⟨1,.v 3,.v 2⟩] (.v 3) (.v 0) (.refl true) (aA h0.symm) h1 (aA h2) h3
theorem Td{a b c d e:Nat}(h0:a=1000000)(h1:b<=1000)(h2:c=b+1)(h3:d<=c)(h4:e<=d):e<=a:=dh [a,b,c,d,e] 0 [⟨1,.n 1000000,.v 0⟩,⟨1,.v 1,.n 1000⟩,⟨1,.v 2,.a (.v 1) (.n 1)⟩,⟨1,.v 3,.v 2⟩,⟨1,.v 4,.v 3⟩] (.v 4) (.v 0) (.refl true) (aA h0.symm) h1 (aA h2) h3 h4
theorem Tc{a b c:Nat}(h0:a=1000000)(h1:b+c<=300000):b+c<=a:=M1 h1 h0
theorem Tb{a b c d:Nat}(h0:a=1000000)(h1:b+c<=300000)(h2:d<=b+c):d+1<=a:=Pj h1 h0 h2
theorem Ta{a:Nat}:(-1000000)<=(a:Int):=Int.neg_ofNat_le_natCast 1000000 a
theorem S9{a:Nat}(h0:a<1000):(a:Int)<=1000000:=VE (ah (bg h0) (by decide))
theorem S8{a b:Nat}(h0:a<64)(h1:b=1000000):a<=b:=h1.symm▸ah (bg h0) (by decide)
theorem S7{a b:Nat}(h0:a=1000000)(h1:b<=1000):b<a:=h0.symm▸bp h1 (by decide)
theorem S6{a b:Nat}(h0:a<64):a-b+1<1000:=dh [a,(a-b)] 0 [⟨1,.a (.v 0) (.n 1),.n 64⟩,⟨1,.v 1,.v 0⟩] (.a (.a (.v 1) (.n 1)) (.n 1)) (.n 1000) (.refl true) h0 (fA _ _)
theorem S5{a b:Nat}(h0:0<a)(h1:a/2+1=b):(a:Int)-(b:Int)+1=((a-b+1:Nat):Int):=congrArg (·+1) (Int.ofNat_sub (h1▸oI h0 (by decide))).symm
theorem Pd{a:Nat}:(a:Int)+1=((a+1:Nat):Int):=Int.ofNat_add_one_out a
theorem S4{a b:Nat}:(a:Int)+(b:Int)=((a+b:Nat):Int):=Int.ofNat_add_ofNat a b
theorem w0{a b c e:Nat}:yO (a+b) e-(a+c)<=b-c:=ah (pS (kW _ _) _) (aA (DN a b c))
theorem S3{a b c d e:Nat}(h0:a=1000000)(h1:b<64)(h2:b/2+1=c):yO (d+c) e-(d+1)+(yO (d+1) e-d)<=a:=by
 subst h0;subst h2
 exact ah (cr w0 (w0 (c:=0))) (ah (cV (kX b 2)) (ah h1 (by decide)))
theorem S2{a b c:Nat}(h0:a=1000000)(h1:b<64):b-c+1<=a:=dh [a,b,(b-c)] 0 [⟨1,.n 1000000,.v 0⟩,⟨1,.a (.v 1) (.n 1),.n 64⟩,⟨1,.v 2,.v 1⟩] (.a (.v 2) (.n 1)) (.v 0) (.refl true) (aA h0.symm) h1 (fA _ _)
theorem Pc{a b:Nat}(h0:a-b+1=0):False:=by lia
theorem S1{a:Nat}(h0:a<1000):0+a<100000:=(dU a).symm▸bI h0 (by decide)
theorem S0{a b:Nat}(h0:a<4+2*b):4+2*b≠a:=di (dW h0)
theorem SY{a b:Nat}(h0:a<4+2*b):a<4+2*(b+1):=dh [a,b] 0 [⟨1,.a (.v 0) (.n 1),.a (.n 4) (.m 2 (.v 1))⟩] (.a (.v 0) (.n 1)) (.a (.n 4) (.m 2 (.a (.v 1) (.n 1)))) (.refl true) h0
theorem SX{a:Nat}:4+2*a≠3+2*a:=by lia
theorem SW{a:Nat}:3+2*a<4+2*(a+1):=by lia
theorem SV{a:Nat}:4+2*a<4+2*(a+1):=by lia
theorem SU{a b:Nat}(h0:a<b):b-a=b-(a+1)+1:=by rw [<-DL];exact(bP (sT h0)).symm
theorem GX{a b:Nat}:a+1+b=a+(b+1):=fb o0
theorem SS{a b:Nat}(h0:a<3+2*b):3+2*b≠a:=di (dW h0)
theorem SR{a b:Nat}(h0:a<3+2*b):a<3+2*(b+1):=dh [a,b] 0 [⟨1,.a (.v 0) (.n 1),.a (.n 3) (.m 2 (.v 1))⟩] (.a (.v 0) (.n 1)) (.a (.n 3) (.m 2 (.a (.v 1) (.n 1)))) (.refl true) h0
theorem Pb{a:Nat}:3+2*a+1+1=3+2*(a+1):=by lia
theorem SQ{a b:Nat}(h0:a=3+2*b):0<a:=dh [a,b] 0 [⟨1,.a (.n 3) (.m 2 (.v 1)),.v 0⟩] (.a (.n 0) (.n 1)) (.v 0) (.refl true) (aA h0.symm)
theorem SP{a b:Nat}:3+2*a+2*(b+1)=3+2*(a+1)+2*b:=by lia
theorem SO{a b:Nat}:3+2*a<3+2*(a+1)+2*b:=by lia
theorem SN{a b:Nat}:3+2*a+1<3+2*(a+1)+2*b:=dh [a,b] 0 [] (.a (.a (.a (.n 3) (.m 2 (.v 0))) (.n 1)) (.n 1)) (.a (.a (.n 3) (.m 2 (.a (.v 0) (.n 1)))) (.m 2 (.v 1))) (.refl true)
theorem SM{a:Nat}:3+2*a<3+2*(a+1):=by lia
theorem SL{a:Nat}:3+2*a+1=3+2*a+1:=by lia
theorem SK{a:Nat}:3+2*a+1<3+2*(a+1):=Nat.lt_add_one (3+2*a+1)
theorem Pa{a:Nat}:3+2*a+1=4+2*a:=fb GX
theorem SJ{a b:Nat}:a+b+1=a+1+b:=fb GX
theorem SI{a:Nat}:2*a+1+1=2*(a+1):=Pt rfl
theorem MW{a:Nat}:2*a+1+1+1=3+2*a:=fb (gR 3 (2*a))
theorem SH{a b:Nat}(h0:a=3+2*b):a<=3+2*b:=M4 h0
theorem SG{a b:Nat}(h0:a=3+2*b):a<=4+2*b:=dh [a,b] 0 [⟨1,.v 0,.a (.n 3) (.m 2 (.v 1))⟩] (.v 0) (.a (.n 4) (.m 2 (.v 1))) (.refl true) (aA h0)
theorem SF{a:Nat}:4+2*a-(3+2*a)=1:=bW (dh [((4+(2*a))-(3+(2*a))),a] 0 [⟨1,.a (.v 0) (.a (.n 3) (.m 2 (.v 1))),.a (.n 4) (.m 2 (.v 1))⟩] (.v 0) (.n 1) (.refl true) (aA (bP (dh [a] 0 [] (.a (.n 3) (.m 2 (.v 0))) (.a (.n 4) (.m 2 (.v 0))) (.refl true))))) (dh [((4+(2*a))-(3+(2*a))),a] 0 [⟨1,.a (.n 4) (.m 2 (.v 1)),.a (.v 0) (.a (.n 3) (.m 2 (.v 1)))⟩] (.n 1) (.v 0) (.refl true) (dm (aF _)))
theorem SE{a b c:Nat}(h0:a=1000000)(h1:b=3):b+(yO 5 c)<=a:=dh [a,b,(yO 5 c)] 0 [⟨1,.n 1000000,.v 0⟩,⟨1,.v 1,.n 3⟩,⟨1,.v 2,.n 5⟩] (.a (.v 1) (.v 2)) (.v 0) (.refl true) (aA h0.symm) (aA h1) (kW _ _)
theorem SD{a b c d e:Nat}(h0:a+b+(c+1)<=16)(h1:d+e<=a+b+1):d+e+c<=16:=dh [a,b,c,d,e] 0 [⟨1,.a (.a (.v 0) (.v 1)) (.a (.v 2) (.n 1)),.n 16⟩,⟨1,.a (.v 3) (.v 4),.a (.a (.v 0) (.v 1)) (.n 1)⟩] (.a (.a (.v 3) (.v 4)) (.v 2)) (.n 16) (.refl true) h0 h1
theorem SA{a:Nat}(h0:7<a):(a:Int)>7:=F5 h0
theorem O9{a b:Nat}:a+1+0<=a+b+1:=by lia
theorem Sz{a:Nat}(h0:7<a):(a:Int)≠6:=λq=>gQ (Je h0) (tZ q)
theorem Sy{a:Nat}(h0:7<a):(a:Int)≠7:=λq=>gQ h0 (tZ q)
theorem O8{a b c d:Nat}(h0:a=1000000)(h1:b+c+(d+1)<=16):b<a:=dh [a,b,c,d] 0 [⟨1,.n 1000000,.v 0⟩,⟨1,.a (.a (.v 1) (.v 2)) (.a (.v 3) (.n 1)),.n 16⟩] (.a (.v 1) (.n 1)) (.v 0) (.refl true) (aA h0.symm) h1
theorem Sx{a:Nat}(h0:¬(7<a)):¬((a:Int)>7):=λq=>h0 (iK.mp q)
theorem O0{a:Nat}(h0:¬(a=6)):(a:Int)≠6:=di (pz rfl rfl λa_1=>h0 (id (fb a_1)))
theorem OZ{a:Nat}(h0:¬(a=7)):(a:Int)≠7:=di (pz rfl rfl λa_1=>h0 (id (fb a_1)))
theorem Sw{a b c d e:Nat}(h0:a=1000000)(h1:b+c+(d+1)<=16)(h2:b=e):e<a:=dh [a,b,c,d,e] 0 [⟨1,.n 1000000,.v 0⟩,⟨1,.a (.a (.v 1) (.v 2)) (.a (.v 3) (.n 1)),.n 16⟩,⟨1,.v 4,.v 1⟩] (.a (.v 4) (.n 1)) (.v 0) (.refl true) (aA h0.symm) h1 (aA h2.symm)
theorem Sv{a b c d e:Nat}(h0:a=1000000)(h1:b+c+(d+1)<=16)(h2:c=e):e<a:=dh [a,b,c,d,e] 0 [⟨1,.n 1000000,.v 0⟩,⟨1,.a (.a (.v 1) (.v 2)) (.a (.v 3) (.n 1)),.n 16⟩,⟨1,.v 4,.v 2⟩] (.a (.v 4) (.n 1)) (.v 0) (.refl true) (aA h0.symm) h1 (aA h2.symm)
theorem Su{a:Nat}:1<3+2*a:=by lia
theorem Ss{a:Nat}:1+1<3+2*a:=by lia
theorem Sr{a b:Nat}(h0:a=3):0+0+(a+(yO 5 b))<=16:=dh [a,(yO 5 b)] 0 [⟨1,.v 0,.n 3⟩,⟨1,.v 1,.n 5⟩] (.a (.a (.n 0) (.n 0)) (.a (.v 0) (.v 1))) (.n 16) (.refl true) (aA h0) (kW _ _)
theorem Sq{a b c:Nat}(h0:a=b+c):b<=a:=Nat.le.intro h0.symm
theorem Sp{a:Nat}:(a+1)/2<=a:=dh [((a+1)/2),a] 1 [⟨1,.m 2 (.v 0),.a (.v 1) (.n 1)⟩] (.v 0) (.v 1) (.refl true) (dQ _ 2)
theorem So{a:Nat}(h0:a<60):a<10000:=bI h0 (by decide)
theorem MV{a b:Nat}(h0:a<60)(h1:b=1000000):a<=b:=h1.symm▸ah (bg h0) (by decide)
theorem Sn{a:Nat}(h0:a<50000):0+a<50000:=Nat.add_lt_of_lt_sub' h0
theorem Sm{a b c d e:Nat}(h0:a+(b+1)<=c+d)(h1:e<=a+1):e+b<=c+d:=dh [a,b,c,d,e] 0 [⟨1,.a (.v 0) (.a (.v 1) (.n 1)),.a (.v 2) (.v 3)⟩,⟨1,.v 4,.a (.v 0) (.n 1)⟩] (.a (.v 4) (.v 1)) (.a (.v 2) (.v 3)) (.refl true) h0 h1
theorem Sl{a:Nat}:a<=a+1:=by lia
theorem Sk{a b c d e f:Nat}(h0:a+(b+c)<50000)(h1:d+(e+1)<=a+b)(h2:f=1000000):d<f:=dh [a,b,c,d,e,f] 0 [⟨1,.a (.a (.v 0) (.a (.v 1) (.v 2))) (.n 1),.n 50000⟩,⟨1,.a (.v 3) (.a (.v 4) (.n 1)),.a (.v 0) (.v 1)⟩,⟨1,.n 1000000,.v 5⟩] (.a (.v 3) (.n 1)) (.v 5) (.refl true) h0 h1 (aA h2.symm)
theorem Sj{a b c d:Nat}(h0:a+(b+c)<50000)(h1:d+0<=a+b):d+c<50000:=dh [a,b,c,d] 0 [⟨1,.a (.a (.v 0) (.a (.v 1) (.v 2))) (.n 1),.n 50000⟩,⟨1,.a (.v 3) (.n 0),.a (.v 0) (.v 1)⟩] (.a (.a (.v 3) (.v 2)) (.n 1)) (.n 50000) (.refl true) h0 h1
theorem Si{a:Nat}(h0:a<60):a<1000:=bI h0 (by decide)
theorem Sh{a b:Nat}(h0:a=1000000)(h1:b<60):b<=a:=MV h1 h0
theorem Sg{a b:Nat}(h0:a=1000000)(h1:b<60):1+b<=a:=h0.symm▸ah (qt (bg h1) 1) (by decide)
theorem Sf{a b c:Nat}(h0:a=0):b+(c+1+a)<=b+(c+1):=dh [a,b,c] 0 [⟨1,.v 0,.n 0⟩] (.a (.v 1) (.a (.a (.v 2) (.n 1)) (.v 0))) (.a (.v 1) (.a (.v 2) (.n 1))) (.refl true) (aA h0)
theorem Se{a b c d:Nat}(h0:a=b+c):b<=a+(d+1):=dh [a,b,c,d] 0 [⟨1,.a (.v 1) (.v 2),.v 0⟩] (.v 1) (.a (.v 0) (.a (.v 3) (.n 1))) (.refl true) (aA h0.symm)
theorem Sd{a b c d e:Nat}(h0:a<=b+c)(h1:b<=d+(e+1)):a<=d+(e+1+c):=dh [a,b,c,d,e] 0 [⟨1,.v 0,.a (.v 1) (.v 2)⟩,⟨1,.v 1,.a (.v 3) (.a (.v 4) (.n 1))⟩] (.v 0) (.a (.v 3) (.a (.a (.v 4) (.n 1)) (.v 2))) (.refl true) h0 h1
theorem Sc{a b c d:Nat}(h0:a=b+1)(h1:c<=d+a):c<=d+(b+1):=le_of_le_of_eq h1 (congrArg (HAdd.hAdd d) h0)
theorem Sb{a b c:Nat}(h0:a<=b+c):a+1<=b+c+1:=LI h0
theorem Sa{a:Nat}(h0:a<=10):1+a<100000:=dh [a] 0 [⟨1,.v 0,.n 10⟩] (.a (.a (.n 1) (.v 0)) (.n 1)) (.n 100000) (.refl true) h0
theorem R8{a:Nat}(h0:a<=10):a<=300000:=ah h0 (by decide)
theorem R4{a b c:Nat}(h0:a<=1000)(h1:b<=10)(h2:c<=a+1):c+b<100000:=dh [a,b,c] 0 [⟨1,.v 0,.n 1000⟩,⟨1,.v 1,.n 10⟩,⟨1,.v 2,.a (.v 0) (.n 1)⟩] (.a (.a (.v 2) (.v 1)) (.n 1)) (.n 100000) (.refl true) h0 h1 h2
theorem R0{a b c d:Nat}(h0:a<=1000)(h1:b<=10)(h2:c<=a+1)(h3:c=d+1):d+(b+1)<=300000:=dh [a,b,c,d] 0 [⟨1,.v 0,.n 1000⟩,⟨1,.v 1,.n 10⟩,⟨1,.v 2,.a (.v 0) (.n 1)⟩,⟨1,.a (.v 3) (.n 1),.v 2⟩] (.a (.v 3) (.a (.v 1) (.n 1))) (.n 300000) (.refl true) h0 h1 h2 (aA h3.symm)
theorem RZ{a:Nat}(h0:a+1<=10):a<=300000:=ah (sV h0) (by decide)
theorem RY{a b:Nat}(h0:¬(a<b))(h1:¬(b<a)):a=b:=Vt h1 h0
theorem RW{a:Nat}(h0:a<=900):a<=300000:=ah h0 (by decide)
theorem RU{a b c:Nat}(h0:a+1<b+1+c):a<b+c:=dh [a,b,c] 0 [⟨1,.a (.a (.v 0) (.n 1)) (.n 1),.a (.a (.v 1) (.n 1)) (.v 2)⟩] (.a (.v 0) (.n 1)) (.a (.v 1) (.v 2)) (.refl true) h0
theorem RT{a b c d:Nat}(h0:a+1<b+c)(h1:b+c<=b+(d+1)):a<b+d:=dh [a,b,c,d] 0 [⟨1,.a (.a (.v 0) (.n 1)) (.n 1),.a (.v 1) (.v 2)⟩,⟨1,.a (.v 1) (.v 2),.a (.v 1) (.a (.v 3) (.n 1))⟩] (.a (.v 0) (.n 1)) (.a (.v 1) (.v 3)) (.refl true) h0 h1
theorem RS{a b c:Nat}(h0:a/2+1<=b)(h1:a/2+1<=c):a<b+c:=dh [(a/2),b,c,a] 0 [⟨1,.a (.v 0) (.n 1),.v 1⟩,⟨1,.a (.v 0) (.n 1),.v 2⟩,⟨1,.a (.v 3) (.n 1),.m 2 (.a (.v 0) (.n 1))⟩] (.a (.v 3) (.n 1)) (.a (.v 1) (.v 2)) (.refl true) h0 h1 (gv _ (by decide))
theorem RQ{a b c d:Nat}(h0:a<b)(h1:b<=0):c<d:=absurd (dk h0 h1) (ji a)
theorem RP{a b:Nat}(h0:a<=b+1)(h1:¬(a=b+1)):a<=b:=fx (mc h0 h1)
theorem RO{a b c d:Nat}(h0:a+1<b)(h1:b<=a+1):c<d:=absurd h1 (eR h0)
theorem RN{a b c d:Nat}(h0:a<=b)(h1:b<a):c<=d:=absurd h0 (eR h1)
theorem OY{a:Nat}(h0:0<a):a/2+1<=a:=oI h0 (by decide)
theorem RM{a b:Nat}:a+1+b+1=a+1+(b+1):=fb Pl
theorem RL{a b c:Nat}(h0:0<a):0+1<b+(a+1+c):=dh [a,b,c] 0 [⟨1,.a (.n 0) (.n 1),.v 0⟩] (.a (.a (.n 0) (.n 1)) (.n 1)) (.a (.v 1) (.a (.a (.v 0) (.n 1)) (.v 2))) (.refl true) h0
theorem RJ{a b c:Nat}:a<a+(b+1+c):=by lia
theorem RI{a:Nat}(h0:0<a):¬(a<=0):=eR h0
theorem RH{a b:Nat}(h0:a<=b):0+a<=b:=(dU a).symm▸h0
theorem RG{a b c:Nat}(h0:a+b<=c):a+1+b<=c+1:=Nat.succ_add a b▸cV h0
theorem RF{a b:Nat}:a+b-(a+1)=b-1:=DN a b 1
theorem RE{a:Nat}(h0:0<a):a=a-1+1:=(Nat.sub_eq_iff_eq_add h0).mp rfl
theorem OX{a b:Nat}(h0:a=b/2+1):0<a:=Q8 h0
theorem RD{a b:Nat}(h0:0<a)(h1:b=a/2+1):b<=a:=dh [a,b,(a/2)] 1 [⟨1,.a (.n 0) (.n 1),.v 0⟩,⟨2,.v 1,.a (.v 2) (.n 1)⟩,⟨1,.m 2 (.v 2),.v 0⟩] (.v 1) (.v 0) (.refl true) h0 (aA h1) (dQ _ 2)
theorem RC{a b c d:Nat}(h0:a+b<=c)(h1:(yO b (c-a))<=d):b<=d:=ah (Nat.le_min.mpr ⟨aF b,CH h0⟩) h1
theorem RB{a b c:Nat}(h0:a=b)(h1:c<=b):0+c<=a:=dh [a,b,c] 0 [⟨1,.v 1,.v 0⟩,⟨1,.v 2,.v 1⟩] (.a (.n 0) (.v 2)) (.v 0) (.refl true) (aA h0.symm) h1
theorem RA{a b c d:Nat}(h0:a=b)(h1:c+d<=a):c+d<=b:=le_of_le_of_eq h1 h0
theorem Rz{a b c:Nat}(h0:0<a)(h1:b+a<=c)(h2:(yO a (c-b))=0):False:=gQ (dk h0 (Nat.le_min.mpr ⟨aF a,CH h1⟩)) h2
theorem Ry{a b c d:Nat}(h0:a=b)(h1:c+d<=a):c<b-d+1:=dh [a,b,c,d,(b-d)] 0 [⟨1,.v 0,.v 1⟩,⟨1,.a (.v 2) (.v 3),.v 0⟩,⟨1,.v 1,.a (.v 4) (.v 3)⟩] (.a (.v 2) (.n 1)) (.a (.v 4) (.n 1)) (.refl true) (aA h0) h1 (dm (aF _))
theorem Rx{a b c:Nat}(h0:a<=b)(h1:c<b-a+1):c+a<=b:=dh [a,b,c,(b-a)] 0 [⟨1,.a (.v 2) (.n 1),.a (.v 3) (.n 1)⟩,⟨1,.a (.v 3) (.v 0),.v 1⟩] (.a (.v 2) (.v 0)) (.v 1) (.refl true) h1 (aA (bP (dh [a,b] 0 [⟨1,.v 0,.v 1⟩] (.v 0) (.v 1) (.refl true) h0)))
theorem Rw{a b c:Nat}(h0:a<b)(h1:c=b):a<c:=M3 h1.symm h0
theorem Rv{a b c d e:Nat}(h0:a=b)(h1:c<a)(h2:b-c<=d)(h3:e=d)(h4:e<=a-(c+1)):False:=eY _ (bp h4 (dk (Nat.sub_lt_sub_left h1 (dz c)) (h0.symm▸h3.symm▸h2)))
theorem Rt{a:Nat}(h0:0<a):a/2<a:=oI h0 (by decide)
theorem OW{a:Nat}:a-a/2=(a+1)/2:=bW (dh [(a/2),a,(a-(a/2)),((a+1)/2)] 1 [⟨1,.a (.v 1) (.n 1),.m 2 (.a (.v 0) (.n 1))⟩,⟨2,.a (.v 2) (.v 0),.v 1⟩,⟨1,.a (.a (.v 1) (.n 1)) (.n 1),.m 2 (.a (.v 3) (.n 1))⟩] (.v 2) (.v 3) (.refl true) (gv _ (by decide)) (aA (bP (dh [(a/2),a] 0 [⟨1,.m 2 (.v 0),.v 1⟩] (.v 0) (.v 1) (.refl true) (dQ _ 2)))) (gv _ (by decide))) (dh [(a/2),a,(a-(a/2)),((a+1)/2)] 1 [⟨1,.m 2 (.v 0),.v 1⟩,⟨2,.v 1,.a (.v 2) (.v 0)⟩,⟨1,.m 2 (.v 3),.a (.v 1) (.n 1)⟩] (.v 3) (.v 2) (.refl true) (dQ _ 2) (dm (aF _)) (dQ _ 2))
theorem Rr{a b:Nat}(h0:a=3):a+(yO 5 b)<=8:=dh [a,(yO 5 b)] 0 [⟨1,.v 0,.n 3⟩,⟨1,.v 1,.n 5⟩] (.a (.v 0) (.v 1)) (.n 8) (.refl true) (aA h0) (kW _ _)
theorem Rq{a b:Nat}(h0:a<=5*b):1+a+1<=5*b+2:=dh [a,b] 0 [⟨1,.v 0,.m 5 (.v 1)⟩] (.a (.a (.n 1) (.v 0)) (.n 1)) (.a (.m 5 (.v 1)) (.n 2)) (.refl true) h0
theorem Rp{a:Nat}:a<=5*a+2:=by lia
theorem Ro{a:Nat}:2<=5*a+2:=Pk
theorem Rn{a b:Nat}(h0:a<=b):5*a+2<=5*b+2:=dh [a,b] 0 [⟨5,.v 0,.v 1⟩] (.a (.m 5 (.v 0)) (.n 2)) (.a (.m 5 (.v 1)) (.n 2)) (.refl true) h0
theorem Rm{a b c d e:Nat}(h0:a<=b)(h1:c<=5*d+2)(h2:5*d+2<=5*e+2):c+a<=b+(5*e+2):=dh [a,b,c,d,e] 0 [⟨1,.v 0,.v 1⟩,⟨1,.v 2,.a (.m 5 (.v 3)) (.n 2)⟩,⟨1,.a (.m 5 (.v 3)) (.n 2),.a (.m 5 (.v 4)) (.n 2)⟩] (.a (.v 2) (.v 0)) (.a (.v 1) (.a (.m 5 (.v 4)) (.n 2))) (.refl true) h0 h1 h2
theorem Rl{a b c d e:Nat}(h0:a<=b+c)(h1:b<=d)(h2:e=d+c):a<=e:=dh [a,b,c,d,e] 0 [⟨1,.v 0,.a (.v 1) (.v 2)⟩,⟨1,.v 1,.v 3⟩,⟨1,.a (.v 3) (.v 2),.v 4⟩] (.v 0) (.v 4) (.refl true) h0 h1 (aA h2.symm)
theorem Rk{a b c d:Nat}(h0:a=b)(h1:b<50):(yO (c+d) a)-(c+1)+((yO (c+1) a)-c)<=200:=by
 subst h0
 exact ah (cr (ah (fA _ _) (nB _ _)) (ah (fA _ _) (nB _ _))) (ah (cr (bg h1) (bg h1)) (by decide))
theorem Rj{a:Nat}(h0:a<=200):a<1000:=bp h0 (by decide)
theorem Ri{a b c d:Nat}(h0:a+(b/2+1)<=b)(h1:0<c)(h2:d=b)(h3:(yO c (d-a))=0):False:=gQ (Nat.lt_min.mpr ⟨h1,sT (h2.symm▸dk (AB (Nat.succ_pos _)) h0)⟩) h3
theorem Rh{a:Nat}(h0:0<a):a≠0:=Nat.ne_zero_of_lt h0
theorem OV{a b:Nat}(h0:a=b)(h1:b<50):a<64:=h0.symm▸bI h1 (by decide)
theorem Rg{a b:Nat}(h0:0<a)(h1:b<a-(a/2+1)+1):b+(a/2+1)<=a:=dh [a,b,(a-((a/2)+1)),(a/2)] 0 [⟨1,.a (.v 1) (.n 1),.a (.v 2) (.n 1)⟩,⟨1,.a (.v 2) (.a (.v 3) (.n 1)),.v 0⟩] (.a (.v 1) (.a (.v 3) (.n 1))) (.v 0) (.refl true) h1 (aA (bP (dh [a,(a/2)] 1 [⟨1,.a (.n 0) (.n 1),.v 0⟩,⟨1,.m 2 (.v 1),.v 0⟩] (.a (.v 1) (.n 1)) (.v 0) (.refl true) h0 (dQ _ 2))))
theorem Ke{a:Nat}(h0:a<50):a<1000:=bI h0 (by decide)
theorem MU{a:Nat}(h0:a<=100):a<10000:=bp h0 (by decide)
theorem OU{a:Nat}(h0:a<50):a<64:=OV rfl h0
theorem OT{a:Nat}(h0:a<50):a<60:=bI h0 (by decide)
theorem OS{a:Nat}(h0:a<=8):a+1<50:=dh [a] 0 [⟨1,.v 0,.n 8⟩] (.a (.a (.v 0) (.n 1)) (.n 1)) (.n 50) (.refl true) h0
theorem Es{a:Nat}(h0:a<=8):a<1000:=bp h0 (by decide)
theorem OR{a b c:Nat}(h0:a<=11)(h1:b<=a)(h2:c<=10):b+c<=100000:=dh [a,b,c] 0 [⟨1,.v 0,.n 11⟩,⟨1,.v 1,.v 0⟩,⟨1,.v 2,.n 10⟩] (.a (.v 1) (.v 2)) (.n 100000) (.refl true) h0 h1 h2
theorem Rf{a b c:Nat}(h0:a<=10)(h1:b<=11+11)(h2:c<=b):c+a<=100000:=dh [a,b,c] 0 [⟨1,.v 0,.n 10⟩,⟨1,.v 1,.a (.n 11) (.n 11)⟩,⟨1,.v 2,.v 1⟩] (.a (.v 2) (.v 0)) (.n 100000) (.refl true) h0 h1 h2
theorem OQ{a:Nat}(h0:a<=8):a+1+1<=10:=dh [a] 0 [⟨1,.v 0,.n 8⟩] (.a (.a (.v 0) (.n 1)) (.n 1)) (.n 10) (.refl true) h0
theorem Rd{a:Nat}(h0:a<=8):100000+a<=300000:=dh [a] 0 [⟨1,.v 0,.n 8⟩] (.a (.n 100000) (.v 0)) (.n 300000) (.refl true) h0
theorem OP{a:Nat}(h0:a<=600):a<=100000:=ah h0 (by decide)
theorem OO{a:Nat}(h0:a<=10):a<=600:=ah h0 (by decide)
theorem Rc{a b:Nat}(h0:a<=8)(h1:b+(a+2)<=100000+a):b+(a+2)<=300000:=dh [a,b] 0 [⟨1,.v 0,.n 8⟩,⟨1,.a (.v 1) (.a (.v 0) (.n 2)),.a (.n 100000) (.v 0)⟩] (.a (.v 1) (.a (.v 0) (.n 2))) (.n 300000) (.refl true) h0 h1
theorem Rb:0<=1000:=bo 1000
theorem ON{a:Nat}(h0:a<=8):a+1+1<1000:=dh [a] 0 [⟨1,.v 0,.n 8⟩] (.a (.a (.a (.v 0) (.n 1)) (.n 1)) (.n 1)) (.n 1000) (.refl true) h0
theorem OM{a:Nat}(h0:a<=10):a<=10000:=ah h0 (by decide)
theorem Ra{a b c:Nat}(h0:a<=b*50)(h1:c<=50):c+a<=b*50+50:=dh [a,(b*50),c] 0 [⟨1,.v 0,.v 1⟩,⟨1,.v 2,.n 50⟩] (.a (.v 2) (.v 0)) (.a (.v 1) (.n 50)) (.refl true) h0 h1
theorem Q9{a b:Nat}(h0:a<50)(h1:b<=a*50):b<50000:=bp h1 (dk (Nat.mul_lt_mul_of_pos_right h0 (by decide)) (by decide))
theorem Ru{a:Nat}(h0:0<a):a-(a-1)/2=a/2+1:=by
 cases a with
 | zero=>exact absurd h0 (eY 0)
 | succ a=>
  show a+1-a/2=(a+1)/2+1
  rw [sS (kX a 2),OW]
theorem p1{a b c:Nat}(h0:a<=5*b)(h1:c<=5):c+a<=5*(b+1):=dh [a,b,c] 0 [⟨1,.v 0,.m 5 (.v 1)⟩,⟨1,.v 2,.n 5⟩] (.a (.v 2) (.v 0)) (.m 5 (.a (.v 1) (.n 1))) (.refl true) h0 h1
theorem p2{a b c d e:Nat}(h0:a<=b+c)(h1:b=0)(h2:c<=d):a<=e+d:=dh [a,b,c,d,e] 0 [⟨1,.v 0,.a (.v 1) (.v 2)⟩,⟨1,.v 1,.n 0⟩,⟨1,.v 2,.v 3⟩] (.v 0) (.a (.v 4) (.v 3)) (.refl true) h0 (aA h1) h2
theorem p3{a m:Nat}(h0:a<=30020):a+(m+2)<=100000+m:=dh [a,m] 0 [⟨1,.v 0,.n 30020⟩] (.a (.v 0) (.a (.v 1) (.n 2))) (.a (.n 100000) (.v 1)) (.refl true) h0
end Mine
end
section
set_option maxHeartbeats 0
namespace Mine
abbrev pw:eC:=PySem.Challenge.pw_ik0231_01
theorem PN:Fast.tw11788848310118352699 pw.main=true:=∅
theorem PM:((wo pw.main.body).isEmpty||Fast.tw12862048085361865435 (wo pw.main.body) pw.main.body)=true:=∅
theorem PL:Fast.tw8377067652309620493 pw=true:=∅
theorem PK:Fast.tw8326940854005059898 { strict :=!R.allR (Fast.tw5923862056798008813 pw.main.body) (Fast.tw3471404346716756564 Fast.tw17691160309236699985),foot:=none,bare:=R.filterR (Fast.tw13343964577679436407 pw pw.main.body) [⟨⟨[118,97,114,115]⟩⟩,⟨⟨[100,105,114]⟩⟩,⟨⟨[108,111,99,97,108,115]⟩⟩] } pw.main.body=true:=∅
theorem PJ:(Fast.tw17119622794617984870 pw pw.main.body λx n=>Fast.tw17868728402115742887 n)=true:=∅
theorem MO:PySem.Challenge.rw_ik0231_01.wellSaid=true:=by
 rw [PySem.W.Fast.te9446332074065402090]
 unfold PySem.W.Fast.tw9446332074065402090 PySem.W.Fast.tw17960256430627541270 PySem.W.Fast.tw2436336058641802641 PySem.W.Fast.tw12908688711261696721
 repeat' (with_reducible apply PySem.W.look_both)
 ·exact PN
 ·exact PM
 ·exact PL
 ·kernel_rfl
 ·exact PK
 ·exact PJ
 all_goals kernel_rfl
theorem Ng(h:PySem.Challenge.rw_ik0231_01.row.wellSaid=true->PySem.Challenge.rw_ik0231_01.row.Holds):PySem.Challenge.rw_ik0231_01.Holds:=PySem.W.holds_law MO h
end Mine
end
section
set_option maxHeartbeats 0
namespace Mine
noncomputable section
structure FD where
 name:Str
 params:iA
 body:List ip
 scope:Scope
 deriving Inhabited
noncomputable def br:ip->FD
 | .FunctionDef name params body _ _ _ scope _ _ _=>⟨name,params,body,scope⟩
 | _=>bO
noncomputable def aK(p:eC)(i:Nat):ip:=p.main.body.getD i bO
noncomputable def bK(p:eC)(i j:Nat):ip:=match aK p i with
 | .ClassDef _ _ _ body _ _ _ _ _ _ _=>body.getD j bO
 | _=>bO
noncomputable abbrev eh(d:FD)(qual:Str)(dV pm:af)(cd:aB):jf:=⟨.type "function",none,.func (fnOf d.name qual d.params d.body d.scope dV .none .none pm none (.ref cd) .none),#[]⟩
noncomputable def de(P:dZ)(n:Str)(t:tU)(v:af):kY:={ hash:=oH P n,key:=.str n t,val:=v }
noncomputable def KK(p:eC)(P:dZ):Frag:=[
 (64,eh (br (aK p 5)) "median_low" .none (.str "cpy313.statistics" 331) 63),
 (71,eh (br (aK p 6)) "median_high" .none (.str "cpy313.statistics" 331) 70),
 (144,eh (br (aK p 15)) "fspath" .none (.str "os" 454) 143),
 (158,eh (br (aK p 20)) "_get_sep" .none (.str "cpy313.posixpath" 480) 157),
 (165,eh (br (aK p 21)) "join" .none (.str "cpy313.posixpath" 480) 164),
 (172,eh (br (aK p 23)) "splitroot" .none (.str "cpy313.posixpath" 480) 171),
 (179,eh (br (aK p 24)) "normpath" .none (.str "cpy313.posixpath" 480) 178),
 (184,eh (br (aK p 25)) "commonpath" .none (.str "cpy313.posixpath" 480) 183),
 (188,⟨.type "tuple",none,.seq #[.int 14 0,.int 17 0,.int 4 0,.int 1 0,.int 1 0,.int 21 0,.int 9 0,.int 0 0,.int 604043296 0,.int 1 0,.int 0 0,.int 0 0,.int 0 0,.int 0 0,.int 0 0,.int 8 0,.int 4 0,.int 0 0,.int 13 0,.int 14 0,.int 21 0,.int 9 0,.int 0 0,.int 604043296 0,.int 1 0,.int 0 0,.int 0 0,.int 0 0,.int 0 0,.int 0 0,.int 8 0,.int 4 0,.int 0 0,.int 1 0] 0,#[]⟩),
 (189,⟨.type "re.Pattern",none,.fields #[.str "[^\\w@%+=:,./-]" 532,.int 256 569,.int 0 0,.none,.none,.ref 188,.int 0 0],#[]⟩),
 (203,eh (br (aK p 29)) "_index" .none (.str "io" 571) 202),
 (230,eh (br (bK p 31 1)) "IOBase.__new__" .none (.str "io" 571) 229),
 (232,⟨.type "dict",none,.dict #[de P "__module__" 618 (.str "io" 623),de P "__firstlineno__" 622 (.int 192 621),de P "__new__" 633 (.ref 234),de P "__static_attributes__" 634 (.ref 231),de P "__dict__" 637 (.ref 235),de P "__weakref__" 639 (.ref 236),de P "__doc__" 640 .none] 4,#[]⟩),
 (233,⟨.type "type",none,.cls { name:="IOBase",bases:=[.type "object"],mro:=[.ref 233,.type "object"],ns:=232,qualname:="IOBase",subclasses:=[.ref 248,.ref 260] },#[none,none,some (.str "IOBase" 611),some (.str "IOBase" 619),some (.none),some (.bool true)]⟩),
 (234,⟨.type "staticmethod",none,.fields #[.ref 230],#[]⟩),
 (259,⟨.type "dict",none,.dict #[de P "__module__" 668 (.str "io" 673),de P "__firstlineno__" 672 (.int 201 671),de P "__static_attributes__" 675 (.ref 258),de P "__doc__" 676 .none] 2,#[]⟩),
 (260,⟨.type "type",none,.cls { name:="TextIOBase",bases:=[.ref 233],mro:=[.ref 260,.ref 233,.type "object"],ns:=259,qualname:="TextIOBase",subclasses:=[.ref 737] },#[some (.ref 251),none,some (.str "TextIOBase" 661),some (.str "TextIOBase" 669),some (.none),some (.bool true)]⟩),
 (500,⟨.type "tuple",none,.seq #[.str "" 955,.str "\n" 956] 0,#[]⟩),
 (507,eh (br (bK p 35 1)) "StringIO.__init__" (.ref 500) (.str "io" 571) 506),
 (514,eh (br (bK p 35 2)) "StringIO.__translated" .none (.str "io" 571) 513),
 (521,eh (br (bK p 35 3)) "StringIO.__check" .none (.str "io" 571) 520),
 (676,⟨.type "tuple",none,.seq #[.int (-1) 1148] 0,#[]⟩),
 (683,eh (br (bK p 35 25)) "StringIO.read" (.ref 676) (.str "io" 571) 682),
 (736,⟨.type "dict",none,.dict #[de P "__module__" 948 (.str "_io" 953),de P "__firstlineno__" 952 (.int 373 951),de P "__init__" 965 (.ref 507),de P "_StringIO__translated" 974 (.ref 514),de P "_StringIO__check" 981 (.ref 521),de P "_StringIO__check_dot" 988 (.ref 528),de P "_StringIO__line" 1003 (.ref 535),de P "closed" 1011 (.ref 543),de P "line_buffering" 1019 (.ref 551),de P "newlines" 1027 (.ref 559),de P "encoding" 1035 (.ref 567),de P "errors" 1043 (.ref 575),de P "close" 1050 (.ref 582),de P "__enter__" 1057 (.ref 589),de P "__exit__" 1065 (.ref 596),de P "readable" 1072 (.ref 603),de P "writable" 1079 (.ref 610),de P "seekable" 1086 (.ref 617),de P "isatty" 1093 (.ref 624),de P "flush" 1100 (.ref 631),de P "fileno" 1107 (.ref 638),de P "detach" 1114 (.ref 645),de P "getvalue" 1121 (.ref 652),de P "tell" 1128 (.ref 659),de P "seek" 1138 (.ref 667),de P "truncate" 1146 (.ref 675),de P "read" 1158 (.ref 683),de P "readline" 1168 (.ref 691),de P "readlines" 1178 (.ref 699),de P "__iter__" 1185 (.ref 706),de P "__next__" 1193 (.ref 713),de P "write" 1205 (.ref 720),de P "writelines" 1213 (.ref 727),de P "__repr__" 1220 (.ref 734),de P "__static_attributes__" 1224 (.ref 735),de P "__doc__" 1225 .none] 2,#[]⟩),
 (737,⟨.type "type",none,.cls { name:="StringIO",bases:=[.ref 260],mro:=[.ref 737,.ref 260,.ref 233,.type "object"],ns:=736,qualname:="StringIO",subclasses:=[] },#[some (.ref 493),none,some (.str "StringIO" 941),some (.str "StringIO" 949),some (.none),some (.bool true)]⟩),
 (789,⟨.type "tuple",none,.seq #[.none,.none,.bool false,.bool false] 0,#[]⟩),
 (796,eh (br (bK p 46 0)) "shlex.__init__" (.ref 789) (.str "cpy313.shlex" 1288) 795),
 (803,eh (br (bK p 46 1)) "shlex.punctuation_chars" .none (.str "cpy313.shlex" 1288) 802),
 (804,⟨.type "property",none,.fields #[.ref 803,.none,.none,.none,.str "punctuation_chars" 1321,.bool false],#[]⟩),
 (833,eh (br (bK p 46 5)) "shlex.get_token" .none (.str "cpy313.shlex" 1288) 832),
 (840,eh (br (bK p 46 6)) "shlex.read_token" .none (.str "cpy313.shlex" 1288) 839),
 (862,eh (br (bK p 46 9)) "shlex.__iter__" .none (.str "cpy313.shlex" 1288) 861),
 (869,eh (br (bK p 46 10)) "shlex.__next__" .none (.str "cpy313.shlex" 1288) 868),
 (871,⟨.type "dict",none,.dict #[de P "__module__" 1297 (.str "cpy313.shlex" 1288),de P "__firstlineno__" 1301 (.int 644 1300),de P "__init__" 1313 (.ref 796),de P "punctuation_chars" 1321 (.ref 804),de P "push_token" 1329 (.ref 811),de P "push_source" 1338 (.ref 819),de P "pop_source" 1345 (.ref 826),de P "get_token" 1357 (.ref 833),de P "read_token" 1368 (.ref 840),de P "sourcehook" 1376 (.ref 847),de P "error_leader" 1385 (.ref 855),de P "__iter__" 1392 (.ref 862),de P "__next__" 1400 (.ref 869),de P "__static_attributes__" 1421 (.ref 870),de P "__dict__" 1423 (.ref 873),de P "__weakref__" 1425 (.ref 874),de P "__doc__" 1426 .none] 4,#[]⟩),
 (872,⟨.type "type",none,.cls { name:="shlex",bases:=[.type "object"],mro:=[.ref 872,.type "object"],ns:=871,qualname:="shlex",subclasses:=[] },#[none,none,some (.str "shlex" 1290),some (.str "shlex" 1298),some (.builtin "object.__new__"),some (.bool true)]⟩),
 (877,⟨.type "tuple",none,.seq #[.bool false,.bool true] 0,#[]⟩),
 (884,eh (br (aK p 47)) "split" (.ref 877) (.str "cpy313.shlex" 1288) 883),
 (885,⟨.type "builtin_function_or_method",none,.fields #[.builtin "re.Pattern.search",.ref 189],#[]⟩),
 (892,eh (br (aK p 49)) "quote" .none (.str "cpy313.shlex" 1288) 891),
 (899,eh (br (aK p 51)) "_law_way" .none (.str "law_ik0231_01" 1448) 898),
 (906,eh (br (aK p 52)) "_law_vote" .none (.str "law_ik0231_01" 1448) 905),
 (911,eh (br (aK p 53)) "_law_line" .none (.str "law_ik0231_01" 1448) 910),
 (918,eh (br (aK p 54)) "_law_places" .none (.str "law_ik0231_01" 1448) 917),
 (925,eh (br (aK p 55)) "_law_names" .none (.str "law_ik0231_01" 1448) 924),
 (932,eh (br (aK p 56)) "_law_rows" .none (.str "law_ik0231_01" 1448) 931),
 (937,eh (br (aK p 57)) "_law_text" .none (.str "law_ik0231_01" 1448) 936),
 (942,eh (br (aK p 58)) "_law_front" .none (.str "law_ik0231_01" 1448) 941),
 (947,eh (br (aK p 59)) "_law_value" .none (.str "law_ik0231_01" 1448) 946),
 (952,eh (br (aK p 60)) "_law_met" .none (.str "law_ik0231_01" 1448) 951),
 (959,eh (br (aK p 61)) "_law_seen" .none (.str "law_ik0231_01" 1448) 958),
 (964,eh (br (aK p 62)) "law" .none (.str "law_ik0231_01" 1448) 963)]
noncomputable def CQ:List (aB × Str):=(63,("median_low":Str))::(70,("median_high":Str))::(143,("fspath":Str))::(157,("_get_sep":Str))::(164,("join":Str))::(171,("splitroot":Str))::(178,("normpath":Str))::(183,("commonpath":Str))::(202,("_index":Str))::(229,("IOBase.__new__":Str))::(506,("StringIO.__init__":Str))::(513,("StringIO.__translated":Str))::(520,("StringIO.__check":Str))::(682,("StringIO.read":Str))::(795,("shlex.__init__":Str))::(802,("shlex.punctuation_chars":Str))::(832,("shlex.get_token":Str))::(839,("shlex.read_token":Str))::(861,("shlex.__iter__":Str))::(868,("shlex.__next__":Str))::(883,("split":Str))::(891,("quote":Str))::(898,("_law_way":Str))::(905,("_law_vote":Str))::(910,("_law_line":Str))::(917,("_law_places":Str))::(924,("_law_names":Str))::(931,("_law_rows":Str))::(936,("_law_text":Str))::(941,("_law_front":Str))::(946,("_law_value":Str))::(951,("_law_met":Str))::(958,("_law_seen":Str))::(963,("law":Str))::[]
noncomputable def QQ:List aB:=[64,71,144,158,165,172,179,184,188,189,203,230,232,233,234,259,260,500,507,514,521,676,683,736,737,789,796,803,804,833,840,862,869,871,872,877,884,885,892,899,906,911,918,925,932,937,942,947,952,959,964]
noncomputable def GN:List (Str × af):=[("deque",.type "collections.deque"),("fspath",.ref 144),("_get_sep",.ref 158),("join_posixpath",.ref 165),("splitroot",.ref 172),("normpath",.ref 179),("commonpath",.ref 184),("_index",.ref 203),("StringIO",.ref 737),("BytesIO",.ref 490),("shlex",.ref 872),("split",.ref 884),("_find_unsafe",.ref 885),("quote",.ref 892),("median_low",.ref 64),("median_high",.ref 71),("_law_way",.ref 899),("_law_vote",.ref 906),("_law_line",.ref 911),("_law_places",.ref 918),("_law_names",.ref 925),("_law_rows",.ref 932),("_law_text",.ref 937),("_law_front",.ref 942),("_law_value",.ref 947),("_law_met",.ref 952),("_law_seen",.ref 959),("law",.ref 964)]
noncomputable def ng:List Str:=("_sre":Str)::("deque":Str)::("_wall":Str)::("StatisticsError":Str)::("median_low":Str)::("median_high":Str)::("_plain_name":Str)::("ABCMeta":Str)::("_ABCLike":Str)::("_abc_plain_meta":Str)::("fspath":Str)::("_check_arg_types":Str)::("check_arg_types_genericpath":Str)::("_get_sep":Str)::("join":Str)::("join_posixpath":Str)::("splitroot":Str)::("normpath":Str)::("commonpath":Str)::("_twin_re_1":Str)::("_whence":Str)::("_index":Str)::("UnsupportedOperation":Str)::("IOBase":Str)::("BufferedIOBase":Str)::("TextIOBase":Str)::("BytesIO":Str)::("StringIO":Str)::("_kind":Str)::("_fspath":Str)::("check_arg_types_path":Str)::("isabs":Str)::("join_path":Str)::("dirname":Str)::("shlex":Str)::("split":Str)::("_find_unsafe":Str)::("quote":Str)::("_law_way":Str)::("_law_vote":Str)::("_law_line":Str)::("_law_places":Str)::("_law_names":Str)::("_law_rows":Str)::("_law_text":Str)::("_law_front":Str)::("_law_value":Str)::("_law_met":Str)::("_law_seen":Str)::[]
noncomputable def Ff(o:Option jf):Option Str:=match o with
 | some ⟨_,_,.fields (vs:Array af),_⟩=>(match vs[1]? with
  | some (iE q _)=>some q
  | _=>none)
 | _=>none
theorem vn{h:fv}{c:aB}{q:Str}(e:Ff (h.get? c)=some q):h.CodeRec (.ref c) q:=by
 cases ho:h.get? c with
 | none=>rw [ho]at e;cases e
 | some o=>
  rw [ho]at e
  obtain⟨a,b,d,f⟩:=o
  cases d with
  | fields vs=>
   replace e:(match vs[1]? with
    | some (iE q _)=>some q
    | _=>none)=some q:=e
   cases hv:vs[1]? with
   | none=>rw [hv]at e;cases e
   | some x=>
    rw [hv]at e
    cases x with
    | str q' t=>cases e;exact⟨c,_,vs,t,rfl,ho,rfl,hv⟩
    | _=>cases e
  | _=>cases e
noncomputable def Ei(ok:Nat->Option af->l7->Bool)(st:mr->l7->Option (mr × l7))(n₀:Nat)(ann:Option af):Nat->mr->l7->Option mr
 | 0,_,_=>none
 | n+1,s,t=>match through t with
  | true=>some s
  | false=>match ok n₀ ann t with
   | false=>none
   | true=>match st s t with
    | some (s',t')=>Ei ok st n₀ ann n s' t'
    | none=>none
theorem Eg{ok:Nat->Option af->l7->Bool}{st:mr->l7->Option (mr × l7)}{n₀:Nat}{ann:Option af}{n:Nat}{s:mr}{t:l7}:Ei ok st n₀ ann (n+1) s t=match through t with
  | true=>some s
  | false=>match ok n₀ ann t with
   | false=>none
   | true=>match st s t with
    | some (s',t')=>Ei ok st n₀ ann n s' t'
    | none=>none:=rfl
theorem Eh{p:eC}{w:bF}{n₀:Nat}{ann:Option af}:∀(n:Nat) (s:mr) (t:l7) (s':mr),Ei Ml (stepT (Mr jd) p w) n₀ ann n s t=some s' ->
  topRun jd p w n₀ ann n s.abs t=some s'.abs:=by
 intro n
 induction n with
 | zero=>
  intro _ _ _ h
  cases h
 | succ n ih=>
  intro s t s' h
  rw [Eg]at h
  unfold topRun
  cases ht:through t with
  | true=>rw [ht]at h;cases h;rfl
  | false=>
   rw [ht]at h
   cases hk:Ml n₀ ann t with
   | false=>rw [hk]at h;cases h
   | true=>
    rw [hk]at h
    cases hs:stepT (Mr jd) p w s t with
    | none=>rw [hs]at h;cases h
    | some r=>obtain⟨s₂,t₂⟩:=r;rw [hs]at h;rw [stepT_spec hs];exact ih s₂ t₂ s' h
noncomputable def rK:List jf->BT->Nat->Option BT
 | [],t,_=>some t
 | o::r,t,n=>match ((t.ins n o).get n).isSome with
  | true=>rK r (t.ins n o) (n+1)
  | false=>none
theorem zc(o:jf)(r:List jf)(t:BT)(n:Nat):rK (o::r) t n=match ((t.ins n o).get n).isSome with
  | true=>rK r (t.ins n o) (n+1)
  | false=>none:=rfl
theorem zb{life:Life}:∀(l:List jf) (t T:BT) (n:Nat),rK l t n=some T->si T (n+l.length) life=⟨(si t n life).objs++l.toArray,life⟩:=by
 intro l
 induction l with
 | nil=>
  intro t T n h
  cases h;simp [si]
 | cons o r ih=>
  intro t T n h
  rw [zc]at h
  cases g:((t.ins n o).get n).isSome with
  | false=>rw [g]at h;cases h
  | true=>
   rw [g]at h
   have e:=ih _ T (n+1) h
   rw [show n+(o::r).length=n+1+r.length by simp;exact o0,e,absHeap_ins g]
   have:((si t n life).push o).objs=(si t n life).objs.push o:=by cases si t n life;rfl
   rw [this]
   simp
noncomputable abbrev W4:=eC->ag->Option ag
noncomputable def Lb(ie:eC->bF->Nat->ag->l7->Option ag)(fm:W4)(stt:eC->ag × l7)(ns:fv->aB->Str->Option af)
  (ok:Nat->Option af->l7->Bool)(st:eC->bF->mr->l7->Option (mr × l7))(im:List ip->List Str)
  {β:Type}(obs:eC->ag->β)(p:eC)(w:bF)(N:Nat):Option β:=
 match (ie (Ay p) w N (stt (Ay p)).1 (stt (Ay p)).2).bind (fm p)with
 | some s=>match s.heap.isNs da&&s.gens.size==0 with
  | true=>match rK s.heap.objs.toList .nil 0 with
   | some T=>match Ei ok (st p w) s.heap.objs.size (ns s.heap da "__annotations__") N ⟨T,s.heap.objs.size,s.heap.life,s.gens,s.drawn,s.toks,s.os⟩ (topStub p)with
    | some s'=>match staticsOk (im p.main.body) s.heap s'.abs.heap&&Mn p s'.abs.heap&&gensDone s'.abs&&laidKept s.heap s'.abs.heap with
     | true=>some (obs p s'.abs)
     | false=>none
    | none=>none
   | none=>none
  | false=>none
 | none=>none
theorem IB{β:Type}{obs:eC->ag->β}{p:eC}{w:bF}{N:Nat}{b:β}
  (h:Lb (Mq jd) DI start nP Ml (stepT (Mr jd)) l5 obs p w N=some b) :
  (openEnds jd p w N).map (obs p)=some b:=by
 unfold Lb at h
 unfold openEnds fencedOpening
 cases e0:(Mq jd (Ay p) w N (start (Ay p)).1 (start (Ay p)).2).bind (DI p)with
 | none=>rw [e0]at h;cases h
 | some s=>
  rw [e0]at h
  show(topFrom jd p w N s).map _=_
  dsimp only at h
  unfold topFrom
  cases e1:(s.heap.isNs da&&s.gens.size==0)with
  | false=>rw [e1]at h;cases h
  | true=>
   rw [e1]at h
   dsimp only at h ⊢
   cases e2:rK s.heap.objs.toList .nil 0 with
   | none=>rw [e2]at h;cases h
   | some T=>
    rw [e2]at h
    dsimp only at h
    have hT:si T s.heap.objs.size s.heap.life=s.heap:=by
     have:=zb (life:=s.heap.life) _ _ _ _ e2
     rw [dU,CR]at this
     rw [this]
     obtain⟨⟨⟨objs⟩,life⟩,_⟩:=s
     simp [si,BT.list]
    cases e3:Ei Ml (stepT (Mr jd) p w) s.heap.objs.size (s.heap.nsMap da "__annotations__") N ⟨T,s.heap.objs.size,s.heap.life,s.gens,s.drawn,s.toks,s.os⟩ (topStub p)with
    | none=>rw [e3]at h;cases h
    | some s'=>
     rw [e3]at h
     dsimp only at h
     have e4:=Eh _ _ _ _ e3
     have e5:Ls ⟨T,s.heap.objs.size,s.heap.life,s.gens,s.drawn,s.toks,s.os⟩=s:=by
      unfold Ls
      dsimp only
      rw [hT]
     rw [e5]at e4
     rw [e4]
     show(match staticsOk (l5 p.main.body) s.heap s'.abs.heap&&Mn p s'.abs.heap&&gensDone s'.abs&&laidKept s.heap s'.abs.heap with | true=>some s'.abs | false=>none).map _=_
     cases e6:staticsOk (l5 p.main.body) s.heap s'.abs.heap&&Mn p s'.abs.heap&&gensDone s'.abs&&laidKept s.heap s'.abs.heap with
     | false=>rw [e6]at h;cases h
     | true=>rw [e6]at h;exact h
end
end Mine
end
section
set_option maxHeartbeats 0
namespace Mine
noncomputable section
noncomputable def j3(p:eC):eC:={ p with main:={ p.main with body:=[aK p 62] } }
noncomputable def Vn(p:eC)(s:ag):Bool:=xlAt (j3 p) [] s&&recOk [] s
noncomputable def HE:af->Bool
 | .str _ _=>true
 | _=>false
noncomputable def BS:af->Bool
 | .int _ _=>true
 | _=>false
noncomputable def Dk:af->Bool
 | .bool _=>true
 | _=>false
noncomputable def NK(d:Data)(k:Array af->Bool):Bool:=match d with
 | .fields vs=>k vs
 | _=>false
noncomputable def L6(o:jf):Bool:=o.cls == .type "code"&&NK o.data λvs=>vs[11]? == some (.ref 949)&&vs.getD 11 .none == .ref 949&&HE (vs.getD 18 .none)&&BS (vs.getD 7 .none)&&Dk (vs.getD 9 .none)&&BS (vs.getD 10 .none)
noncomputable def Ou(o:jf):Bool:=o.cls == .none&&o.dict.isNone&&NK o.data (·.isEmpty)&&o.slots.isEmpty
noncomputable def Iv(h:fv):Bool:=(h.get? 951).any L6&&(h.get? 949).any Ou
noncomputable abbrev IS:=List (Option jf) × Bool × List (Option af) × List (Option Str)
noncomputable def Db(ns:fv->aB->Str->Option af)(s:ag):IS:=(QQ.map s.heap.get?,s.heap.isNs da&&(s.heap.get? 490).isSome&&s.heap.isNs Ju&&(ns s.heap Ju "thirdparty.any").isNone&&Iv s.heap,(GN.map λx=>ns s.heap da x.1),CQ.map λx=>Ff (s.heap.get? x.1))
noncomputable def MT{β:Type}(seen:eC->List Str->List Str->(ag->Bool)->Bool->ag->β)(im:List ip->List Str)(ns:fv->aB->Str->Option af)(p:eC)(s:ag):β × IS:=
 (seen (j3 p) ng (im p.main.body) (Vn p) true s,Db ns s)
noncomputable def F9(p:eC)(P:dZ):IS:=((KK p P).map λx=>some x.2,true,(GN.map λx=>some x.2),CQ.map λx=>some x.2)
noncomputable abbrev QZ:eC:=PySem.Challenge.pw_ik0231_01
theorem Ve(w:bF):Lb (PySem.W.Fast.tw10274390034422433532 nz) PySem.W.Fast.tw14289696077712309145 PySem.W.Fast.tw1435165496053646825 nL
  PySem.W.Fast.tw6613529449190102663 (PySem.W.Fast.tw10156331382660048174 (PySem.W.Fast.tw11892475500146522536 nz)) nN
  (MT PySem.W.Fast.tw4187177175401517315 nN nL) QZ w 20000=some (openGood (j3 QZ) ng,F9 QZ w.params):=by
 kernel_rfl
theorem W1(w:bF):Lb (Mq jd) DI start nP Ml (stepT (Mr jd)) l5 (MT openSeen l5 nP) PySem.Challenge.pw_ik0231_01 w 20000 =
  some (openGood (j3 PySem.Challenge.pw_ik0231_01) ng,F9 PySem.Challenge.pw_ik0231_01 w.params):=by
 rw [PySem.W.Fast.te10274390034422433532,PySem.W.Fast.te14364793385576792824,PySem.W.Fast.te14289696077712309145,PySem.W.Fast.te1435165496053646825,PySem.W.Fast.te8920871248978507458,PySem.W.Fast.te6613529449190102663,
  PySem.W.Fast.te10156331382660048174,PySem.W.Fast.te11892475500146522536,PySem.W.Fast.te5923862056798008813,PySem.W.Fast.te4187177175401517315]
 exact Ve w
end
end Mine
end
section
set_option maxHeartbeats 0
namespace Mine
noncomputable section
structure Ct(w:bF)(h:fv):Prop where
 k:(KK pw w.params).In h
 g:∃mg,h.Ns da mg /\ ∀x∈GN,mg x.1=some x.2
 c:∀x∈CQ,h.CodeRec (.ref x.1) x.2
 e:∃o,h.get? 490=some o
 t:∃m,h.Ns Ju m/\m "thirdparty.any"=none
 hd:CodeHd h 951 949
 tb:h.get? 949=some (mP #[])
theorem Dg(p:eC)(P:dZ):QQ=(KK p P).map (·.1):=∅
theorem ow{α β:Type}{f g:α->β}{l:List α}(h:l.map f=l.map g):∀x∈l,f x=g x:=List.map_inj_left.mp h
theorem BQ{v:af}(h:HE v=true):∃a b,v = .str a b:=by
 cases v with
 | str a b=>exact⟨a,b,rfl⟩
 | _=>exact absurd h bc
theorem uT{v:af}(h:BS v=true):∃a b,v = .int a b:=by
 cases v with
 | int a b=>exact⟨a,b,rfl⟩
 | _=>exact absurd h bc
theorem zQ{v:af}(h:Dk v=true):∃a,v = .bool a:=by
 cases v with
 | bool a=>exact⟨a,rfl⟩
 | _=>exact absurd h bc
theorem zZ{d:Data}{k:Array af->Bool}(h:NK d k=true):∃vs,d = .fields vs/\k vs=true:=by
 cases d with
 | fields vs=>exact⟨vs,rfl,h⟩
 | _=>exact absurd h bc
theorem Fk{o:jf}{h:fv}(ho:h.get? 951=some o)(e:L6 o=true):CodeHd h 951 949:=by
 obtain⟨e1,e⟩:=aM.mp e
 obtain⟨vs,hd,e⟩:=zZ e
 obtain⟨e,a6⟩:=aM.mp e
 obtain⟨e,a5⟩:=aM.mp e
 obtain⟨e,a4⟩:=aM.mp e
 obtain⟨e,a3⟩:=aM.mp e
 obtain⟨a1,a2⟩:=aM.mp e
 have⟨b1,b2,a3⟩:=BQ a3
 have⟨c1,c2,a4⟩:=uT a4
 have⟨d1,a5⟩:=zQ a5
 have⟨f1,f2,a6⟩:=uT a6
 exact⟨o,vs,b1,b2,c1,c2,d1,f1,f2,ho,aJ e1,hd,aJ a1,aJ a2,a3,a4,a5,a6,by decide⟩
theorem Gj{o:jf}(e:Ou o=true):o=mP #[]:=by
 obtain⟨e,a4⟩:=aM.mp e
 obtain⟨e,a3⟩:=aM.mp e
 obtain⟨a1,a2⟩:=aM.mp e
 have⟨vs,a3,h3⟩:=zZ a3
 obtain⟨c,d,t,l⟩:=o
 cases (show c = .none from aJ a1)
 cases (show d=none from cK.mp a2)
 cases (show t = .fields vs from a3)
 cases (show vs = #[]from FK.mp h3)
 cases (show l = #[]from FK.mp a4)
 rfl
theorem sJ{h:fv}(e:Iv h=true):CodeHd h 951 949/\h.get? 949=some (mP #[]):=by
 obtain⟨e1,e2⟩:=aM.mp e
 obtain⟨o,h1,e1⟩:=AR e1
 obtain⟨o',h2,e2⟩:=AR e2
 exact⟨Fk h1 e1,Gj e2▸h2⟩
theorem JX{w:bF}{s:ag}(e:Db nP s=F9 pw w.params):Ct w s.heap:=by
 obtain⟨e1,e2⟩:=eQ e
 obtain⟨e2,e3⟩:=eQ e2
 obtain⟨e3,e4⟩:=eQ e3
 obtain⟨e2,e8⟩:=aM.mp e2
 obtain⟨e2,e7⟩:=aM.mp e2
 obtain⟨e2,e6⟩:=aM.mp e2
 obtain⟨e2,e5⟩:=aM.mp e2
 exact⟨Frag.in_of (Dg pw w.params) e1,⟨_,.of_isNs e2,ow e3⟩,λx hx=>vn (ow e4 x hx),fX.mp e5,⟨_,.of_isNs e6,cK.mp e7⟩,(sJ e8).1,(sJ e8).2⟩
theorem Ct.keeps(w:bF)(h h':fv)(x:Ct w h)(hk:∀b o,h.get? b=some o->h'.get? b=some o):Ct w h':=
 ⟨x.k.keeps hk,let ⟨mg,a,b⟩:=x.g;⟨mg,a.keeps hk,b⟩,λy hy=>(x.c y hy).keeps hk,let ⟨o,a⟩:=x.e;⟨o,hk _ _ a⟩,let ⟨m,a,b⟩:=x.t;⟨m,a.keeps hk,b⟩,x.hd.keeps hk,hk _ _ x.tb⟩
theorem left:LeftO pw (j3 pw) ng (Vn pw) (Db nP) (λw=>F9 pw w.params) 20000:=by
 intro w
 have h:=IB (W1 w)
 unfold MT at h
 exact h
noncomputable def nj:DefRec:=match aK pw 62 with
 | .FunctionDef name params body _ _ _ scope _ _ pos=>⟨name,params,body,scope,pos⟩
 | _=>⟨bO,bO,bO,bO,bO⟩
theorem t1:defOf (j3 pw) PySem.Challenge.rw_ik0231_01.row.name=some (nj,[]):=∅
theorem t2:PySem.Challenge.rw_ik0231_01.row.prog.theDef PySem.Challenge.rw_ik0231_01.row.name=some (nj.params,nj.body,nj.scope):=∅
theorem t3:kwWritten? nj.params.kwonlyargs nj.params.kw_defaults=some []:=∅
theorem t4:(chainsOk (j3 pw)&&opensWell PySem.Challenge.rw_ik0231_01.row.prog&&(frees PySem.Challenge.rw_ik0231_01.row.toRowW&&PySem.Challenge.rw_ik0231_01.row.within.isEmpty))=true:=by decide+kernel
theorem t5:PySem.Challenge.rw_ik0231_01.row.prog.bare:=⟨rfl,rfl,rfl,rfl,rfl,by decide+kernel⟩
theorem t6:PySem.Challenge.rw_ik0231_01.row.toRowW.promised:=by w_witness2
theorem PO:LeftO PySem.Challenge.rw_ik0231_01.row.prog (j3 pw) ng (Vn pw) (Db nP) (λw=>F9 pw w.params) 20000:=left
theorem head(call:WalkO (j3 pw) ng (XL (j3 pw) []) Ct PySem.Challenge.rw_ik0231_01.row.toRowW nj [] λf vs=>PySem.call f vs):PySem.Challenge.rw_ik0231_01.Holds:=by
 refine Ng λMO=>?_
 exact holds_open (r:=PySem.Challenge.rw_ik0231_01.row) PO (λw s e=>JX e) Ct.keeps (λs e=>xl_of s (aM.mp e).1) XL.keeps t1 t2 t3 (λs e=>recFacts_nil rfl) rfl MO t4 t5 t6 call
end
end Mine
end
section
namespace Mine
noncomputable section
noncomputable def BN:List (Str × af):=("abs",.builtin "abs")::("isinstance",.builtin "isinstance")::("issubclass",.builtin "issubclass")::("len",.builtin "len")::("sorted",.builtin "sorted")::("max",.builtin "max")::("min",.builtin "min") ::
 ("type",.type "type")::("str",.type "str")::("bytes",.type "bytes")::("tuple",.type "tuple")::("list",.type "list")::("map",.type "map")::("range",.type "range")::("enumerate",.type "enumerate") ::
 ("bool",.type "bool")::("int",.type "int")::("object",.type "object")::("StopIteration",.type "StopIteration")::[]
structure dy(w:bF)(h:fv):Prop where
 k:(KK pw w.params).In h
 c:∀x∈CQ,h.CodeRec (.ref x.1) x.2
 e:∃o,h.get? 490=some o
 t:∃m,h.Ns Ju m/\m "thirdparty.any"=none
 hd:CodeHd h 951 949
 lim:h.NoLimit
 g:∃mg,h.Ns da mg/\(∀x∈GN,mg x.1=some x.2) /\ ∀x∈BN,mg x.1=none
 b:∃mb,h.Ns jK mb /\ ∀x∈BN,mb x.1=some x.2
 u:∃mg bm ob,h.Ns da mg/\mg "__builtins__"=some (.ref bm)/\bm≠jK/\h.get? bm=some ob/\ob.cls = .type "module"/\ob.dict=some jK/\ob.data = .plain
theorem dy.keeps{w:bF}{h h':fv}(x:dy w h)(hk:∀b o,h.get? b=some o->h'.get? b=some o):dy w h':=
 ⟨x.k.keeps hk,λy hy=>(x.c y hy).keeps hk,x.e.imp λζ a=>hk _ _ a,x.t.imp λζ q=>⟨q.1.keeps hk,q.2⟩,x.hd.keeps hk,x.lim.keeps hk,x.g.imp λζ q=>⟨q.1.keeps hk,q.2⟩,x.b.imp λζ q=>⟨q.1.keeps hk,q.2⟩,x.u.imp λζ=>CP λζ=>CP λζ q=>⟨q.1.keeps hk,q.2.1,q.2.2.1,hk _ _ q.2.2.2.1,q.2.2.2.2⟩⟩
theorem Kq:(QQ.contains 949||(CQ.map (·.1)).contains 949)=false:=by decide+kernel
theorem wM{α β:Type} [BEq α] [LawfulBEq α]{a:α}{b:β}:∀{l:List (α × β)},l.lookup a=some b->(a,b)∈l
 | (x,y)::r,h=>by
  rw [a9]at h
  cases e:a==x with
  | true=>
   rw [e]at h
   have:=aJ e
   cases h
   subst this
   exact aj
  | false=>
   rw [e]at h
   exact am _ (wM h)
theorem dy.hide{w:bF}{h:fv}(x:dy w h)(tb:h.get? 949=some (mP #[])):dy w (sg h [949]):=by
 have ne:∀a o,h.get? a=some o->o.cls ≠ .none->(sg h [949]).get? a=some o:=λa o e hc=>lC _ e λq=>by
  rw [aC]at q
  subst q
  rw [tb]at e
  cases e
  exact hc rfl
 have hk:=Kq
 rw [iz]at hk
 have ns:∀{L:aB} {m:Str->Option af},L≠949->h.Ns L m->(sg h [949]).Ns L m:=λhL ⟨o,es,n,e,r⟩=>⟨o,es,n,lC _ e λq=>hL (aC.mp q),r⟩
 refine⟨λa o e=>lC _ (x.k a o e) λq=>?_,λy hy=>?_,?_,?_,?_,?_,?_,?_,?_⟩
 ·rw [aC]at q
  subst q
  have hm:(949:aB)∈QQ:=by
   rw [Dg pw w.params]
   exact dE (wM e)
  have:=hk.1
  rw [kB]at this
  simp [hm]at this
 ·obtain⟨c,o,vs,t,e1,e2,e3⟩:=x.c y hy
  injection e1 with e1
  subst e1
  refine⟨y.1,o,vs,t,rfl,lC _ e2 λq=>?_,e3⟩
  rw [aC]at q
  have hm:(949:aB)∈CQ.map (·.1):=q▸dE hy
  have:=hk.2
  rw [kB]at this
  simp [hm]at this
 ·obtain⟨o,e⟩:=x.e
  exact⟨o,lC _ e (by decide)⟩
 ·obtain⟨m,a,b⟩:=x.t
  exact⟨m,ns (by decide) a,b⟩
 ·obtain⟨o,vs,file,tf,flags,tg,Nu,text,tt,e,r⟩:=x.hd
  exact⟨o,vs,file,tf,flags,tg,Nu,text,tt,lC _ e (by decide),r⟩
 ·obtain⟨m,a,b⟩:=x.lim
  exact⟨m,ns (by decide) a,b⟩
 ·obtain⟨m,a,b⟩:=x.g
  exact⟨m,ns (by decide) a,b⟩
 ·obtain⟨m,a,b⟩:=x.b
  exact⟨m,ns (by decide) a,b⟩
 ·obtain⟨mg,bm,ob,a,b,c,d,e,r⟩:=x.u
  exact⟨mg,bm,ob,ns (by decide) a,b,c,ne _ _ d (by rw [e];decide),e,r⟩
noncomputable def IT:Prop:=∀(w:bF) (s:ag) (l:aB) (vs:List af) (ns:List Int),dy w s.heap->s.heap.get? 949=some (mP #[])->s.heap.get? l=some { cls:=.type "list",dict:=none,data:=.seq vs.toArray,slots := #[] }->IntsAre vs ns->ns.length<=63 ->
 ar (ay pw w) callerA (call (.ref 964) [.ref l]) (λv s'=>v = .bool true/\(∀b o,b≠949->s.heap.get? b=some o->s'.heap.get? b=some o)/\(∃ps,s'.heap.get? 949=some (mP ps))/\s'.os=s.os/\s'.gens=s.gens) (λζ ζ=>False) s
noncomputable def HK(x:Str):Bool :=!(startupNames.contains x||(looseW (j3 pw) ng).contains x||((recsOf (j3 pw)).map (·.name)).contains x||((litsOf (j3 pw)).map (·.1)).contains x||((clssOf (j3 pw) (looseW (j3 pw) ng)).map (·.name)).contains x)
theorem Lf:(BN.all λx=>HK x.1)=true:=by decide+kernel
theorem Lg:(BN.all λx=>decide (bootBuiltins x.1=some x.2)&&x.1 != "__name__")=true:=by decide+kernel
theorem Ny:(("law":Str),(jY 964))∈GN:=by unfold GN;repeat (first | exact F4 _ | apply F3)
theorem Hm:nj.name="law":=∅
set_option tactic.hygienic true in
theorem MK(call:IT):WalkO (j3 pw) ng (XL (j3 pw) []) Ct PySem.Challenge.rw_ik0231_01.row.toRowW nj [] λf vs=>PySem.call f vs:=by
 intro w s₀ s₁ mg mb G Y fa o pm cd doc dV kV ho hd hcd hD hmg hg args vals as hpre hlay hrd hwl hlo
 refine Ground.open G ?_
 intro T B D TE TW
 have hB:dy w s₁.heap:=by
  obtain⟨mg',a,b⟩:=Y.g
  have hmm:∀x,mg' x=mg x:=λx=>by
   obtain⟨o1,e1,n1,h1,d1,k1,f1⟩:=a
   obtain⟨o2,e2,n2,h2,d2,k2,f2⟩:=T.g
   rw [h1]at h2
   cases h2
   rw [d1]at d2
   cases d2
   rw [<-f1,<-f2]
  refine⟨Y.k,Y.c,Y.e,Y.t,Y.hd,T.nolimit,⟨mg,T.g,λx hx=>(hmm x.1).symm.trans (b x hx),λx hx=>?_⟩,⟨mb,T.b,λx hx=>?_⟩,let ⟨bm,ob,h1,h2,h3,r⟩:=T.bmain;⟨mg,bm,ob,T.g,h1,h2,h3,r⟩⟩
  ·have:=bu.mp Lf x hx
   unfold HK at this
   simp only [cG,iz,kB,decide_eq_false_iff_not]at this
   obtain⟨⟨⟨⟨h1,h2⟩,h3⟩,h4⟩,h5⟩:=this
   exact T.free x.1 h1 h2 h3 h4 h5
  ·have:=bu.mp Lg x hx
   simp only [bd,decide_eq_true_eq,bne_iff_ne]at this
   exact(T.builtins x.1 this.2).trans this.1
 have hfa:fa=964:=by
  obtain⟨mg',a,b,_⟩:=hB.g
  have h1:=b _ Ny
  obtain⟨o1,e1,n1,h1',d1,k1,f1⟩:=a
  obtain⟨o2,e2,n2,h2,d2,k2,f2⟩:=T.g
  rw [h1']at h2
  cases h2
  rw [d1]at d2
  cases d2
  rw [<-f1,f2,<-Hm,hmg]at h1
  cases h1
  rfl
 subst hfa
 wrow_args hpre hlay hrd hwl hlo
 rename_i ns _ _ _ _ _ _ _ l vs _ hL _ hW _ hI _ hlen _
 have hE:s₁.heap.get? l=some { cls:=.type "list",dict:=none,data:=.seq vs.toArray,slots := #[] }:=by
  obtain⟨o,e1,_,k,e2⟩:=hL
  have hW':Well w.params s₁.heap (.ref l) (.list (ofPys (ns.map PyData.int))):=hW
  cases hW' with
  | list e3 _=>
   rw [e1]at e3
   cases e3
   injection e2 with e2 _
   rw [<-e2]
   exact e1
 refine ao (call w s₁ l vs ns hB Y.tb hE hI (by exact o1 hlen)) ?_ λζ ζ x=>x.elim
 rintro v s' ⟨rfl,hk,⟨ps,hps⟩,hos,hgn⟩
 refine⟨.inl ⟨_,.bool true,[],rfl,λcls=>rfl,.bool true,postW_of rfl (w_eq_bool (w_res rfl) w_lit) rfl,unshared_nil⟩,⟨λb o e=>?_,λb o e=>?_⟩,hos,.of_eq (hgn.trans hg)⟩
 ·by_cases hb:b=949
  ·subst hb
   rw [Y.tb]at e
   cases e
   exact .inr (.inl ⟨(Y.hd.tab Y.tb).isCodeTable,rfl,#[],ps,rfl,by rw [hps];simp⟩)
  ·exact .inl (hk b o hb e)
 ·by_cases hb:b=949
  ·subst hb
   exact⟨_,hps⟩
  ·exact⟨o,hk b o hb e⟩
theorem holds_of(call:IT):PySem.Challenge.rw_ik0231_01.Holds:=head (MK call)
end
end Mine
end
section
namespace Mine
noncomputable abbrev LS:=List Nat
inductive PV where
 | none
 | bool (b:Bool)
 | int (i:Int)
 | str (s:LS)
 | list (l:List PV)
 | tup (l:List PV)
 | val (v:af)
 | obj (k:Nat)
 deriving Inhabited
inductive aO where
 | lst (l:List PV)
 | inst (C:aB) (fs:List (Str × PV))
 | deq
 | dead
 | tab
 deriving Inhabited
noncomputable abbrev bq:=List (Str × PV)
inductive Fl where
 | next | brk | cont
 | ret (v:PV)
noncomputable def ls(s:Str):LS:=s.cps.toList
noncomputable def Vq:LS:=[47]
noncomputable abbrev SZ:Nat:=1000000
noncomputable def mkS(l:LS):Option PV:=if l.length<=SZ then some (.str l)else none
noncomputable def mkL(l:List PV):Option PV:=if l.length<=SZ then some (.list l)else none
noncomputable def mkT(l:List PV):Option PV:=if l.length<=SZ then some (.tup l)else none
noncomputable def ja(l:LS):Bool:=l.all λc=>decide (c<1114112)
mutual
noncomputable def uA:Nat->PV->Bool
 | _,.none=>true
 | _,.int _=>true
 | _,.str _=>true
 | n+1,.list l=>ol n l
 | n+1,.tup l=>ol n l
 | _,_=>false
noncomputable def ol:Nat->List PV->Bool
 | _,[]=>true
 | n,x::r=>uA n x&&ol n r
end
mutual
noncomputable def yv:PV->PV->Bool
 | .none,b=>(match b with | .none=>true | _=>false)
 | .int i,b=>(match b with | .int j=>i==j | _=>false)
 | .str s,b=>(match b with | .str t=>s==t | _=>false)
 | .list x,b=>(match b with | .list y=>mG x y | _=>false)
 | .tup x,b=>(match b with | .tup y=>mG x y | _=>false)
 | _,_=>false
noncomputable def mG:List PV->List PV->Bool
 | [],b=>(match b with | []=>true | _=>false)
 | x::r,b=>(match b with | y::q=>yv x y&&mG r q | []=>false)
end
noncomputable def AF(a b:PV):Option Bool:=if uA 6 a&&uA 6 b then some (yv a b)else none
noncomputable def pO:PV->Option LS
 | .str s=>some s
 | _=>none
noncomputable def ft(l:List PV):Option (List LS):=l.mapM pO
noncomputable def gc(l:List PV):Option (List (List LS)):=l.mapM fun | .list x=>ft x | _=>none
noncomputable def fZ(l:List LS):List LS:=l.mergeSort λa b =>!decide (b<a)
noncomputable def iI{α:Type}(bt:α->α->Bool):List α->Option α
 | []=>none
 | x::r=>some (r.foldl (λb y=>if bt y b then y else b) x)
noncomputable def aL(sep:Nat):LS->List LS
 | []=>[[]]
 | c::r=>if c=sep then []::aL sep r else match aL sep r with
  | []=>[[c]]
  | h::t=>(c::h)::t
theorem b9(s c:Nat)(r:LS):aL s (c::r)=if c=s then []::aL s r else match aL s r with
  | []=>[[c]]
  | h::t=>(c::h)::t:=rfl
noncomputable def ce(sep:LS):List LS->LS
 | []=>[]
 | [x]=>x
 | x::r=>x++sep++ce sep r
noncomputable def dO(c:Nat)(by_:LS)(s:LS):LS:=s.flatMap λx=>if x=c then by_ else [x]
noncomputable def QV:LS->LS->Bool
 | [],_=>true
 | _::_,[]=>false
 | p,x::r=>p.isPrefixOf (x::r)||QV p r
noncomputable def cW(c:Nat):Bool :=!((48<=c&&c<=57)||(65<=c&&c<=90)||(97<=c&&c<=122)||c==95||c==64||c==37||c==43||c==61||c==58||c==44||c==46||c==47||c==45)
noncomputable def KC(i:Int)(n:Nat):Option Nat:=if 0<=i then(if i<n then some i.toNat else none)else if 0<=i+n then some (i+n).toNat else none
noncomputable def jU(i:Int)(n:Nat):Nat:=if i<0 then(max 0 (i+n)).toNat else(yO i n).toNat
noncomputable def r7(i:Int)(n:Nat):Nat:=if i<0 then(i+n).toNat else i.toNat
noncomputable def dG{α:Type}(l:List α)(a b:Option Int):List α:=
 let t:=match b with
  | none=>l
  | some j=>l.take (r7 j l.length)
 match a with
 | none=>t
 | some i=>t.drop (r7 i l.length)
noncomputable def iB{α:Type}(l:List α)(i:Int):Option α:=if 0<=i then l[i.toNat]? else if 0<=i+l.length then l[(i+l.length).toNat]? else none
noncomputable def LN:aO->Option (List PV)
 | .lst l=>some l
 | _=>none
noncomputable def lK(R:List aO):PV->Option (List PV)
 | .list l=>some l
 | .tup l=>some l
 | .obj k=>R[k]?.bind LN
 | _=>none
noncomputable def Gf:aO->Option Bool
 | .lst l=>some (!l.isEmpty)
 | .deq=>some false
 | _=>none
noncomputable def qc(R:List aO):PV->Option Bool
 | .none=>some false
 | .bool b=>some b
 | .int i=>some (decide (i≠0))
 | .str s=>some (!s.isEmpty)
 | .list l=>some (!l.isEmpty)
 | .tup l=>some (!l.isEmpty)
 | .obj k=>R[k]?.bind Gf
 | _=>none
noncomputable def iF:List (Str × PV)->Str->PV->List (Str × PV)
 | [],n,v=>[(n,v)]
 | (m,x)::r,n,v=>if m==n then(m,v)::r else(m,x)::iF r n v
theorem n8(m:Str)(x:PV)(r:List (Str × PV))(n:Str)(v:PV):iF ((m,x)::r) n v=if m==n then(m,v)::r else(m,x)::iF r n v:=rfl
noncomputable def jO(σ:bq)(x:Str)(v:PV):bq:=iF σ x v
mutual
noncomputable def sub(k:Nat)(l:List PV):PV->PV
 | .none=>.none
 | .bool b=>.bool b
 | .int i=>.int i
 | .str s=>.str s
 | .list xs=>.list (k9 k l xs)
 | .tup xs=>.tup (k9 k l xs)
 | .val v=>.val v
 | .obj j=>if j=k then .list l else .obj j
noncomputable def k9(k:Nat)(l:List PV):List PV->List PV
 | []=>[]
 | x::r=>sub k l x::k9 k l r
end
noncomputable def kZ(k:Nat)(l:List PV)(σ:List (Str × PV)):List (Str × PV):=σ.map λx=>(x.1,sub k l x.2)
noncomputable def vT(k:Nat)(l:List PV):aO->aO
 | .lst xs=>.lst (k9 k l xs)
 | .inst C fs=>.inst C (kZ k l fs)
 | r=>r
noncomputable def U9(k:Nat)(σ:bq)(R:List aO):aO->bq × List aO
 | .lst l=>(kZ k l σ,(R.map (vT k l)).set k .dead)
 | _=>(σ,R)
noncomputable def rb(k:Nat)(σ:bq)(R:List aO):bq × List aO:=match R[k]? with
 | some r=>U9 k σ R r
 | none=>(σ,R)
noncomputable def uX:List Nat->bq->List aO->bq × List aO
 | [],σ,R=>(σ,R)
 | k::ks,σ,R=>uX ks (rb k σ R).1 (rb k σ R).2
noncomputable def below(k n:Nat):List Nat:=(cM (n-k)).map (· + k)
end Mine
end
section
namespace Mine
set_option genInjectivity false
inductive EV where
 | name (x:Str)
 | const (c:Const)
 | call (f:Expr) (as:List Expr) (ks:List cS) (p:dN)
 | attr (o:Expr) (a:Str) (p:dN)
 | lam (ps:iA) (b:Expr) (sc:Scope)
 | tup (es:List Expr)
 | list (es:List Expr)
 | setc (elt:Expr) (gs:List fK) (sc:Scope)
 | listc (elt:Expr) (gs:List fK) (sc:Scope)
 | bin (l:Expr) (op:cy) (r:Expr)
 | un (op:UnaryOp) (x:Expr)
 | ife (t a b:Expr)
 | boolop (op:BoolOp) (es:List Expr)
 | cmp (l:Expr) (ops:List mX) (rs:List Expr)
 | sub (v i:Expr)
 | slice (a b c:Option Expr)
 | oth
noncomputable def jh:Expr->EV
 | .Name x _=>.name x
 | .Constant c _ _=>.const c
 | .Call f as ks p=>.call f as ks p
 | .Attribute o a p=>.attr o a p
 | .Lambda ps b sc _=>.lam ps b sc
 | .Tuple es _ _=>.tup es
 | .List es _=>.list es
 | .SetComp elt gs sc _=>.setc elt gs sc
 | .ListComp elt gs sc _=>.listc elt gs sc
 | .BinOp l op r _=>.bin l op r
 | .UnaryOp op x _=>.un op x
 | .IfExp t a b _=>.ife t a b
 | .BoolOp op es _=>.boolop op es
 | .Compare l ops rs _=>.cmp l ops rs
 | .Subscript v i _=>.sub v i
 | .Slice a b c _=>.slice a b c
 | _=>.oth
section
variable {α γ:Type}
noncomputable def LJ(v:EV)(d:γ)(k:Str->γ):γ:=match v with
 | .name x=>k x
 | _=>d
noncomputable def nameE(e:Expr)(d:γ)(k:Str->γ):γ:=LJ (jh e) d k
noncomputable def yj(v:EV)(d:γ)(k:Const->γ):γ:=match v with
 | .const c=>k c
 | _=>d
noncomputable def Go(e:Expr)(d:γ)(k:Str->γ):γ:=yj (jh e) d λc=>match c with
 | .str s=>k s
 | _=>d
noncomputable def L8(v:EV)(d:γ)(k:Expr->List Expr->List cS->dN->γ):γ:=match v with
 | .call f as ks p=>k f as ks p
 | _=>d
noncomputable def vt(e:Expr)(d:γ)(k:Expr->List Expr->List cS->dN->γ):γ:=L8 (jh e) d k
noncomputable def Mb(v:EV)(d:γ)(k:Expr->Str->dN->γ):γ:=match v with
 | .attr o a p=>k o a p
 | _=>d
noncomputable def IJ(e:Expr)(d:γ)(k:Expr->Str->dN->γ):γ:=Mb (jh e) d k
noncomputable def PQ(v:EV)(d:γ)(k:iA->Expr->Scope->γ):γ:=match v with
 | .lam ps b sc=>k ps b sc
 | _=>d
noncomputable def PR(e:Expr)(d:γ)(k:iA->Expr->Scope->γ):γ:=PQ (jh e) d k
noncomputable def nilL(l:List α)(d:γ)(k:γ):γ:=match l with
 | []=>k
 | _::_=>d
noncomputable def oneL(l:List α)(d:γ)(k:α->γ):γ:=match l with
 | []=>d
 | a::r=>nilL r d (k a)
noncomputable def twoL(l:List α)(d:γ)(k:α->α->γ):γ:=match l with
 | []=>d
 | a::r=>oneL r d (k a)
noncomputable def optO(o:Option α)(d:γ)(k:α->γ):γ:=match o with
 | some a=>k a
 | none=>d
noncomputable def intP(v:PV)(d:γ)(k:Int->γ):γ:=match v with
 | .int i=>k i
 | _=>d
noncomputable def strP(v:PV)(d:γ)(k:LS->γ):γ:=match v with
 | .str s=>k s
 | _=>d
noncomputable def listP(v:PV)(d:γ)(k:List PV->γ):γ:=match v with
 | .list l=>k l
 | _=>d
noncomputable def tupP(v:PV)(d:γ)(k:List PV->γ):γ:=match v with
 | .tup l=>k l
 | _=>d
noncomputable def boolP(v:PV)(d:γ)(k:Bool->γ):γ:=match v with
 | .bool b=>k b
 | _=>d
noncomputable def OJ(v:PV)(d:γ)(k:Nat->γ):γ:=match v with
 | .obj j=>k j
 | _=>d
noncomputable def OB(v:af)(d:γ)(k:aB->γ):γ:=match v with
 | .ref a=>k a
 | _=>d
end
noncomputable def bnd{α β γ:Type}(x:Option (α × β))(k:α->β->Option γ):Option γ:=match x with
 | some y=>k y.1 y.2
 | none=>none
noncomputable def grd{γ:Type}(c:Bool)(k:Option γ):Option γ:=bif c then k else none
noncomputable def fO{α:Type}(x:Option α)(R:List aO):Option (α × List aO):=optO x none λv=>some (v,R)
noncomputable def ju{γ:Type}(R:List aO)(v:PV)(k:Nat->aB->List (Str × PV)->Option γ):Option γ:=match v with
 | .obj j=>optO R[j]? none λr=>(match r with
  | .inst C fs=>k j C fs
  | _=>none)
 | _=>none
noncomputable def C3{γ:Type}(R:List aO)(j:Nat)(k:List PV->Option γ):Option γ:=optO R[j]? none λr=>(match r with
  | .lst l=>k l
  | _=>none)
noncomputable def Bx:PV->Bool
 | .val _=>false
 | _=>true
structure IY where
 fd:FD
 dflt:List PV
noncomputable def Qd(p:eC):List (aB × IY):=
 [(64,⟨br (aK p 5),[]⟩),(71,⟨br (aK p 6),[]⟩),(144,⟨br (aK p 15),[]⟩),(158,⟨br (aK p 20),[]⟩),(165,⟨br (aK p 21),[]⟩),(172,⟨br (aK p 23),[]⟩),(179,⟨br (aK p 24),[]⟩),(184,⟨br (aK p 25),[]⟩),(203,⟨br (aK p 29),[]⟩),
 (507,⟨br (bK p 35 1),[.str [],.str [10]]⟩),(514,⟨br (bK p 35 2),[]⟩),(521,⟨br (bK p 35 3),[]⟩),(683,⟨br (bK p 35 25),[.int (-1)]⟩),(796,⟨br (bK p 46 0),[.none,.none,.bool false,.bool false]⟩),(803,⟨br (bK p 46 1),[]⟩),
 (833,⟨br (bK p 46 5),[]⟩),(840,⟨br (bK p 46 6),[]⟩),(862,⟨br (bK p 46 9),[]⟩),(869,⟨br (bK p 46 10),[]⟩),(884,⟨br (aK p 47),[.bool false,.bool true]⟩),(892,⟨br (aK p 49),[]⟩),(899,⟨br (aK p 51),[]⟩),(906,⟨br (aK p 52),[]⟩),
 (911,⟨br (aK p 53),[]⟩),(918,⟨br (aK p 54),[]⟩),(925,⟨br (aK p 55),[]⟩),(932,⟨br (aK p 56),[]⟩),(937,⟨br (aK p 57),[]⟩),(942,⟨br (aK p 58),[]⟩),(947,⟨br (aK p 59),[]⟩),(952,⟨br (aK p 60),[]⟩),(959,⟨br (aK p 61),[]⟩),(964,⟨br (aK p 62),[]⟩)]
noncomputable def E6(p:eC)(f:aB):Option IY:=(Qd p).lookup f
noncomputable def VM:List aB:=[64,71,144,158,165,172,179,184,203,884,892,899,906,911,918,925,932,937,942,947,952,959]
noncomputable def Oh(f:aB):Bool:=VM.contains f
noncomputable def W5:List (Str × af):=("abs",.builtin "abs")::("isinstance",.builtin "isinstance")::("issubclass",.builtin "issubclass")::("len",.builtin "len")::("sorted",.builtin "sorted")::("max",.builtin "max")::("min",.builtin "min") ::
 ("type",.type "type")::("str",.type "str")::("bytes",.type "bytes")::("tuple",.type "tuple")::("list",.type "list")::("map",.type "map")::("range",.type "range")::("enumerate",.type "enumerate") ::
 ("bool",.type "bool")::("int",.type "int")::("object",.type "object")::("StopIteration",.type "StopIteration")::[]
noncomputable def eZ(x:Str):Option af:=optO (GN.lookup x) (W5.lookup x) some
noncomputable def C7:List (aB × Str × aB):=[(737,"_StringIO__translated",514),(737,"_StringIO__check",521),(737,"read",683),(872,"read_token",840),(872,"get_token",833)]
noncomputable def C8(C:aB)(n:Str):Option aB:=optO (C7.find? λx=>x.1==C&&x.2.1==n) none λx=>some x.2.2
noncomputable def OC(C:aB)(n:Str):Option aB:=bif C==872&&n=="punctuation_chars" then some 803 else none
noncomputable def Qg:List (aB × Str):=[(737,"_StringIO__newline"),(737,"_StringIO__buf"),(737,"_StringIO__pos"),(872,"instream"),(872,"infile"),(872,"posix"),(872,"eof"),(872,"commenters"),(872,"wordchars"),(872,"whitespace"),(872,"whitespace_split"),(872,"quotes"),(872,"escape"),(872,"escapedquotes"),(872,"state"),(872,"pushback"),(872,"lineno"),(872,"debug"),(872,"token"),(872,"filestack"),(872,"source"),(872,"_punctuation_chars")]
noncomputable def ta(C:aB)(n:Str):Bool:=Qg.contains (C,n)
noncomputable def wX(op:cy):Bool:=op == .Add
noncomputable def Px(op:cy)(x y:Int):Option PV:=match op with
 | .Add=>some (.int (x+y))
 | .Sub=>some (.int (x-y))
 | .FloorDiv=>grd (decide (0<y)&&decide (y<=1000)) (some (.int (kE x y)))
 | .Mod=>grd (decide (0<y)&&decide (y<=1000)) (some (.int (pX x y)))
 | _=>none
noncomputable def yu(op:cy)(a b:PV):Option PV:=match a with
 | .int x=>intP b none (Px op x)
 | .str x=>grd (wX op) (strP b none λy=>mkS (x++y))
 | .tup x=>grd (wX op) (tupP b none λy=>mkT (x++y))
 | .list x=>grd (wX op) (listP b none λy=>mkL (x++y))
 | _=>none
noncomputable def typV{γ:Type}(v:PV)(d:γ)(k:String->γ):γ:=match v with
 | .val u=>(match u with
  | .type T=>k T
  | _=>d)
 | _=>d
noncomputable def U6(a b:PV):Option Bool:=match b with
 | .none=>(match a with
  | .none=>some true
  | .val _=>none
  | .tup _=>none
  | _=>some false)
 | .bool y=>(match a with
  | .bool x=>some (x==y)
  | .str _=>some false
  | _=>none)
 | .val w=>typV (.val w) none λy=>typV a none λx=>some (x==y)
 | _=>none
noncomputable def GY:PV->Bool
 | .obj _=>false
 | _=>true
noncomputable def Nu(R:List aO)(a b:PV):Option Bool:=optO (lK R b) (strP b none λy=>strP a none λl=>oneL l none λc=>some (y.contains c))
 λl=>grd (uA 6 a&&l.all (uA 6)) (some (l.any λx=>yv x a))
noncomputable def IA(a b:PV)(f:Int->Int->Bool):Option Bool:=intP a none λx=>intP b none λy=>some (f x y)
noncomputable def td(R:List aO)(op:mX)(a b:PV):Option Bool:=match op with
 | .Eq=>grd (GY a&&GY b) (AF a b)
 | .NotEq=>(AF a b).map not
 | .Lt=>IA a b λx y=>decide (x<y)
 | .LtE=>IA a b λx y=>decide (x<=y)
 | .Gt=>IA a b λx y=>decide (x>y)
 | .GtE=>IA a b λx y=>decide (x≥y)
 | .Is=>U6 a b
 | .IsNot=>(U6 a b).map not
 | .In=>Nu R a b
 | .NotIn=>(Nu R a b).map not
noncomputable def BI(v:PV)(T:String):Option Bool:=match v with
 | .str _=>some (T=="str")
 | .tup _=>some (T=="tuple")
 | .list _=>some (T=="list")
 | _=>none
noncomputable def qX(R:List aO)(v:PV):Option Nat:=optO (lK R v) (strP v none λs=>some s.length) λl=>some l.length
noncomputable def VR(R:List aO)(T:String)(args:List PV):Option PV:=
 bif T=="isinstance" then twoL args none λv t=>typV t none λT=>grd (T=="str"||(T=="bytes"||T=="tuple")) (optO (BI v T) none λb=>some (.bool b))
 else bif T=="issubclass" then twoL args none λt l=>typV t none λT=>tupP l none λus=>twoL us none λu v=>typV u none λU=>typV v none λW=>grd (T=="str"&&(U=="str"&&W=="bytes")) (some (.bool true))
 else oneL args none λv=>
  bif T=="abs" then intP v none λi=>some (.int i.natAbs)
  else bif T=="len" then optO (qX R v) none λn=>some (.int n)
  else bif T=="sorted" then listP v none λl=>optO (ft l) none λss=>grd (decide (ss.length<64)) (some (.list ((fZ ss).map .str)))
  else bif T=="min" then listP v none λl=>optO (gc l) none λss=>optO (iI (λa b=>decide (a<b)) ss) none λs=>some (.list (s.map .str))
  else bif T=="max" then listP v none λl=>optO (gc l) none λss=>optO (iI (λa b=>decide (b<a)) ss) none λs=>some (.list (s.map .str))
  else none
noncomputable def VQ(T:String)(args:List PV):Option PV:=oneL args none λv=>
 bif T=="type" then(match v with
  | .str _=>some (.val (.type "str"))
  | .int _=>some (.val (.type "int"))
  | _=>none)
 else bif T=="int" then intP v none λi=>some (.int i)else none
noncomputable def Ok(R:List aO)(f:af)(args:List PV):Option PV:=match f with
 | .builtin T=>VR R T args
 | .type T=>VQ T args
 | _=>none
noncomputable def maxLen(R:List aO)(l:List PV):Option PV:=(l.mapM λv=>(qX R v).map λn=>(n,v)).bind λr=>(iI (λa b=>decide (b.1<a.1)) r).map (·.2)
noncomputable def xB(s:LS)(n:Str)(args:List PV):Option PV:=oneL args none λa=>strP a none λp=>
 bif n=="startswith" then some (.bool (decide (p.length<=s.length)&&(s.take p.length==p)))
 else bif n=="endswith" then some (.bool (decide (p.length<=s.length)&&((s.drop (s.length-p.length)).take p.length==p)))
 else grd (n=="split") (oneL p none λc=>mkL ((aL c s).map .str))
noncomputable def wV(R:List aO)(v:PV)(i:Int):Option PV:=optO (lK R v) none λl=>iB l i
noncomputable def Gu(v:PV)(a b:Option Int):Option PV:=match v with
 | .str s=>some (.str (dG s a b))
 | .list l=>some (.list (dG l a b))
 | .tup l=>some (.tup (dG l a b))
 | _=>none
noncomputable def Hu{α:Type}(normal:List Str):List (Str × α)->List (Str × α)->Option (List (Str × α))
 | [],slots=>some slots
 | (k,v)::r,slots=>if normal.contains k&&(slots.lookup k).isNone then Hu normal r (slots++[(k,v)])else none
noncomputable def Jq{α:Type}:List (Str × α)->List (Str × α)->List (Str × α)
 | [],slots=>slots
 | (k,v)::r,slots=>if(slots.lookup k).isNone then Jq r (slots++[(k,v)])else Jq r slots
theorem zN{α:Type}(normal:List Str)(k:Str)(v:α)(r slots:List (Str × α)):Hu normal ((k,v)::r) slots=if normal.contains k&&(slots.lookup k).isNone then Hu normal r (slots++[(k,v)])else none:=rfl
theorem vi{α:Type}(k:Str)(v:α)(r slots:List (Str × α)):Jq ((k,v)::r) slots=if(slots.lookup k).isNone then Jq r (slots++[(k,v)])else Jq r slots:=rfl
noncomputable def bindG{α:Type}(ps:iA)(dflt pos:List α)(kw:List (Str × α)):Option (List (Str × α)):=
 let normal:=ps.args.map (·.arg)
 let names:=ps.posonlyargs.map (·.arg)++normal
 (Hu normal kw (names.zip pos)).bind λslots=>
  if ps.vararg.isNone&&decide (names.length<pos.length)||decide (names.length<dflt.length) || !((names.take (names.length-dflt.length)).filter λn=>(slots.lookup n).isNone).isEmpty then none
  else some (names.filterMap λn=>((Jq ((names.drop (names.length-dflt.length)).zip dflt) slots).lookup n).map (n,·))
noncomputable def vv(ps:iA)(dflt:List PV)(pos:List PV)(kw:List (Str × PV)):Option bq:=
 (bindG ps dflt pos kw).bind λl=>match ps.vararg with
  | some va=>(mkT (pos.drop (ps.posonlyargs.map (·.arg)++ps.args.map (·.arg)).length)).map λv=>l++[(va.arg,v)]
  | none=>some l
noncomputable def zY(d:FD):Bool:=d.scope.kind == .function && !d.scope.isGenerator && !d.scope.isCoroutine&&d.scope.names.lookup ("__debug__":Str)==none&&(d.scope.names.all λx=>x.2 != .free&&d.scope.names.lookup x.1==some x.2)&&d.params.kwonlyargs.isEmpty&&d.params.kwarg.isNone
 && ((d.params.posonlyargs++d.params.args++d.params.vararg.toList).all λa=>d.scope.names.lookup a.arg==some .local||d.scope.names.lookup a.arg==some .cell)&&decide ((d.params.posonlyargs++d.params.args++d.params.vararg.toList).map (·.arg)).Nodup
noncomputable abbrev FS:=Fl × bq × List aO
noncomputable def uz(f:Fl)(y:bq × List aO)(k:Option FS):Option FS:=match f with
 | .next=>k
 | f=>some (f,y)
noncomputable def lf(f:Fl)(y:bq × List aO)(k:Option FS):Option FS:=match f with
 | .next=>k
 | .cont=>k
 | .brk=>some (.next,y)
 | .ret v=>some (.ret v,y)
noncomputable def uY(step:bq->List aO->PV->Option FS):List PV->bq->List aO->Option FS
 | [],σ,R=>some (.next,σ,R)
 | x::r,σ,R=>bnd (step σ R x) λf y=>lf f y (uY step r y.1 y.2)
noncomputable def mj(f:List aO->PV->Option (Option PV × List aO)):List PV->List aO->Option (List PV × List aO)
 | [],R=>some ([],R)
 | x::r,R=>bnd (f R x) λo R'=>bnd (mj f r R') λys R''=>some (optO o ys (· :: ys),R'')
noncomputable def A6(test:bq->List aO->Option (Bool × List aO))(body:bq->List aO->Option FS):Nat->bq->List aO->Option FS
 | 0,_,_=>none
 | n+1,σ,R=>bnd (test σ R) λc R'=>bif c then bnd (body σ R') λf y=>lf f y (A6 test body n y.1 y.2)else some (.next,σ,R')
noncomputable def kt(nx:List aO->Option (Option PV × List aO)):Nat->List aO->Option (List PV × List aO)
 | 0,_=>none
 | n+1,R=>bnd (nx R) λo R'=>optO o (some ([],R')) λv=>bnd (kt nx n R') λys R''=>some (v::ys,R'')
noncomputable def lP(R:List aO):Bool:=match (R[0]? : Option aO)with
 | some aO.tab=>true
 | _=>false
noncomputable def iG(n:Int):List PV:=(cM n.toNat).map λ(i:Nat)=>PV.int (i:Int)
noncomputable def mC(i:Nat):List PV->List PV
 | []=>[]
 | x::r=>.tup [.int (i:Int),x]::mC (i+1) r
structure Cx where
 names:List (Str × d3)
 base:Nat
noncomputable def gl(cx:Cx)(x:Str):Bool:=cx.names.lookup x==some .globalImplicit
noncomputable def QG(cx:Cx)(x:Str):Bool:=cx.names.lookup x==some .local||cx.names.lookup x==some .cell
noncomputable def qG(cx:Cx)(σ:bq)(x:Str)(v:PV):Option bq:=grd (QG cx x) (some (jO σ x v))
noncomputable def JW(cx:Cx):List Expr->List PV->bq->Option bq
 | [],vs,σ=>nilL vs none (some σ)
 | t::ts,vs,σ=>(match vs with
  | []=>none
  | v::vs=>nameE t none λx=>optO (qG cx σ x v) none λσ=>JW cx ts vs σ)
noncomputable def Ma(cx:Cx)(t:EV)(v:PV)(σ:bq):Option bq:=match t with
 | .name x=>qG cx σ x v
 | .tup ts=>grd (ts.length==2||ts.length==3) (tupP v none λvs=>JW cx ts vs σ)
 | _=>none
noncomputable def iC(cx:Cx)(t:Expr)(v:PV)(σ:bq):Option bq:=Ma cx (jh t) v σ
noncomputable def yk:Const->Option PV
 | .none=>some .none
 | .bool b=>some (.bool b)
 | .int i=>some (.int i)
 | .str s=>grd (ja (ls s)) (mkS (ls s))
 | _=>none
noncomputable def eT:List (Str × d3)->bq->bq
 | [],_=>[]
 | (x,k)::r,σ=>if k == .free then(match σ.lookup x with
  | some v=>(x,v)::eT r σ
  | none=>eT r σ)else eT r σ
theorem zW(x:Str)(k:d3)(r:List (Str × d3))(σ:bq):eT ((x,k)::r) σ=if k == .free then(match σ.lookup x with
  | some v=>(x,v)::eT r σ
  | none=>eT r σ)else eT r σ:=rfl
noncomputable def Df(kws:List cS):Bool:=oneL kws false λk=>k.arg==some "key"&&PR k.value false λps b sc=>vt b false λf as ks cpos=>IJ f false λo m apos=>nameE o false λx=>oneL as false λc=>Go c false λc=>
 ks.isEmpty&&(m=="split"&&(ls c==[47]&&(apos.endLine==cpos.line&&(ps.posonlyargs.isEmpty&&(ps.args.map (·.arg)==[x]&&(ps.vararg.isNone&&(ps.defaults.isEmpty&&(ps.kw_defaults.isEmpty
   && (zY ⟨x,ps,[],sc⟩&&(sc.names.all (λy=>y.2 == .local)&&sc.names.lookup x==some .local))))))))))
noncomputable def LP(cx:Cx)(kws:List cS):Bool:=oneL kws false λk=>k.arg==some "key"&&nameE k.value false (gl cx)
noncomputable def LM(cx:Cx)(l:List Expr):Bool:=oneL l false λc=>vt c false λf as ζ ζ=>nameE f false λg=>twoL as false λh ζ=>gl cx g&&nameE h false (gl cx)
inductive CK where
 | tupMap (f:aB) (e:Expr)
 | maxLen (e:Expr)
 | sortKey (e:Expr)
 | listOf (e:Expr)
 | deque
 | new (C f:aB)
 | fn (f:aB)
 | bi (f:af)
 | bad
noncomputable def Qn(T:String)(args:List Expr):CK:=
 bif T=="tuple" then oneL args .bad λc=>vt c .bad λf as ks ζ=>nameE f .bad λg=>bif ks.isEmpty&&eZ g==some (.type "map")then twoL as .bad λh e=>nameE h .bad λh=>optO (eZ h) .bad λv=>OB v .bad λa=>.tupMap a e else .bad
 else bif T=="list" then oneL args .bad .listOf
 else bif T=="collections.deque" then nilL args .bad .deque
 else .bi (.type T)
noncomputable def Qo(T:String)(args:List Expr)(kws:List cS):CK:=match kws with
 | []=>.bi (.builtin T)
 | k::r=>oneL args .bad λe=>nilL r .bad (bif T=="max"&&nameE k.value false (λk=>eZ k==some (.builtin "len"))then .maxLen e else bif T=="sorted"&&Df [k]then .sortKey e else .bad)
noncomputable def L7(f:aB)(args:List Expr)(kws:List cS):CK:=
 bif f==737 then nilL kws .bad (oneL args .bad λζ=>.new 737 507)
 else bif f==872 then(match args with
  | []=>.bad
  | _::_=>.new 872 796)
 else .fn f
noncomputable def lV(g:Option af)(args:List Expr)(kws:List cS):CK:=optO g .bad λv=>match v with
 | .type T=>nilL kws .bad (Qn T args)
 | .builtin T=>Qo T args kws
 | .ref f=>L7 f args kws
 | _=>.bad
noncomputable def cL(e:Expr):Bool:=nameE e false λζ=>true
noncomputable def ml(v:PV):Bool:=strP v false λζ=>true
noncomputable def qI(cx:Cx)(σ:bq)(sc:Scope):Bool:=sc.kind == .function&&sc.names.lookup ("__debug__":Str)==none&&sc.names.all λx=>x.2 != .cell&&sc.names.lookup x.1==some x.2&&(x.2 != .free||(σ.lookup x.1).isSome&&(cx.names.lookup x.1==some .cell||cx.names.lookup x.1==some .free))
noncomputable def CV{γ:Type}(e:Expr)(d:γ)(k:Str->Expr->γ):γ:=vt e d λf as ks ζ=>nameE f d λg=>oneL as d λa=>nilL ks d (k g a)
noncomputable def uS(cx:Cx)(e:Expr):Bool:=CV e false λf ζ=>gl cx f&&eZ f==some (.ref 885)
inductive IK where
 | range (a:Expr)
 | enum (a:Expr)
 | plain
 | bad
noncomputable def W0(cx:Cx)(f:Str)(as:List Expr)(ks:List cS):IK:=oneL as .bad λa=>nilL ks .bad (bif gl cx f&&eZ f==some (.type "range")then .range a else bif gl cx f&&eZ f==some (.type "enumerate")then .enum a else .bad)
noncomputable def VL(cx:Cx)(f:EV)(as:List Expr)(ks:List cS):IK:=match f with
 | .name f=>W0 cx f as ks
 | .attr _ _ _=>.plain
 | _=>.bad
noncomputable def VK(cx:Cx)(v:EV):IK:=match v with
 | .call f as ks _=>VL cx (jh f) as ks
 | .name _=>.plain
 | .attr _ _ _=>.plain
 | .sub _ _=>.plain
 | .bin _ _ _=>.plain
 | .ife _ _ _=>.plain
 | _=>.bad
noncomputable def ik(cx:Cx)(e:Expr):IK:=VK cx (jh e)
noncomputable def iH(cx:Cx)(e:Expr):Bool:=match ik cx e with
 | .enum _=>true
 | _=>false
noncomputable def L2(v:EV):Option (List Expr):=match v with
 | .list es=>some es
 | _=>none
noncomputable def rV(e:Expr):Option (List Expr):=L2 (jh e)
inductive AK where
 | disp (x:Str)
 | one (x:Str) (elt:Expr) (gs:List fK) (sc:Scope)
 | attr (o:Expr) (a:Str)
 | plain
noncomputable def VU(x:Str)(e:EV):AK:=match e with
 | .setc elt gs sc=>.one x elt gs sc
 | _=>.plain
noncomputable def VT(t:EV)(e:Expr):AK:=match t with
 | .name x=>optO (rV e) .plain λζ=>.disp x
 | .tup ts=>oneL ts .plain λt=>nameE t .plain λx=>VU x (jh e)
 | .attr o a _=>.attr o a
 | _=>.plain
noncomputable def ak(t e:Expr):AK:=VT (jh t) e
noncomputable def VJ(b:Bool)(v:PV):Bool:=boolP v false (· == b)
noncomputable def qR(R:List aO)(σ:bq)(e:Expr):Option (Nat × List PV):=nameE e none λx=>optO (σ.lookup x) none λv=>OJ v none λk=>C3 R k λl=>some (k,l)
noncomputable def Qv(op:cy)(x y:Int):Option PV:=match op with
 | .Add=>some (.int (x+y))
 | .Sub=>some (.int (x-y))
 | _=>none
noncomputable def rt(op:cy)(a b:PV):Option PV:=match a with
 | .int x=>intP b none (Qv op x)
 | .str x=>grd (wX op) (strP b none λy=>mkS (x++y))
 | _=>none
noncomputable def eL:Expr->Bool
 | .Starred _ _=>false
 | _=>true
noncomputable def qj(e:Expr):Bool:=vt e true λf as ks ζ =>!(cL f&&(as.isEmpty&&ks.isEmpty))
noncomputable def QT(v:EV):Bool:=match v with
 | .tup _=>true
 | _=>false
noncomputable def fB(e:Expr):Bool:=QT (jh e)
structure RK where
 a:LS
 x:Str
 c:Nat
 b:LS
noncomputable def GI(l:Expr)(op:cy)(r:Expr):Option RK:=Go l none λa=>vt r none λf as ks pos=>IJ f none λo m apos=>nameE o none λx=>twoL as none λc b=>Go c none λc=>Go b none λb=>oneL (ls c) none λk=>
 grd (wX op&&(ks.isEmpty&&(m=="replace"&&(!(c==b)&&(apos.endLine==pos.line&&(ja (ls a)&&(ja (ls b)&&(decide ((ls b).length<=14)&&decide ((ls a).length<=SZ))))))))) (some ⟨ls a,x,k,ls b⟩)
noncomputable abbrev Spec:=aB->List PV->List (Str × PV)->List aO->Option (PV × List aO)
structure Aw where
 ev:Cx->Expr->bq->List aO->Option (PV × List aO)
 callv:Cx->CK->List Expr->List cS->bq->List aO->Option (PV × List aO)
 orv:Cx->BoolOp->List Expr->bq->List aO->Option (PV × List aO)
 sbv:Cx->PV->Expr->bq->List aO->Option (PV × List aO)
 cmpv:Cx->Expr->List fK->Scope->bq->List aO->Option (List PV × List aO)
 cp:Cx->Expr->List mX->List Expr->bq->List aO->Option (Bool × List aO)
 tv:Cx->Expr->bq->List aO->Option (Bool × List aO)
 tvs:Cx->BoolOp->List Expr->bq->List aO->Option (Bool × List aO)
 evs:Cx->List Expr->bq->List aO->Option (List PV × List aO)
 evk:Cx->List cS->bq->List aO->Option (List (Str × PV) × List aO)
 evo:Cx->Option Expr->bq->List aO->Option (Option Int × List aO)
 itv:Cx->Expr->bq->List aO->Option (List PV × List aO)
 evm:Cx->Expr->bq->List aO->Option (PV × List aO)
 evms:Cx->List Expr->bq->List aO->Option (List PV × List aO)
 ex:Cx->ip->bq->List aO->Option FS
 forIt:Cx->Expr->bq->List aO->Option (List PV × bq × List aO)
 asg:Cx->Expr->Expr->bq->List aO->Option FS
 aug:Cx->Expr->cy->Expr->bq->List aO->Option FS
 exs:Cx->List ip->bq->List aO->Option FS
section
variable (sp:Spec) (F:Aw)
noncomputable def lN(k:Nat)(R:List aO):Option (Option PV × List aO):=ju R (.obj k) λζ D gs=>grd (decide (D=872)&&(gs.lookup ("get_token":Str)).isNone) (bnd (sp 833 [.obj k] [] R) λv R1=>
 ju R1 (.obj k) λζ C fs=>grd (decide (C=872)) (optO (fs.lookup ("eof":Str)) none λe=>optO (td R1 .Eq v e) none λb=>some (bif b then none else some v,R1)))
noncomputable def PG(s:LS)(m:Str)(R2:List aO)(v:PV):Option (PV × List aO):=
 bif m=="join" then optO (lK R2 v) none λl=>optO (ft l) none λl=>grd (decide ((l.map bX).sum+l.length*s.length<=SZ)) (fO (mkS (ce s l)) R2)
 else fO (xB s m [v]) R2
noncomputable def Hb(r:aO)(k:Nat)(m:Str)(as:List PV)(R2:List aO):Option (PV × List aO):=match r with
 | .lst _=>C3 R2 k λl=>bif m=="append" then oneL as none λv=>grd (decide (l.length<SZ)) (some (.none,R2.set k (.lst (l++[v]))))
  else grd (m=="pop") (nilL as none (optO l.getLast? none λv=>some (v,R2.set k (.lst l.dropLast))))
 | .inst C fs=>optO (C8 C m) none λf=>grd (fs.lookup m).isNone (sp f (.obj k::as) [] R2)
 | _=>none
noncomputable def sC(R1:List aO)(ov:PV)(m:Str)(as:List PV)(R2:List aO):Option (PV × List aO):=match ov with
 | .str s=>oneL as none (PG s m R2)
 | .obj k=>optO R1[k]? none λr=>Hb sp r k m as R2
 | _=>none
noncomputable def Ib(cx:Cx)(l:Expr)(op:cy)(r:Expr)(σ:bq)(R:List aO):Option (PV × List aO):=optO (GI l op r)
 (bnd (F.ev cx l σ R) λa R1=>bnd (F.ev cx r σ R1) λb R2=>fO (yu op a b) R2)
 λk=>optO (σ.lookup k.x) none λv=>strP v none λs=>fO (mkS (k.a++dO k.c k.b s)) R
noncomputable def Vc(cx:Cx)(op:UnaryOp)(x:Expr)(σ:bq)(R:List aO):Option (PV × List aO):=match op with
 | .USub=>bnd (F.ev cx x σ R) λv R1=>intP v none λi=>some (.int (-i),R1)
 | _=>none
noncomputable def Ic(cx:Cx)(v:Expr)(a:Str)(σ:bq)(R:List aO):Option (PV × List aO):=grd (qj v) (bnd (F.ev cx v σ R) λx R1=>ju R1 x λk C fs=>
 bif ta C a then optO (fs.lookup a) none λu=>grd (Bx u) (some (u,R1))else optO (OC C a) none λf=>bnd (sp f [.obj k] [] R1) λu R2=>grd (Bx u) (some (u,R2)))
noncomputable def H9(cx:Cx)(f:EV)(args:List Expr)(kws:List cS)(pos:dN)(σ:bq)(R:List aO):Option (PV × List aO):=match f with
 | .attr o m apos=>nilL kws none (grd (qj o&&((apos.endLine==pos.line)&&decide (args.length<2))) (bnd (F.ev cx o σ R) λov R1=>bnd (F.evs cx args σ R1) λas R2=>sC sp R1 ov m as R2))
 | .name f=>grd (gl cx f) (F.callv cx (lV (eZ f) args kws) args kws σ R)
 | _=>none
noncomputable def VO(cx:Cx)(v:EV)(σ:bq)(R:List aO):Option (PV × List aO):=match v with
 | .const c=>fO (yk c) R
 | .name x=>bif gl cx x then optO (eZ x) none λv=>some (.val v,R)else fO (σ.lookup x) R
 | .bin l op r=>Ib F cx l op r σ R
 | .un op x=>Vc F cx op x σ R
 | .ife t a b=>bnd (F.tv cx t σ R) λc R1=>F.ev cx (bif c then a else b) σ R1
 | .boolop op es=>F.orv cx op es σ R
 | .cmp l ops rs=>bnd (F.cp cx l ops rs σ R) λb R1=>some (.bool b,R1)
 | .list es=>bnd (F.evs cx es σ R) λl R1=>fO (mkL l) R1
 | .tup es=>bnd (F.evs cx es σ R) λl R1=>fO (mkT l) R1
 | .sub v i=>bnd (F.ev cx v σ R) λx R1=>grd (cL v||ml x) (F.sbv cx x i σ R1)
 | .attr v a _=>Ic sp F cx v a σ R
 | .listc elt gs sc=>bnd (F.cmpv cx elt gs sc σ R) λl R1=>fO (mkL l) R1
 | .call f args kws pos=>H9 sp F cx (jh f) args kws pos σ R
 | _=>none
noncomputable def Hf(f:aB)(R:List aO)(x:PV):Option (Option PV × List aO):=bnd (sp f [x] [] R) λy R'=>some (some y,R')
noncomputable def VG(cx:Cx)(e:Expr)(σ:bq)(R:List aO):Option (PV × List aO):=VO sp F cx (jh e) σ R
noncomputable def lh(cx:Cx)(ck:CK)(args:List Expr)(kws:List cS)(σ:bq)(R:List aO):Option (PV × List aO):=match ck with
 | .tupMap f e=>grd (LM cx args) (bnd (F.ev cx e σ R) λv R1=>listP v none λl=>bnd (mj (Hf sp f) l R1) λys R2=>fO (mkT ys) R2)
 | .maxLen e=>grd (LP cx kws) (bnd (F.ev cx e σ R) λv R1=>listP v none λl=>fO (maxLen R1 l) R1)
 | .sortKey e=>bnd (F.ev cx e σ R) λv R1=>listP v none λl=>optO (ft l) none λss=>grd (decide (0<ss.length)&&(decide (ss.length<64)&&(ss.all (λs=>decide (s.length<SZ))&&(lP R1&&cx.names.lookup ("met":Str)==some .cell)))) (some (.list ((ss.mergeSort λa b =>!decide (aL 47 b<aL 47 a)).map .str),R1))
 | .listOf e=>bnd (F.ev cx e σ R) λv R1=>ju R1 v λk C ζ=>grd (decide (C=872)) (bnd (kt (λR=>lN sp k R) 100000 R1) λys R2=>fO (mkL ys) R2)
 | .deque=>some (.obj R.length,R++[.deq])
 | .new C f=>bnd (F.evs cx args σ R) λas R1=>bnd (F.evk cx kws σ R1) λks R2=>bnd (sp f (.obj R2.length::as) ks (R2++[.inst C []])) λy R3=>match y with
   | .none=>some (.obj R2.length,R3)
   | _=>none
 | .fn f=>nilL kws none (grd (Oh f && !args.isEmpty) (bnd (F.evs cx args σ R) λas R1=>sp f as [] R1))
 | .bi f=>bnd (F.evs cx args σ R) λas R1=>fO (Ok R1 f as) R1
 | .bad=>none
noncomputable def U5(op:BoolOp):Bool:=op == .Or
noncomputable def Pz(cx:Cx)(op:BoolOp)(es:List Expr)(σ:bq)(R:List aO):Option (PV × List aO):=grd (U5 op) (twoL es none λa b=>bnd (F.ev cx a σ R) λv R1=>optO (qc R1 v) none λc=>bif c then some (v,R1)else F.ev cx b σ R1)
noncomputable def OA(cx:Cx)(x:PV)(i:Expr)(v:EV)(σ:bq)(R1:List aO):Option (PV × List aO):=match v with
 | .slice a b c=>optO c (bnd (F.evo cx a σ R1) λi R2=>bnd (F.evo cx b σ R2) λj R3=>fO (Gu x i j) R3) λζ=>none
 | _=>bnd (F.ev cx i σ R1) λu R2=>intP u none λk=>fO (wV R2 x k) R2
noncomputable def Py(cx:Cx)(x:PV)(i:Expr)(σ:bq)(R1:List aO):Option (PV × List aO):=OA F cx x i (jh i) σ R1
noncomputable def ny(cx:Cx)(t elt:Expr)(ifs:List Expr)(σ:bq)(R:List aO)(x:PV):Option (Option PV × List aO):=optO (iC cx t x σ) none λσ'=>
 bnd (F.tvs cx .And ifs σ' R) λc R2=>bif c then bnd (F.ev cx elt σ' R2) λv R3=>some (some v,R3)else some (none,R2)
noncomputable def LL(cx:Cx)(elt:Expr)(gs:List fK)(sc:Scope)(σ:bq)(R:List aO):Option (List PV × List aO):=oneL gs none λg=>
 grd (decide (g.is_async=0)&&(cL g.target&&(!iH cx g.iter&&qI cx σ sc))) (bnd (F.itv cx g.iter σ R) λl R1=>mj (ny F ⟨sc.names,cx.base⟩ g.target elt g.ifs (eT sc.names σ)) l R1)
noncomputable def P9(op:mX):Bool:=op == .Is
noncomputable def xV(e:Expr):Bool:=yj (jh e) false λc=>match c with
 | .none=>true
 | _=>false
noncomputable def VH(cx:Cx)(l:Expr)(ops:List mX)(rs:List Expr)(σ:bq)(R:List aO):Option (Bool × List aO):=oneL ops none λop=>oneL rs none λr=>
 bif uS cx l then grd (P9 op&&xV r) (CV l none λζ e=>bnd (F.ev cx e σ R) λv R1=>strP v none λs=>some (!s.any cW,R1))
 else bnd (F.ev cx l σ R) λa R1=>bnd (F.ev cx r σ R1) λb R2=>fO (td R2 op a b) R2
noncomputable def wu(cx:Cx)(e:Expr)(σ:bq)(R:List aO):Option (Bool × List aO):=bnd (F.ev cx e σ R) λv R1=>fO (qc R1 v) R1
noncomputable def Vp(cx:Cx)(v:EV)(e:Expr)(σ:bq)(R:List aO):Option (Bool × List aO):=match v with
 | .un op x=>(match op with
  | .Not=>bnd (F.tv cx x σ R) λc R1=>some (!c,R1)
  | _=>none)
 | .boolop op es=>F.tvs cx op es σ R
 | .cmp l ops rs=>F.cp cx l ops rs σ R
 | .name _=>wu F cx e σ R
 | .const _=>wu F cx e σ R
 | .call _ _ _ _=>wu F cx e σ R
 | .attr _ _ _=>wu F cx e σ R
 | _=>none
noncomputable def UW(cx:Cx)(e:Expr)(σ:bq)(R:List aO):Option (Bool × List aO):=Vp F cx (jh e) e σ R
noncomputable def M8(cx:Cx)(op:BoolOp)(es:List Expr)(σ:bq)(R:List aO):Option (Bool × List aO):=match es with
 | []=>some (op == .And,R)
 | e::r=>bnd (F.tv cx e σ R) λb R1=>bif b==(op == .Or)then some (b,R1)else F.tvs cx op r σ R1
noncomputable def PB(cx:Cx)(es:List Expr)(σ:bq)(R:List aO):Option (List PV × List aO):=match es with
 | []=>some ([],R)
 | e::r=>bnd (F.ev cx e σ R) λv R1=>bnd (F.evs cx r σ R1) λvs R2=>some (v::vs,R2)
noncomputable def PE(cx:Cx)(ks:List cS)(σ:bq)(R:List aO):Option (List (Str × PV) × List aO):=match ks with
 | []=>some ([],R)
 | k::r=>optO k.arg none λx=>bnd (F.ev cx k.value σ R) λv R1=>bnd (F.evk cx r σ R1) λvs R2=>some ((x,v)::vs,R2)
noncomputable def PC(cx:Cx)(e:Option Expr)(σ:bq)(R:List aO):Option (Option Int × List aO):=optO e (some (none,R)) λe=>bnd (F.ev cx e σ R) λv R1=>intP v none λi=>some (some i,R1)
noncomputable def seqP{γ:Type}(v:PV)(d:γ)(k:List PV->γ):γ:=match v with
 | .list l=>k l
 | .tup l=>k l
 | _=>d
noncomputable def Ku(cx:Cx)(k:IK)(e:Expr)(σ:bq)(R:List aO):Option (List PV × List aO):=match k with
 | .range a=>bnd (F.ev cx a σ R) λv R1=>intP v none λi=>grd (decide (-1000000<=i)&&decide (i<=1000000)) (some (iG i,R1))
 | .enum a=>bnd (F.ev cx a σ R) λv R1=>listP v none λl=>some (mC 0 l,R1)
 | .plain=>bnd (F.ev cx e σ R) λv R1=>seqP v none λl=>some (l,R1)
 | .bad=>none
noncomputable def M9(cx:Cx)(e:Expr)(σ:bq)(R:List aO):Option (List PV × List aO):=Ku F cx (ik cx e) e σ R
noncomputable def PD(cx:Cx)(e:Expr)(σ:bq)(R:List aO):Option (PV × List aO):=optO (rV e) (F.ev cx e σ R) λes=>bnd (F.evms cx es σ R) λvs R1=>grd (decide (vs.length<=SZ)) (some (.obj R1.length,R1++[.lst vs]))
noncomputable def LK(cx:Cx)(es:List Expr)(σ:bq)(R:List aO):Option (List PV × List aO):=match es with
 | []=>some ([],R)
 | e::r=>bnd (F.evm cx e σ R) λv R1=>bnd (F.evms cx r σ R1) λvs R2=>some (v::vs,R2)
noncomputable def qP:PV->Bool
 | .none=>true
 | .str _=>true
 | _=>false
noncomputable def wZ(cx:Cx)(t:Expr)(b:List ip)(σ:bq)(R:List aO)(x:PV):Option FS:=optO (iC cx t x σ) none λσ'=>F.exs cx b σ' R
noncomputable def VF(cx:Cx)(s:ip)(σ:bq)(R:List aO):Option FS:=match s with
 | .Expr e _=>bnd (F.ev cx e σ R) λv R1=>grd (qP v) (some (.next,σ,R1))
 | .Assign ts e _=>oneL ts none λt=>F.asg cx t e σ R
 | .AugAssign t op e _=>F.aug cx t op e σ R
 | .If t a b _=>bnd (F.tv cx t σ R) λc R1=>F.exs cx (bif c then a else b) σ R1
 | .While t b o _=>nilL o none (A6 (F.tv cx t) (F.exs cx b) 100000 σ R)
 | .For t it b o _=>nilL o none (grd (!(iH cx it && !fB t)) (bnd (F.forIt cx it σ R) λl y=>uY (wZ F cx t b) l y.1 y.2))
 | .Try b hs o f _=>nilL o none (nilL f none (match hs with
  | []=>none
  | _::_=>F.exs cx b σ R))
 | .Return e _=>optO e none λe=>bnd (F.ev cx e (uX (below cx.base R.length) σ R).1 (uX (below cx.base R.length) σ R).2) λv R1=>some (.ret v,(uX (below cx.base R.length) σ R).1,R1)
 | .Break _=>some (.brk,σ,R)
 | .Continue _=>some (.cont,σ,R)
 | .Pass _=>some (.next,σ,R)
 | _=>none
noncomputable def G8(cx:Cx)(it:Expr)(σ:bq)(R:List aO):Option (List PV × bq × List aO):=optO (qR R σ it) (bnd (F.itv cx it σ R) λl R1=>some (l,σ,R1)) λy=>some (y.2,rb y.1 σ R)
noncomputable def D9(cx:Cx)(σ:bq)(x:Str)(v:PV)(R:List aO):Option FS:=optO (qG cx σ x v) none λσ'=>some (.next,σ',R)
noncomputable def Fu(cx:Cx)(k:AK)(t e:Expr)(σ:bq)(R:List aO):Option FS:=match k with
 | .disp x=>bnd (F.evm cx e σ R) λv R1=>D9 cx σ x v R1
 | .one x elt gs sc=>bnd (F.cmpv cx elt gs sc σ R) λys R2=>(match ys with
  | []=>none
  | y::r=>boolP y none λb=>grd (r.all (VJ b)) (D9 cx σ x (.bool b) R2))
 | .attr o a=>bnd (F.ev cx e σ R) λv R1=>bnd (F.ev cx o σ R1) λov R2=>ju R2 ov λk C fs=>grd (ta C a&&decide (fs.length<900)) (some (.next,σ,R2.set k (.inst C (iF fs a v))))
 | .plain=>grd (!(fB t&&fB e)) (bnd (F.ev cx e σ R) λv R1=>optO (iC cx t v σ) none λσ'=>some (.next,σ',R1))
noncomputable def Na(cx:Cx)(t e:Expr)(σ:bq)(R:List aO):Option FS:=Fu F cx (ak t e) t e σ R
noncomputable def Qu(cx:Cx)(t:EV)(op:cy)(e:Expr)(σ:bq)(R:List aO):Option FS:=match t with
 | .name x=>optO (σ.lookup x) none λa=>bnd (F.ev cx e σ R) λb R1=>optO (rt op a b) none λv=>D9 cx σ x v R1
 | .attr o a _=>bnd (F.ev cx o σ R) λov R1=>ju R1 ov λk C fs=>grd (ta C a) (optO (fs.lookup a) none λx=>bnd (F.ev cx e σ R1) λb R2=>ju R2 (.obj k) λζ D fs'=>
   grd (decide (D=C)&&decide (fs'.length<900)) (optO (rt op x b) none λv=>some (.next,σ,R2.set k (.inst C (iF fs' a v)))))
 | _=>none
noncomputable def PF(cx:Cx)(t:Expr)(op:cy)(e:Expr)(σ:bq)(R:List aO):Option FS:=Qu F cx (jh t) op e σ R
noncomputable def PA(cx:Cx)(ss:List ip)(σ:bq)(R:List aO):Option FS:=match ss with
 | []=>some (.next,σ,R)
 | s::r=>bnd (F.ex cx s σ R) λf y=>uz f y (F.exs cx r y.1 y.2)
noncomputable def WW:Aw:=⟨VG sp F,lh sp F,Pz F,Py F,LL F,VH F,UW F,M8 F,PB F,PE F,PC F,M9 F,PD F,LK F,VF F,G8 F,Na F,PF F,PA F⟩
noncomputable def W2:Aw:=⟨λζ ζ ζ ζ=>none,λζ ζ ζ ζ ζ ζ=>none,λζ ζ ζ ζ ζ=>none,λζ ζ ζ ζ ζ=>none,λζ ζ ζ ζ ζ ζ=>none,λζ ζ ζ ζ ζ ζ=>none,λζ ζ ζ ζ=>none,λζ ζ ζ ζ ζ=>none,λζ ζ ζ ζ=>none,λζ ζ ζ ζ=>none,λζ ζ ζ ζ=>none,λζ ζ ζ ζ=>none,λζ ζ ζ ζ=>none,λζ ζ ζ ζ=>none,
 λζ ζ ζ ζ=>none,λζ ζ ζ ζ=>none,λζ ζ ζ ζ ζ=>none,λζ ζ ζ ζ ζ ζ=>none,λζ ζ ζ ζ=>none⟩
noncomputable def kI(n:Nat):Aw:=Jd W2 (λζ F=>WW sp F) n
noncomputable def ev(n:Nat):=(kI sp n).ev
noncomputable def callv(n:Nat):=(kI sp n).callv
noncomputable def orv(n:Nat):=(kI sp n).orv
noncomputable def sbv(n:Nat):=(kI sp n).sbv
noncomputable def cmpv(n:Nat):=(kI sp n).cmpv
noncomputable def cp(n:Nat):=(kI sp n).cp
noncomputable def tv(n:Nat):=(kI sp n).tv
noncomputable def tvs(n:Nat):=(kI sp n).tvs
noncomputable def evs(n:Nat):=(kI sp n).evs
noncomputable def evk(n:Nat):=(kI sp n).evk
noncomputable def evo(n:Nat):=(kI sp n).evo
noncomputable def itv(n:Nat):=(kI sp n).itv
noncomputable def evm(n:Nat):=(kI sp n).evm
noncomputable def evms(n:Nat):=(kI sp n).evms
noncomputable def ex(n:Nat):=(kI sp n).ex
noncomputable def forIt(n:Nat):=(kI sp n).forIt
noncomputable def asg(n:Nat):=(kI sp n).asg
noncomputable def aug(n:Nat):=(kI sp n).aug
noncomputable def exs(n:Nat):=(kI sp n).exs
noncomputable def L1(f:Fl)(R:List aO):Option (PV × List aO):=match f with
 | .ret v=>some (v,R)
 | .next=>some (.none,R)
 | _=>none
noncomputable def nF(p:eC)(n:Nat):Spec:=λf pos kw R=>optO (E6 p f) none λfi=>optO (vv fi.fd.params fi.dflt pos kw) none λσ=>bnd (exs sp n ⟨fi.fd.scope.names,R.length⟩ fi.fd.body σ R) λf y=>L1 f y.2
end
end Mine
end
section
namespace Mine
noncomputable section
mutual
noncomputable def noObj:PV->Bool
 | .list l=>bz l
 | .tup l=>bz l
 | .obj _=>false
 | _=>true
noncomputable def bz:List PV->Bool
 | []=>true
 | x::r=>noObj x&&bz r
end
noncomputable def xL:aO->Bool
 | .inst _ _=>false
 | .tab=>false
 | _=>true
noncomputable def wE:List aO->Bool
 | .tab::r=>r.all xL
 | _=>false
noncomputable def Np(sp:Spec):Spec:=λf pos kw R=>
 if bz pos&&(kw.isEmpty&&wE R)then(match sp f pos kw [.tab]with
  | some (v,R')=>if noObj v&&lP R' then some (v,R)else none
  | none=>none)else sp f pos kw R
noncomputable def fG:Nat->Spec
 | 0=>λζ ζ ζ ζ=>none
 | k+1=>Np (nF (fG k) pw 400)
end
end Mine
end
section
namespace Mine
noncomputable def az{α:Type}(P:α->Prop)(o:Option α):Prop:=∀a,o=some a->P a
theorem uH{α β:Type} [BEq α] [LawfulBEq α]{l:List (α × β)}{a:α}{b:β}(h:l.lookup a=some b):(a,b)∈l:=by
 induction l with
 | nil=>exact(nomatch h)
 | cons x r ih=>
  obtain⟨y,c⟩:=x
  rw [a9]at h
  cases e:a==y with
  | true=>rw [e]at h;exact aJ e▸aV h▸aj
  | false=>rw [e]at h;exact am _ (ih h)
theorem gC{α:Type}{a:α}(h:none=some a):False:=nomatch h
section
variable {α β γ δ:Type} {P P':α->Prop} {Q:β->Prop}
theorem az.none:az P none:=λζ h=>nomatch h
theorem az.some{a:α}(h:P a):az P (some a):=λζ e=>aV e▸h
theorem az.mono{o:Option α}(h:az P o)(k:∀a,P a->P' a):az P' o:=λa e=>k a (h a e)
theorem az.bnd{P:α × β->Prop}{Q:γ->Prop}{x:Option (α × β)}{k:α->β->Option γ}(h:az P x)(hk:∀a b,P (a,b)->az Q (k a b)):az Q (bnd x k):=match x,h with
 | Option.none,_=>az.none
 | Option.some (a,b),h=>hk a b (h _ rfl)
theorem az.bnd'{Q:γ->Prop}{x:Option (α × β)}{k:α->β->Option γ}(hk:∀a b,x=Option.some (a,b)->az Q (k a b)):az Q (Mine.bnd x k):=az.bnd (P:=λy=>x=Option.some y) (λζ e=>e) hk
theorem az.grd{c:Bool}{x:Option α}(h:c=true->az P x):az P (grd c x):=match c,h with
 | true,h=>h rfl
 | false,_=>az.none
theorem az.optO{o:Option β}{d:Option α}{k:β->Option α}(hd:o=Option.none->az P d)(hk:∀b,o=Option.some b->az P (k b)):az P (optO o d k):=match o,hd,hk with
 | Option.none,hd,_=>hd rfl
 | Option.some b,_,hk=>hk b rfl
theorem az.opt{o:Option β}{k:β->Option α}(hk:∀b,o=Option.some b->az P (k b)):az P (Mine.optO o Option.none k):=az.optO (λζ=>az.none) hk
theorem az.ret{P:α × List aO->Prop}{o:Option α}{R:List aO}(hk:∀b,o=Option.some b->P (b,R)):az P (fO o R):=az.opt λb e=>az.some (hk b e)
theorem az.bif{c:Bool}{x y:Option α}(h1:c=true->az P x)(h2:c=false->az P y):az P (bif c then x else y):=match c,h1,h2 with
 | true,h,_=>h rfl
 | false,_,h=>h rfl
theorem ky{C:γ->Prop}{c:Bool}{x y:γ}(h1:c=true->C x)(h2:c=false->C y):C (bif c then x else y):=match c,h1,h2 with
 | true,h,_=>h rfl
 | false,_,h=>h rfl
theorem tG{C:Option β->γ->Prop}{d:γ}{k:β->γ}(o:Option β)(hd:C none d)(hk:∀b,C (some b) (k b)):C o (optO o d k):=match o with
 | none=>hd
 | some b=>hk b
theorem gW{C:List β->γ->Prop}{d k:γ}(l:List β)(hd:∀l,C l d)(hk:C [] k):C l (nilL l d k):=match l with
 | []=>hk
 | _::_=>hd _
theorem fg{C:List β->γ->Prop}{d:γ}{k:β->γ}(l:List β)(hd:∀l,C l d)(hk:∀a,C [a] (k a)):C l (oneL l d k):=match l with
 | []=>hd _
 | [a]=>hk a
 | _::_::_=>hd _
theorem lJ{C:List β->γ->Prop}{d:γ}{k:β->β->γ}(l:List β)(hd:∀l,C l d)(hk:∀a b,C [a,b] (k a b)):C l (twoL l d k):=match l with
 | []=>hd _
 | [_]=>hd _
 | [a,b]=>hk a b
 | _::_::_::_=>hd _
theorem fH{C:Expr->EV->Prop}(e:Expr)(h0:∀e,C e .oth)(h1:∀x p,C (.Name x p) (.name x))(h2:∀c k p,C (.Constant c k p) (.const c))(h3:∀f as ks p,C (.Call f as ks p) (.call f as ks p))(h4:∀o a p,C (.Attribute o a p) (.attr o a p))(h5:∀ps b sc p,C (.Lambda ps b sc p) (.lam ps b sc))
  (h6:∀es k p,C (.Tuple es k p) (.tup es))(h7:∀es p,C (.List es p) (.list es))(h8:∀elt gs sc p,C (.SetComp elt gs sc p) (.setc elt gs sc))(h9:∀elt gs sc p,C (.ListComp elt gs sc p) (.listc elt gs sc))(h10:∀l op r p,C (.BinOp l op r p) (.bin l op r))(h11:∀op x p,C (.UnaryOp op x p) (.un op x))
  (h12:∀t a b p,C (.IfExp t a b p) (.ife t a b))(h13:∀op es p,C (.BoolOp op es p) (.boolop op es))(h14:∀l ops rs p,C (.Compare l ops rs p) (.cmp l ops rs))(h15:∀v i p,C (.Subscript v i p) (.sub v i))(h16:∀a b c p,C (.Slice a b c p) (.slice a b c)):C e (jh e):=by
 cases e<;>first | apply h1 | apply h2 | apply h3 | apply h4 | apply h5 | apply h6 | apply h7 | apply h8 | apply h9 | apply h10 | apply h11 | apply h12 | apply h13 | apply h14 | apply h15 | apply h16 | apply h0
theorem gJ{C:Expr->γ->Prop}{d:γ}{k:Str->γ}(e:Expr)(hd:∀e,C e d)(hk:∀x p,C (.Name x p) (k x)):C e (nameE e d k):=
 fH (C:=λe v=>C e (LJ v d k)) e hd hk (λζ ζ ζ=>hd _) (λζ ζ ζ ζ=>hd _) (λζ ζ ζ=>hd _) (λζ ζ ζ ζ=>hd _) (λζ ζ ζ=>hd _) (λζ ζ=>hd _) (λζ ζ ζ ζ=>hd _) (λζ ζ ζ ζ=>hd _) (λζ ζ ζ ζ=>hd _) (λζ ζ ζ=>hd _) (λζ ζ ζ ζ=>hd _) (λζ ζ ζ=>hd _) (λζ ζ ζ ζ=>hd _) (λζ ζ ζ=>hd _) (λζ ζ ζ ζ=>hd _)
theorem ro{C:Expr->γ->Prop}{d:γ}{k:Expr->List Expr->List cS->dN->γ}(e:Expr)(hd:∀e,C e d)(hk:∀f as ks p,C (.Call f as ks p) (k f as ks p)):C e (vt e d k):=
 fH (C:=λe v=>C e (L8 v d k)) e hd (λζ ζ=>hd _) (λζ ζ ζ=>hd _) hk (λζ ζ ζ=>hd _) (λζ ζ ζ ζ=>hd _) (λζ ζ ζ=>hd _) (λζ ζ=>hd _) (λζ ζ ζ ζ=>hd _) (λζ ζ ζ ζ=>hd _) (λζ ζ ζ ζ=>hd _) (λζ ζ ζ=>hd _) (λζ ζ ζ ζ=>hd _) (λζ ζ ζ=>hd _) (λζ ζ ζ ζ=>hd _) (λζ ζ ζ=>hd _) (λζ ζ ζ ζ=>hd _)
theorem Ao{C:Expr->γ->Prop}{d:γ}{k:Expr->Str->dN->γ}(e:Expr)(hd:∀e,C e d)(hk:∀o a p,C (.Attribute o a p) (k o a p)):C e (IJ e d k):=
 fH (C:=λe v=>C e (Mb v d k)) e hd (λζ ζ=>hd _) (λζ ζ ζ=>hd _) (λζ ζ ζ ζ=>hd _) hk (λζ ζ ζ ζ=>hd _) (λζ ζ ζ=>hd _) (λζ ζ=>hd _) (λζ ζ ζ ζ=>hd _) (λζ ζ ζ ζ=>hd _) (λζ ζ ζ ζ=>hd _) (λζ ζ ζ=>hd _) (λζ ζ ζ ζ=>hd _) (λζ ζ ζ=>hd _) (λζ ζ ζ ζ=>hd _) (λζ ζ ζ=>hd _) (λζ ζ ζ ζ=>hd _)
theorem Kp{C:Expr->γ->Prop}{d:γ}{k:iA->Expr->Scope->γ}(e:Expr)(hd:∀e,C e d)(hk:∀ps b sc p,C (.Lambda ps b sc p) (k ps b sc)):C e (PR e d k):=
 fH (C:=λe v=>C e (PQ v d k)) e hd (λζ ζ=>hd _) (λζ ζ ζ=>hd _) (λζ ζ ζ ζ=>hd _) (λζ ζ ζ=>hd _) hk (λζ ζ ζ=>hd _) (λζ ζ=>hd _) (λζ ζ ζ ζ=>hd _) (λζ ζ ζ ζ=>hd _) (λζ ζ ζ ζ=>hd _) (λζ ζ ζ=>hd _) (λζ ζ ζ ζ=>hd _) (λζ ζ ζ=>hd _) (λζ ζ ζ ζ=>hd _) (λζ ζ ζ=>hd _) (λζ ζ ζ ζ=>hd _)
theorem w8{C:Expr->γ->Prop}{d:γ}{k:Const->γ}(e:Expr)(hd:∀e,C e d)(hk:∀c n p,C (.Constant c n p) (k c)):C e (yj (jh e) d k):=
 fH (C:=λe v=>C e (yj v d k)) e hd (λζ ζ=>hd _) hk (λζ ζ ζ ζ=>hd _) (λζ ζ ζ=>hd _) (λζ ζ ζ ζ=>hd _) (λζ ζ ζ=>hd _) (λζ ζ=>hd _) (λζ ζ ζ ζ=>hd _) (λζ ζ ζ ζ=>hd _) (λζ ζ ζ ζ=>hd _) (λζ ζ ζ=>hd _) (λζ ζ ζ ζ=>hd _) (λζ ζ ζ=>hd _) (λζ ζ ζ ζ=>hd _) (λζ ζ ζ=>hd _) (λζ ζ ζ ζ=>hd _)
theorem tD{C:Expr->γ->Prop}{d:γ}{k:Str->γ}(e:Expr)(hd:∀e,C e d)(hk:∀x n p,C (.Constant (.str x) n p) (k x)):C e (Go e d k):=
 w8 e hd λc n p=>by cases c<;>first | exact hk _ _ _ | exact hd _
theorem lQ{C:PV->γ->Prop}{d:γ}{k:Int->γ}(v:PV)(hd:∀v,C v d)(hk:∀a,C (.int a) (k a)):C v (intP v d k):=by cases v<;>first | exact hk _ | exact hd _
theorem m8{C:PV->γ->Prop}{d:γ}{k:LS->γ}(v:PV)(hd:∀v,C v d)(hk:∀a,C (.str a) (k a)):C v (strP v d k):=by cases v<;>first | exact hk _ | exact hd _
theorem qV{C:PV->γ->Prop}{d:γ}{k:List PV->γ}(v:PV)(hd:∀v,C v d)(hk:∀a,C (.list a) (k a)):C v (listP v d k):=by cases v<;>first | exact hk _ | exact hd _
theorem qB{C:PV->γ->Prop}{d:γ}{k:List PV->γ}(v:PV)(hd:∀v,C v d)(hk:∀a,C (.tup a) (k a)):C v (tupP v d k):=by cases v<;>first | exact hk _ | exact hd _
theorem vu{C:PV->γ->Prop}{d:γ}{k:Bool->γ}(v:PV)(hd:∀v,C v d)(hk:∀a,C (.bool a) (k a)):C v (boolP v d k):=by cases v<;>first | exact hk _ | exact hd _
theorem Kd{C:PV->γ->Prop}{d:γ}{k:Nat->γ}(v:PV)(hd:∀v,C v d)(hk:∀a,C (.obj a) (k a)):C v (OJ v d k):=by cases v<;>first | exact hk _ | exact hd _
theorem CZ{C:PV->γ->Prop}{d:γ}{k:List PV->γ}(v:PV)(hd:∀v,C v d)(hk:∀a,C (.list a) (k a))(hk':∀a,C (.tup a) (k a)):C v (seqP v d k):=by cases v<;>first | exact hk _ | exact hk' _ | exact hd _
theorem lH{C:PV->γ->Prop}{d:γ}{k:String->γ}(v:PV)(hd:∀v,C v d)(hk:∀T,C (.val (.type T)) (k T)):C v (typV v d k):=by
 cases v with
 | val u=>cases u<;>first | exact hk _ | exact hd _
 | _=>exact hd _
theorem J6{C:af->γ->Prop}{d:γ}{k:aB->γ}(v:af)(hd:∀v,C v d)(hk:∀T,C (.ref T) (k T)):C v (OB v d k):=by cases v<;>first | exact hk _ | exact hd _
section
variable (D:PV->Prop)
theorem Kz{v:PV}{k:Int->Option α}(h:D v)(hk:∀i,D (.int i)->az P (k i)):az P (intP v none k):=lQ (C:=λv y=>D v->az P y) v (λζ ζ=>az.none) hk h
theorem Ox{v:PV}{k:LS->Option α}(h:D v)(hk:∀i,D (.str i)->az P (k i)):az P (strP v none k):=m8 (C:=λv y=>D v->az P y) v (λζ ζ=>az.none) hk h
theorem Dc{v:PV}{k:List PV->Option α}(h:D v)(hk:∀i,D (.list i)->az P (k i)):az P (listP v none k):=qV (C:=λv y=>D v->az P y) v (λζ ζ=>az.none) hk h
theorem V2{v:PV}{k:List PV->Option α}(h:D v)(hk:∀i,D (.tup i)->az P (k i)):az P (tupP v none k):=qB (C:=λv y=>D v->az P y) v (λζ ζ=>az.none) hk h
theorem Qp{v:PV}{k:Bool->Option α}(h:D v)(hk:∀i,D (.bool i)->az P (k i)):az P (boolP v none k):=vu (C:=λv y=>D v->az P y) v (λζ ζ=>az.none) hk h
theorem V0{v:PV}{k:String->Option α}(h:D v)(hk:∀T,D (.val (.type T))->az P (k T)):az P (typV v none k):=lH (C:=λv y=>D v->az P y) v (λζ ζ=>az.none) hk h
theorem QY{v:PV}{k:List PV->Option α}(h:D v)(hk:∀i,D (.list i)->az P (k i))(hk':∀i,D (.tup i)->az P (k i)):az P (seqP v none k):=CZ (C:=λv y=>D v->az P y) v (λζ ζ=>az.none) hk hk' h
set_option tactic.hygienic true in
theorem zS{R:List aO}{v:PV}{k:Nat->aB->List (Str × PV)->Option α}(h:D v)(hk:∀j C fs,D (.obj j)->R[j]? = some (.inst C fs)->az P (k j C fs)):az P (ju R v k):=by
 cases v
 case obj j=>exact az.opt λr hr=>by cases r<;>first | exact hk _ _ _ h hr | exact az.none
 all_goals exact az.none
end
section
variable (D:List β->Prop)
theorem OH{l:List β}{k:β->Option α}(h:D l)(hk:∀a,D [a]->az P (k a)):az P (oneL l none k):=fg (C:=λl y=>D l->az P y) l (λζ ζ=>az.none) hk h
theorem V1{l:List β}{k:β->β->Option α}(h:D l)(hk:∀a b,D [a,b]->az P (k a b)):az P (twoL l none k):=lJ (C:=λl y=>D l->az P y) l (λζ ζ=>az.none) hk h
theorem UV{l:List β}{k:Option α}(h:D l)(hk:D []->az P k):az P (nilL l none k):=gW (C:=λl y=>D l->az P y) l (λζ ζ=>az.none) hk h
end
theorem az.lst{R:List aO}{j:Nat}{k:List PV->Option α}(h:∀l,R[j]? = Option.some (.lst l)->az P (k l)):az P (C3 R j k):=az.opt λr hr=>by cases r<;>first | exact h _ hr | exact az.none
theorem az.nameE{C:Expr->α->Prop}{e:Expr}{k:Str->Option α}(h:∀x p,az (C (.Name x p)) (k x)):az (C e) (nameE e Option.none k):=gJ (C:=λe y=>az (C e) y) e (λζ=>az.none) h
theorem az.intP{C:PV->α->Prop}{v:PV}{k:Int->Option α}(h:∀x,az (C (.int x)) (k x)):az (C v) (intP v Option.none k):=lQ (C:=λe y=>az (C e) y) v (λζ=>az.none) h
theorem az.strP{C:PV->α->Prop}{v:PV}{k:LS->Option α}(h:∀x,az (C (.str x)) (k x)):az (C v) (strP v Option.none k):=m8 (C:=λe y=>az (C e) y) v (λζ=>az.none) h
theorem az.listP{C:PV->α->Prop}{v:PV}{k:List PV->Option α}(h:∀x,az (C (.list x)) (k x)):az (C v) (listP v Option.none k):=qV (C:=λe y=>az (C e) y) v (λζ=>az.none) h
theorem az.tupP{C:PV->α->Prop}{v:PV}{k:List PV->Option α}(h:∀x,az (C (.tup x)) (k x)):az (C v) (tupP v Option.none k):=qB (C:=λe y=>az (C e) y) v (λζ=>az.none) h
theorem az.boolP{C:PV->α->Prop}{v:PV}{k:Bool->Option α}(h:∀x,az (C (.bool x)) (k x)):az (C v) (boolP v Option.none k):=vu (C:=λe y=>az (C e) y) v (λζ=>az.none) h
theorem az.typV{C:PV->α->Prop}{v:PV}{k:String->Option α}(h:∀x,az (C (.val (.type x))) (k x)):az (C v) (typV v Option.none k):=lH (C:=λe y=>az (C e) y) v (λζ=>az.none) h
theorem az.seqP{C:PV->α->Prop}{v:PV}{k:List PV->Option α}(h:∀x,az (C (.list x)) (k x))(h':∀x,az (C (.tup x)) (k x)):az (C v) (seqP v Option.none k):=CZ (C:=λe y=>az (C e) y) v (λζ=>az.none) h h'
theorem az.oneL{C:List β->α->Prop}{l:List β}{k:β->Option α}(h:∀a,az (C [a]) (k a)):az (C l) (oneL l Option.none k):=fg (C:=λe y=>az (C e) y) l (λζ=>az.none) h
theorem az.twoL{C:List β->α->Prop}{l:List β}{k:β->β->Option α}(h:∀a b,az (C [a,b]) (k a b)):az (C l) (twoL l Option.none k):=lJ (C:=λe y=>az (C e) y) l (λζ=>az.none) h
theorem az.nilL{C:List β->α->Prop}{l:List β}{k:Option α}(h:az (C []) k):az (C l) (nilL l Option.none k):=gW (C:=λe y=>az (C e) y) l (λζ=>az.none) h
theorem gF{x:Option (α × β)}{k:α->β->Option γ}{z:γ}(h:bnd x k=Option.some z):∃a b,x=Option.some (a,b)/\k a b=Option.some z:=match x,h with
 | Option.some (a,b),h=>⟨a,b,rfl,h⟩
theorem ig{o:Option α}{k:α->Option γ}{z:γ}(h:Mine.optO o Option.none k=Option.some z):∃a,o=Option.some a/\k a=Option.some z:=match o,h with
 | Option.some a,h=>⟨a,rfl,h⟩
theorem nl{c:Bool}{o:Option γ}{z:γ}(h:Mine.grd c o=Option.some z):c=true/\o=Option.some z:=match c,h with
 | true,h=>⟨rfl,h⟩
theorem zR{R:List aO}{j:Nat}{k:Nat->aB->List (Str × PV)->Option γ}{z:γ}(h:ju R (.obj j) k=Option.some z):∃C fs,R[j]? = Option.some (.inst C fs)/\k j C fs=Option.some z:=by
 obtain⟨r,hr,h⟩:=ig h
 cases r with
 | inst C fs=>exact⟨C,fs,hr,h⟩
 | _=>cases h
theorem eA{a b:Bool}(h:(a&&b)=true):a=true/\b=true:=aM.mp h
end
end Mine
end
section
namespace Mine
noncomputable section
noncomputable abbrev dC:=aB->Option jf
noncomputable abbrev dH:=List (aB × aB)
noncomputable def own(ρ:dH)(a:aB):Prop:=∃p∈ρ,a=p.1\/a=p.2
noncomputable abbrev cF(arr:Array af)(n:Nat):jf:={ cls:=.type "list",dict:=none,data:=.seq arr n,slots := #[] }
noncomputable abbrev mw(arr:Array af)(n:Nat):jf:={ cls:=.type "tuple",dict:=none,data:=.seq arr n,slots := #[] }
mutual
noncomputable def cq(I:dC)(ρ:dH):PV->af->Prop
 | .none,v=>v = .none
 | .bool b,v=>v = .bool b
 | .int i,v=>∃t,v = .int i t
 | .str l,v=>l.length<=SZ/\ja l=true /\ ∃t,v = .str ⟨l.toArray⟩ t
 | .list l,v=>l.length<=SZ /\ ∃a xs n,v = .ref a/\I a=some (cF (bk xs) n)/\aY I ρ l xs
 | .tup l,v=>l.length<=SZ /\ ∃a xs n,v = .ref a/\I a=some (mw (bk xs) n)/\aY I ρ l xs
 | .val x,v=>v=x
 | .obj k,v=>∃p,ρ[k]? = some p/\v = .ref p.1
noncomputable def aY(I:dC)(ρ:dH):List PV->List af->Prop
 | [],vs=>vs=[]
 | p::ps,vs=>∃v r,vs=v::r/\cq I ρ p v/\aY I ρ ps r
end
noncomputable def oG(I:dC)(ρ:dH):List (Str × PV)->List kY->Prop
 | [],es=>es=[]
 | (x,p)::r,es=>∃hsh t v es',es=⟨hsh,.str x t,v⟩::es'/\cq I ρ p v/\oG I ρ r es'
noncomputable def L3(h:fv)(a:aB):Prop:=∃o,h.get? a=some o/\o.cls = .type "collections.deque"/\o.dict=none /\ ∃x y,o.data = .fields #[x,y]
noncomputable def jX:Str:="_law_met.<locals>.<lambda>"
noncomputable def Lo(I:dC)(ps:Array af):Prop:=TriplesOk ps.toList /\ ∀pos c,pq pos ps.toList=some c->∃c' o,c = .ref c'/\I c'=some o/\Ff (some o)=some jX
noncomputable def lr(I:dC)(ρ:dH)(h:fv)(p:aB × aB):aO->Prop
 | .lst l=>l.length<=SZ/\p.2=p.1 /\ ∃xs n,h.get? p.1=some (cF (bk xs) n)/\aY I ρ l xs
 | .inst C fs=>p.2≠p.1/\h.get? p.1=some (nK C p.2)/\fs.length<=900 /\ ∃es n,h.get? p.2=some (AP es n)/\oG I ρ fs es
 | .deq=>p.2=p.1/\L3 h p.1
 | .dead=>p.2=p.1 /\ ∃o,h.get? p.1=some o
 | .tab=>p.1=949/\p.2=p.1 /\ ∃ps,h.get? p.1=some (mP ps)/\Lo I ps
structure Bs where
 heap:fv
 stk:List aB
noncomputable def fL(I:dC)(ρ:dH)(a:aB):Prop:=I a≠none\/own ρ a
noncomputable def sN(h:fv)(a:aB):Prop:=∃o es ep,h.get? a=some o/\o.data = .dict es ep
noncomputable def kJ(o o':jf):Prop:=o'=o\/((∃es ep,o.data = .dict es ep) /\ ∃sl,o'={ o with slots:=sl })
theorem kJ.refl(o:jf):kJ o o:=av rfl
theorem kJ.data{o o':jf}(h:kJ o o'):o'.data=o.data:=by
 rcases h with rfl | ⟨_,sl,rfl⟩<;>rfl
theorem kJ.cls{o o':jf}(h:kJ o o'):o'.cls=o.cls:=by
 rcases h with rfl | ⟨_,sl,rfl⟩<;>rfl
theorem kJ.trans{o o' o'':jf}(h:kJ o o')(h':kJ o' o''):kJ o o'':=by
 rcases h with rfl | ⟨d,sl,rfl⟩
 ·exact h'
 ·rcases h' with rfl | ⟨_,sl',rfl⟩
  ·exact an ⟨d,sl,rfl⟩
  ·exact an ⟨d,sl',rfl⟩
theorem kJ.eq{o o':jf}(h:kJ o o')(hn:∀es ep,o.data ≠ .dict es ep):o'=o:=by
 rcases h with rfl | ⟨⟨es,ep,d⟩,_⟩
 ·rfl
 ·exact absurd d (hn es ep)
structure Gd(H0:Bs)(I:dC)(ρ:dH)(R:List aO)(h:fv):Prop where
 imm:∀a o,I a=some o->h.get? a=some o
 base:∀a o,H0.heap.get? a=some o->I a=some o
 len:ρ.length=R.length
 recs:∀(k:Nat) (p:aB × aB) (r:aO),ρ[k]? = some p->R[k]? = some r->lr I ρ h p r
 dis:∀(k:Nat) (p:aB × aB) (r:aO),ρ[k]? = some p->R[k]? = some r->r ≠ .dead->I p.1=none/\I p.2=none
 apart:∀(j k:Nat) (p q:aB × aB),ρ[j]? = some p->ρ[k]? = some q->j≠k->p.1≠q.1/\p.1≠q.2/\p.2≠q.1/\p.2≠q.2
 stk:∀a∈H0.stk,¬fL I ρ a/\sN h a
noncomputable def Qx(X:aB->Prop)(h h':fv):Prop:=∀a o,¬X a->h.get? a=some o->∃o',h'.get? a=some o'/\kJ o o'
structure a8(H0:Bs)(X:aB->Prop)(I:dC)(ρ:dH)(s:ag)(I':dC)(ρ':dH)(R':List aO)(s':ag):Prop where
 le:∀a o,I a=some o->I' a=some o
 pre:∃δ,ρ'=ρ++δ
 new:∀a,fL I' ρ' a->fL I ρ a\/s.heap.get? a=none
 keep:Qx (λa=>own ρ a\/X a) s.heap s'.heap
 alive:∀a,s.heap.get? a≠none->s'.heap.get? a≠none
 good:Gd H0 I' ρ' R' s'.heap
 os:s'.os=s.os
 gens:s'.gens=s.gens
theorem MR{ρ δ:dH}{a:aB}(h:own ρ a):own (ρ++δ) a:=by
 obtain⟨p,hp,e⟩:=h
 exact⟨p,e9 _ hp,e⟩
theorem a8.trans{H0:Bs}{X:aB->Prop}{I I' I'':dC}{ρ ρ' ρ'':dH}{R R' R'':List aO}{s s' s'':ag}(G:Gd H0 I ρ R s.heap)
  (x:a8 H0 X I ρ s I' ρ' R' s')(y:a8 H0 X I' ρ' s' I'' ρ'' R'' s''):a8 H0 X I ρ s I'' ρ'' R'' s'' where
 le:=λa o h=>y.le a o (x.le a o h)
 pre:=by
  obtain⟨d,rfl⟩:=x.pre
  obtain⟨e,rfl⟩:=y.pre
  exact⟨d++e,aQ ..⟩
 new:=λa h=>by
  rcases y.new a h with h | h
  ·exact x.new a h
  ·right
   cases e:s.heap.get? a with
   | none=>rfl
   | some o=>exact absurd h (x.alive a (by rw [e];exact λh=>nomatch h))
 keep:=λa o hn h=>by
  by_cases hi:I a=none
  ·obtain⟨o1,h1,l1⟩:=x.keep a o hn h
   refine(λ⟨o2,h2,l2⟩=>⟨o2,h2,l1.trans l2⟩) (y.keep a o1 (λhx=>?_) h1)
   rcases hx with hx | hx
   ·rcases x.new a (an hx)with (h1 | h1) | h1
    ·exact h1 hi
    ·exact hn (av h1)
    ·rw [h]at h1;cases h1
   ·exact hn (an hx)
  ·obtain⟨o1,h1⟩:=bj.mp hi
   have:=G.imm a o1 h1
   rw [h]at this
   cases this
   exact⟨o,y.good.imm a o (y.le a o (x.le a o h1)),kJ.refl o⟩
 alive:=λa h=>y.alive a (x.alive a h)
 good:=y.good
 os:=y.os.trans x.os
 gens:=y.gens.trans x.gens
mutual
theorem cq.mono{I I':dC}{ρ δ:dH}(h:∀a o,I a=some o->I' a=some o):∀(p:PV) (v:af),cq I ρ p v->cq I' (ρ++δ) p v
 | .none,v=>id
 | .bool b,v=>id
 | .int i,v=>id
 | .str s,v=>id
 | .list l,v=>by
  rintro ⟨hl,a,xs,n,rfl,ha,hr⟩
  exact⟨hl,a,xs,n,rfl,h _ _ ha,aY.mono h l xs hr⟩
 | .tup l,v=>by
  rintro ⟨hl,a,xs,n,rfl,ha,hr⟩
  exact⟨hl,a,xs,n,rfl,h _ _ ha,aY.mono h l xs hr⟩
 | .val x,v=>id
 | .obj k,v=>by
  rintro ⟨p,hp,rfl⟩
  refine⟨p,?_,rfl⟩
  rw [eF (by obtain⟨h1,_⟩:=eE.mp hp;exact h1)]
  exact hp
theorem aY.mono{I I':dC}{ρ δ:dH}(h:∀a o,I a=some o->I' a=some o):∀(ps:List PV) (vs:List af),aY I ρ ps vs->aY I' (ρ++δ) ps vs
 | [],vs=>id
 | p::ps,vs=>by
  rintro ⟨v,r,rfl,h1,h2⟩
  exact⟨v,r,rfl,cq.mono h p v h1,aY.mono h ps r h2⟩
end
theorem oG.mono{I I':dC}{ρ δ:dH}(h:∀a o,I a=some o->I' a=some o):∀(fs:List (Str × PV)) (es:List kY),oG I ρ fs es->oG I' (ρ++δ) fs es:=by
 intro fs
 induction fs with
 | nil=>
  intro es
  exact id
 | cons xq r ih=>
  obtain⟨x,p⟩:=xq
  intro es
  rintro ⟨hsh,t,v,es',rfl,h1,h2⟩
  exact⟨hsh,t,v,es',rfl,cq.mono h p v h1,ih es' h2⟩
theorem lr.mono{I I':dC}{ρ δ:dH}{hp hp':fv}{p:aB × aB}{r:aO}(h:∀a o,I a=some o->I' a=some o)
  (k:∀a o,(a=p.1\/a=p.2)->hp.get? a=some o->hp'.get? a=some o)(x:lr I ρ hp p r):lr I' (ρ++δ) hp' p r:=by
 cases r with
 | lst l=>
  obtain⟨h1,h2,xs,n,h3,h4⟩:=x
  exact⟨h1,h2,xs,n,k _ _ (av rfl) h3,aY.mono h l xs h4⟩
 | inst C fs=>
  obtain⟨h1,h2,h3,es,n,h4,h5⟩:=x
  exact⟨h1,k _ _ (av rfl) h2,h3,es,n,k _ _ (an rfl) h4,oG.mono h fs es h5⟩
 | deq=>
  obtain⟨h1,o,h2,h3⟩:=x
  exact⟨h1,o,k _ _ (av rfl) h2,h3⟩
 | dead=>
  obtain⟨h1,o,h2⟩:=x
  exact⟨h1,o,k _ _ (av rfl) h2⟩
 | tab=>
  obtain⟨h1,h2,ps,h3,h4,h5⟩:=x
  exact⟨h1,h2,ps,k _ _ (av rfl) h3,h4,λpos c e=>let ⟨c',o,a,b,d⟩:=h5 pos c e;⟨c',o,a,h _ _ b,d⟩⟩
theorem Gd.keeps{H0:Bs}{I:dC}{ρ:dH}{R:List aO}{h h':fv}(G:Gd H0 I ρ R h)(k:∀a o,fL I ρ a->h.get? a=some o->h'.get? a=some o)(ks:∀a∈H0.stk,sN h a->sN h' a):Gd H0 I ρ R h' where
 imm:=λa o e=>k a o (av (by rw [e];exact λh=>nomatch h)) (G.imm a o e)
 base:=G.base
 len:=G.len
 recs:=λi p r h1 h2=>by
  have:=lr.mono (I:=I) (I':=I) (ρ:=ρ) (δ:=[]) (hp:=h) (hp':=h') (p:=p) (r:=r) (λζ ζ e=>e)
   (λa o ha e=>k a o (an ⟨p,be h1,ha⟩) e) (G.recs i p r h1 h2)
  rwa [aP]at this
 dis:=G.dis
 apart:=G.apart
 stk:=λa ha=>⟨(G.stk a ha).1,ks a ha (G.stk a ha).2⟩
theorem a8.quietX{H0:Bs}{X:aB->Prop}{I:dC}{ρ:dH}{R:List aO}{s s':ag}(G:Gd H0 I ρ R s.heap)(hX:∀a,X a->¬fL I ρ a)
  (k:∀a o,¬X a->s.heap.get? a=some o->s'.heap.get? a=some o)(al:∀a,X a->s.heap.get? a≠none->s'.heap.get? a≠none)(os:s'.os=s.os)(gens:s'.gens=s.gens)
  (hs:∀a,X a->a∈H0.stk->sN s'.heap a):a8 H0 X I ρ s I ρ R s' where
 le:=λζ ζ e=>e
 pre:=⟨[],(aP _).symm⟩
 new:=λζ h=>av h
 keep:=λa o hn h=>⟨o,k a o (λhx=>hn (an hx)) h,kJ.refl o⟩
 alive:=λa h=>by
  by_cases hx:X a
  ·exact al a hx h
  ·obtain⟨o,e⟩:=bj.mp h
   rw [k a o hx e]
   exact λh=>nomatch h
 good:=G.keeps (λa o ho e=>k a o (λhx=>hX a hx ho) e) λa ha ⟨o,es,ep,e,d⟩=>by
  by_cases hx:X a
  ·exact hs a hx ha
  ·exact⟨o,es,ep,k a o hx e,d⟩
 os:=os
 gens:=gens
theorem a8.quiet{H0:Bs}{I:dC}{ρ:dH}{R:List aO}{s s':ag}(G:Gd H0 I ρ R s.heap)(hX:∀a,False->¬fL I ρ a)
  (k:∀a o,¬False->s.heap.get? a=some o->s'.heap.get? a=some o)(al:∀a,False->s.heap.get? a≠none->s'.heap.get? a≠none)(os:s'.os=s.os)(gens:s'.gens=s.gens):a8 H0 (λζ=>False) I ρ s I ρ R s':=a8.quietX G hX k al os gens λζ h ζ=>h.elim
theorem Gd.lt{H0:Bs}{I:dC}{ρ:dH}{R:List aO}{h:fv}(G:Gd H0 I ρ R h){a:aB}(x:fL I ρ a):h.get? a≠none:=by
 rcases x with x | ⟨p,hp,x⟩
 ·obtain⟨o,e⟩:=bj.mp x
  rw [G.imm a o e]
  exact λh=>nomatch h
 ·obtain⟨k,hk⟩:=List.mem_iff_getElem?.mp hp
  have hlt:k<R.length:=by
   rw [<-G.len]
   exact(eE.mp hk).1
  have:=G.recs k p R[k] hk (bR hlt)
  generalize R[k]=r at this
  have e:∀o,h.get? p.1=some o->h.get? p.1≠none:=λo e=>by rw [e];exact λh=>nomatch h
  cases r with
  | lst l=>
   obtain⟨h1,h2,xs,n,h3,h4⟩:=this
   rcases x with rfl | rfl
   ·exact e _ h3
   ·rw [h2];exact e _ h3
  | inst C fs=>
   obtain⟨h1,h2,h3,es,n,h4,h5⟩:=this
   rcases x with rfl | rfl
   ·exact e _ h2
   ·rw [h4];exact λh=>nomatch h
  | deq=>
   obtain⟨h1,o,h2,h3⟩:=this
   rcases x with rfl | rfl
   ·exact e _ h2
   ·rw [h1];exact e _ h2
  | dead=>
   obtain⟨h1,o,h2⟩:=this
   rcases x with rfl | rfl
   ·exact e _ h2
   ·rw [h1];exact e _ h2
  | tab=>
   obtain⟨_,h1,o,h2,_⟩:=this
   rcases x with rfl | rfl
   ·exact e _ h2
   ·rw [h1];exact e _ h2
theorem zx{ρ:dH}{q:aB × aB}{a:aB}(h:own (ρ++[q]) a):own ρ a\/a=q.1\/a=q.2:=by
 obtain⟨p,hp,e⟩:=h
 rcases dp.mp hp with hp | hp
 ·exact av ⟨p,hp,e⟩
 ·rw [aC]at hp
  subst hp
  exact an e
theorem a8.fact{H0:Bs}{X:aB->Prop}{I:dC}{ρ:dH}{R:List aO}{s s':ag}(G:Gd H0 I ρ R s.heap){a:aB}{o:jf}(hn:s.heap.get? a=none)(ha:s'.heap.get? a=some o)
  (k:∀b o,s.heap.get? b=some o->s'.heap.get? b=some o)(os:s'.os=s.os)(gens:s'.gens=s.gens) :
  a8 H0 X I ρ s (λb=>if b=a then some o else I b) ρ R s':=by
 have hI:I a=none:=by
  cases e:I a with
  | none=>rfl
  | some o'=>rw [G.imm a o' e]at hn;cases hn
 have ho:¬own ρ a:=λh=>G.lt (an h) hn
 have le:∀b o',I b=some o'->(if b=a then some o else I b)=some o':=λb o' e=>by
  by_cases hb:b=a
  ·subst hb;rw [hI]at e;cases e
  ·rw [if_neg hb];exact e
 refine⟨le,⟨[],(aP _).symm⟩,λb h=>?_,λb o' ζ e=>⟨o',k b o' e,kJ.refl o'⟩,λb h=>?_,⟨λb o' e=>?_,λb o' e=>le b o' (G.base b o' e),G.len,λi p r h1 h2=>?_,λi p r h1 h2 h3=>?_,G.apart,λb hb=>?_⟩,os,gens⟩
 ·by_cases hb:b=a
  ·subst hb;exact an hn
  ·rcases h with h | h
   ·replace h:(if b=a then some o else I b)≠none:=h
    rw [if_neg hb]at h;exact av (av h)
   ·exact av (an h)
 ·obtain⟨o',e⟩:=bj.mp h
  rw [k b o' e]
  exact λh=>nomatch h
 ·replace e:(if b=a then some o else I b)=some o':=e
  by_cases hb:b=a
  ·subst hb;rw [if_pos rfl]at e;cases e;exact ha
  ·rw [if_neg hb]at e;exact k b o' (G.imm b o' e)
 ·have:=lr.mono (I':=λb=>if b=a then some o else I b) (δ:=[]) (hp':=s'.heap) le (λb o' ζ e=>k b o' e) (G.recs i p r h1 h2)
  rwa [aP]at this
 ·have h4:=G.dis i p r h1 h2 h3
  have hm:=be h1
  have e1:p.1≠a:=λe=>ho ⟨p,hm,av e.symm⟩
  have e2:p.2≠a:=λe=>ho ⟨p,hm,an e.symm⟩
  show(if p.1=a then some o else I p.1)=none/\(if p.2=a then some o else I p.2)=none
  rw [if_neg e1,if_neg e2]
  exact h4
 ·obtain⟨g1,ob,es,ep,g2,g3⟩:=G.stk b hb
  have hba:b≠a:=λq=>by rw [q,hn]at g2;cases g2
  refine⟨λq=>g1 ?_,ob,es,ep,k b ob g2,g3⟩
  rcases q with q | q
  ·replace q:(if b=a then some o else I b)≠none:=q
   rw [if_neg hba]at q
   exact av q
  ·exact an q
theorem a8.recd{H0:Bs}{X:aB->Prop}{I:dC}{ρ:dH}{R:List aO}{s s':ag}(G:Gd H0 I ρ R s.heap){p:aB × aB}{r:aO}(hn1:s.heap.get? p.1=none)(hn2:s.heap.get? p.2=none)
  (k:∀b o,s.heap.get? b=some o->s'.heap.get? b=some o)(hr:lr I (ρ++[p]) s'.heap p r)(os:s'.os=s.os)(gens:s'.gens=s.gens) :
  a8 H0 X I ρ s I (ρ++[p]) (R++[r]) s':=by
 have hI:∀a,s.heap.get? a=none->I a=none:=λa hn=>by
  cases e:I a with
  | none=>rfl
  | some o'=>rw [G.imm a o' e]at hn;cases hn
 have ho:∀a,s.heap.get? a=none->¬own ρ a:=λa hn h=>G.lt (an h) hn
 have old:∀(i:Nat) (q:aB × aB),ρ[i]? = some q->i<ρ.length:=λi q h=>(eE.mp h).1
 have cases_:∀(i:Nat) (q:aB × aB),(ρ++[p])[i]? = some q->(ρ[i]? = some q/\i<ρ.length)\/(i=ρ.length/\q=p):=λi q h=>by
  rcases mK i ρ.length with h1 | h1 | h1
  ·rw [eF h1]at h;exact av ⟨h,h1⟩
  ·subst h1
   rw [bH (aF _),eW]at h
   exact an ⟨rfl,by simpa using h.symm⟩
  ·rw [g9 (by rw [ai,oK];exact o2 h1)]at h;cases h
 refine⟨λζ ζ e=>e,⟨[p],rfl⟩,λb h=>?_,λb o' ζ e=>⟨o',k b o' e,kJ.refl o'⟩,λb h=>?_,⟨λb o' e=>k b o' (G.imm b o' e),G.base,by rw [ai,ai,G.len];rfl,λi q r' h1 h2=>?_,λi q r' h1 h2 h3=>?_,λi j q q' h1 h2 hij=>?_,λb hb=>?_⟩,os,gens⟩
 ·rcases h with h | h
  ·exact av (av h)
  ·rcases zx h with h | h | h
   ·exact av (an h)
   ·subst h;exact an hn1
   ·subst h;exact an hn2
 ·obtain⟨o',e⟩:=bj.mp h
  rw [k b o' e]
  exact λh=>nomatch h
 ·rcases cases_ i q h1 with ⟨h3,h4⟩ | ⟨rfl,rfl⟩
  ·rw [eF (by rw [<-G.len];exact h4)]at h2
   exact lr.mono (λζ ζ e=>e) (λb o' ζ e=>k b o' e) (G.recs i q r' h3 h2)
  ·rw [G.len,bH (aF _),eW]at h2
   have:r=r':=by simpa using h2
   subst this
   exact hr
 ·rcases cases_ i q h1 with ⟨h5,h4⟩ | ⟨rfl,rfl⟩
  ·rw [eF (by rw [<-G.len];exact h4)]at h2
   exact G.dis i q r' h5 h2 h3
  ·exact⟨hI _ hn1,hI _ hn2⟩
 ·rcases cases_ i q h1 with ⟨h5,h4⟩ | ⟨rfl,rfl⟩<;>rcases cases_ j q' h2 with ⟨h6,h7⟩ | ⟨rfl,rfl⟩
  ·exact G.apart i j q q' h5 h6 hij
  ·have hm:=be h5
   exact⟨λe=>ho _ hn1 ⟨q,hm,av e.symm⟩,λe=>ho _ hn2 ⟨q,hm,av e.symm⟩,λe=>ho _ hn1 ⟨q,hm,an e.symm⟩,λe=>ho _ hn2 ⟨q,hm,an e.symm⟩⟩
  ·have hm:=be h6
   exact⟨λe=>ho _ hn1 ⟨q',hm,av e⟩,λe=>ho _ hn1 ⟨q',hm,an e⟩,λe=>ho _ hn2 ⟨q',hm,av e⟩,λe=>ho _ hn2 ⟨q',hm,an e⟩⟩
  ·exact absurd rfl hij
 ·obtain⟨g1,ob,es,ep,g2,g3⟩:=G.stk b hb
  refine⟨λq=>?_,ob,es,ep,k b ob g2,g3⟩
  rcases q with q | q
  ·exact g1 (av q)
  ·rcases zx q with q | q | q
   ·exact g1 (an q)
   ·rw [q,hn1]at g2;cases g2
   ·rw [q,hn2]at g2;cases g2
theorem oU{α:Type}{l:List α}{k i:Nat}{x y:α}(h:(l.set k x)[i]? = some y):(i=k/\y=x)\/(i≠k/\l[i]? = some y):=by
 rw [F0]at h
 by_cases e:k=i
 ·subst e
  rw [if_pos rfl]at h
  by_cases hl:k<l.length
  ·rw [if_pos hl]at h;cases h;exact av ⟨rfl,rfl⟩
  ·rw [if_neg hl]at h;cases h
 ·rw [if_neg e]at h;exact an ⟨λe'=>e e'.symm,h⟩
theorem a8.write{H0:Bs}{X:aB->Prop}{I:dC}{ρ:dH}{R:List aO}{s s':ag}(G:Gd H0 I ρ R s.heap){k:Nat}{p:aB × aB}{r r':aO}(hp:ρ[k]? = some p)(hr:R[k]? = some r)(hd:r ≠ .dead)
  (kp:∀b o,b≠p.1->b≠p.2->s.heap.get? b=some o->s'.heap.get? b=some o)(hr':lr I ρ s'.heap p r')(al:s'.heap.get? p.1≠none/\s'.heap.get? p.2≠none)(os:s'.os=s.os)(gens:s'.gens=s.gens) :
  a8 H0 X I ρ s I ρ (R.set k r') s':=by
 obtain⟨d1,d2⟩:=G.dis k p r hp hr hd
 refine⟨λζ ζ e=>e,⟨[],(aP _).symm⟩,λb h=>av h,λb o' hn e=>⟨o',kp b o' (λh=>hn (av ⟨p,be hp,av h⟩)) (λh=>hn (av ⟨p,be hp,an h⟩)) e,kJ.refl o'⟩,λb h=>?_,
  ⟨λb o' e=>kp b o' (λh=>by subst h;rw [d1]at e;cases e) (λh=>by subst h;rw [d2]at e;cases e) (G.imm b o' e),G.base,by rw [vE];exact G.len,λi q r1 h1 h2=>?_,λi q r1 h1 h2 h3=>?_,G.apart,λb hb=>?_⟩,os,gens⟩
 ·by_cases h1:b=p.1
  ·rw [h1];exact al.1
  ·by_cases h2:b=p.2
   ·rw [h2];exact al.2
   ·obtain⟨o',e⟩:=bj.mp h
    rw [kp b o' h1 h2 e]
    exact λh=>nomatch h
 ·rcases oU h2 with ⟨rfl,rfl⟩ | ⟨hne,h2⟩
  ·rw [hp]at h1;cases h1;exact hr'
  ·have hap:=G.apart i k q p h1 hp hne
   have:=lr.mono (I':=I) (δ:=[]) (hp':=s'.heap) (λζ ζ e=>e) (λb o' hb e=>kp b o' (λh=>by subst h;rcases hb with hb | hb;exact hap.1 hb.symm;exact hap.2.2.1 hb.symm)
    (λh=>by subst h;rcases hb with hb | hb;exact hap.2.1 hb.symm;exact hap.2.2.2 hb.symm) e) (G.recs i q r1 h1 h2)
   rwa [aP]at this
 ·rcases oU h2 with ⟨rfl,rfl⟩ | ⟨hne,h2⟩
  ·rw [hp]at h1;cases h1;exact⟨d1,d2⟩
  ·exact G.dis i q r1 h1 h2 h3
 ·obtain⟨g1,ob,es,ep,g2,g3⟩:=G.stk b hb
  exact⟨g1,ob,es,ep,kp b ob (λq=>g1 (an ⟨p,be hp,av q⟩)) (λq=>g1 (an ⟨p,be hp,an q⟩)) g2,g3⟩
end
end Mine
end
section
namespace Mine
noncomputable section
noncomputable def kK(env:d9)(a:aB):Prop:=a=env.locals \/ ∃x,env.cells.lookup x=some a
noncomputable def mI(env:d9)(a:aB):Prop:=a=env.locals\/(env.func.isSome=true /\ ∃x,env.cells.lookup x=some a)
noncomputable def xW(env:d9)(x:Str):Prop:=env.kindOf x=some .cell\/(env.kindOf x=some .free/\(x==("__classdict__":Str))=false)
structure b4(I:dC)(ρ:dH)(cx:Cx)(σ:bq)(env:d9)(h:fv):Prop where
 kf:env.scope.kind = .function
 gle:env.globals=da
 ble:env.builtins=jK
 glo:∀x,gl cx x=true->env.kindOf x=some .globalImplicit
 loc:∀x,cx.names.lookup x=some .local->env.kindOf x=some .local
 fn:∀x,cx.names.lookup x=some .cell->env.func.isSome=true
 cek:∀x,cx.names.lookup x=some .cell->env.kindOf x=some .cell
 cel:∀x k,cx.names.lookup x=some k->k = .cell\/k = .free->xW env x /\ ∃c v,env.cells.lookup x=some c/\h.IsCell c v
 ns:∃m,h.Ns env.locals m /\ ∀x v,σ.lookup x=some v->gl cx x=false/\((env.kindOf x=some .local /\ ∃u,m x=some u/\cq I ρ v u)\/(xW env x /\ ∃c u,env.cells.lookup x=some c/\h.IsCell c (some u)/\cq I ρ v u))
 sep:∀a,kK env a->¬fL I ρ a
 apart:∀x y a,env.cells.lookup x=some a->env.cells.lookup y=some a->x=y
 alive:∀a,kK env a->h.get? a≠none
 dbg:env.kindOf ("__debug__":Str)=none
 law:cx.names.lookup ("met":Str)=some .cell->env.code = .ref 951/\env.qual=("_law_met.<locals>.":Str)
noncomputable def cC(H0:Bs)(A:bD)(n:Nat):Prop:=A.handled=none/\A.depth+10*n<=900/\A.units+50*n<=9000 /\ ∃l,A.frames=some l/\l.map (·.frame)=H0.stk.map some /\ ∀e∈l,e.scope.kind ≠ .module
theorem cC.in1{H0:Bs}{A:bD}{n:Nat}(h:cC H0 A (n+1)):cC H0 A.in1 n:=⟨h.1,by have:=h.2.1;show A.depth+_<=_;exact o3 this,by have:=h.2.2.1;show A.units+1+_<=_;exact o4 this,h.2.2.2⟩
theorem cC.le{H0:Bs}{A:bD}{n m:Nat}(h:cC H0 A n)(hm:m<=n):cC H0 A m:=⟨h.1,by have:=h.2.1;exact o5 hm this,by have:=h.2.2.1;exact o6 hm this,h.2.2.2⟩
noncomputable abbrev eb:aB->Prop:=λζ=>False
inductive fM(H0:Bs)(I:dC)(ρ:dH)(s:ag)(v:PV)(R':List aO)(u:af)(s':ag):Prop
 | mk (I':dC) (ρ':dH) (x:a8 H0 eb I ρ s I' ρ' R' s') (h:cq I' ρ' v u):fM H0 I ρ s v R' u s'
inductive Av(H0:Bs)(I:dC)(ρ:dH)(s:ag)(v:List PV)(R':List aO)(u:List af)(s':ag):Prop
 | mk (I':dC) (ρ':dH) (x:a8 H0 eb I ρ s I' ρ' R' s') (h:aY I' ρ' v u):Av H0 I ρ s v R' u s'
inductive ry(H0:Bs)(I:dC)(ρ:dH)(s:ag)(v:Bool)(R':List aO)(u:Bool)(s':ag):Prop
 | mk (I':dC) (ρ':dH) (x:a8 H0 eb I ρ s I' ρ' R' s') (h:u=v):ry H0 I ρ s v R' u s'
noncomputable def Lp(I:dC)(ρ:dH)(kw:List (Str × PV))(kvs:List (Str × af)):Prop:=kvs.map (·.1)=kw.map (·.1)/\aY I ρ (kw.map (·.2)) (kvs.map (·.2))
section
variable (H0:Bs) (w:bF) (n:Nat)
noncomputable def N9(f:aB)(pos:List PV)(kw:List (Str × PV))(R:List aO)(v:PV)(R':List aO):Prop:=
 ∀(A:bD) (E:af->ag->Prop) (I:dC) (ρ:dH) (s:ag) (pvs:List af) (kvs:List (Str × af)),cC H0 A n->Gd H0 I ρ R s.heap->aY I ρ pos pvs->Lp I ρ kw kvs ->
  cB (ay pw w) A (.call (.ref f) ⟨pvs,kvs⟩) (λr s'=>match r with | .ok (.ret u)=>fM H0 I ρ s v R' u s' | .ok _=>False | .error e=>E e s') s
noncomputable def dB(sp:Spec):Prop:=∀f pos kw R v R',sp f pos kw R=some (v,R')->N9 H0 w n f pos kw R v R'
noncomputable def dM(cx:Cx)(e:Expr)(σ:bq)(R:List aO)(v:PV)(R':List aO):Prop:=
 ∀(A:bD) (E:af->ag->Prop) (I:dC) (ρ:dH) (env:d9) (s:ag),cC H0 A (n+1)->Gd H0 I ρ R s.heap->b4 I ρ cx σ env s.heap ->
  ar (ay pw w) A (ed e env) (fM H0 I ρ s v R') E s
noncomputable def Cs(cx:Cx)(e:Expr)(σ:bq)(R:List aO)(v:Bool)(R':List aO):Prop:=
 ∀(A:bD) (E:af->ag->Prop) (I:dC) (ρ:dH) (env:d9) (s:ag),cC H0 A (n+1)->Gd H0 I ρ R s.heap->b4 I ρ cx σ env s.heap ->
  ar (ay pw w) A (isTrue e env (ed e env)) (ry H0 I ρ s v R') E s
noncomputable def Fw(cx:Cx)(op:BoolOp)(es:List Expr)(σ:bq)(R:List aO)(v:Bool)(R':List aO):Prop:=
 ∀(A:bD) (E:af->ag->Prop) (I:dC) (ρ:dH) (env:d9) (s:ag),cC H0 A (n+1)->Gd H0 I ρ R s.heap->b4 I ρ cx σ env s.heap ->
  ar (ay pw w) A (allTrue op es env) (ry H0 I ρ s v R') E s
noncomputable def qm(cx:Cx)(es:List Expr)(σ:bq)(R:List aO)(v:List PV)(R':List aO):Prop:=
 ∀(A:bD) (E:af->ag->Prop) (I:dC) (ρ:dH) (env:d9) (pos:dN) (s:ag),cC H0 A (n+1)->Gd H0 I ρ R s.heap->b4 I ρ cx σ env s.heap ->
  ar (ay pw w) A (spliced (hO pos (bS es env))) (Av H0 I ρ s v R') E s
noncomputable def On(cx:Cx)(l:Expr)(op:mX)(r:Expr)(σ:bq)(R:List aO)(v:Bool)(R':List aO):Prop:=
 nU op r=false /\ ∀(A:bD) (E:af->ag->Prop) (I:dC) (ρ:dH) (env:d9) (s:ag),cC H0 A (n+1)->Gd H0 I ρ R s.heap->b4 I ρ cx σ env s.heap ->
  ar (ay pw w) A (ed l env) (λa s₁=>ar (ay pw w) A (ed r env) (λb s₂=>ar (ay pw w) A (po op a b) (fM H0 I ρ s (.bool v) R') E s₂) E s₁) E s
end
section
variable {H0:Bs} {w:bF} {n:Nat} {I I':dC} {ρ ρ':dH} {R R':List aO} {cx:Cx} {σ:bq} {env:d9} {A:bD} {E:af->ag->Prop} {s s':ag}
theorem cq.le{v:PV}{u:af}{X:aB->Prop}(x:a8 H0 X I ρ s I' ρ' R' s')(h:cq I ρ v u):cq I' ρ' v u:=by
 obtain⟨d,rfl⟩:=x.pre
 exact cq.mono x.le v u h
theorem aY.le{v:List PV}{u:List af}{X:aB->Prop}(x:a8 H0 X I ρ s I' ρ' R' s')(h:aY I ρ v u):aY I' ρ' v u:=by
 obtain⟨d,rfl⟩:=x.pre
 exact aY.mono x.le v u h
theorem a8.fset{X:aB->Prop}(x:a8 H0 X I ρ s I' ρ' R' s')(O:b4 I ρ cx σ env s.heap):∀a,kK env a->¬fL I' ρ' a:=λa ha h=>by
 rcases x.new a h with h | h
 ·exact O.sep a ha h
 ·exact O.alive a ha h
theorem b4.sepW{h:fv}(O:b4 I ρ cx σ env h)(a:aB)(x:mI env a):¬fL I ρ a:=O.sep a (x.imp id λq=>q.2)
theorem mI.f{a:aB}(x:mI env a):kK env a:=x.imp id λq=>q.2
theorem b4.step(O:b4 I ρ cx σ env s.heap)(x:a8 H0 eb I ρ s I' ρ' R' s'):b4 I' ρ' cx σ env s'.heap:=by
 have kp:∀a o,kK env a->s.heap.get? a=some o->∃o',s'.heap.get? a=some o'/\o'.data=o.data:=λa o ha e=>
  let ⟨o',h1,h2⟩:=x.keep a o (λh=>h.elim (λh=>O.sep a ha (an h)) id) e
  ⟨o',h1,h2.data⟩
 refine⟨O.kf,O.gle,O.ble,O.glo,O.loc,O.fn,O.cek,λy k hy hk=>?_,?_,x.fset O,O.apart,λa ha=>x.alive a (O.alive a ha),O.dbg,O.law⟩
 ·obtain⟨h1,c,v,h2,o,h3,h4⟩:=O.cel y k hy hk
  obtain⟨o',k1,k2⟩:=kp c o (an ⟨y,h2⟩) h3
  exact⟨h1,c,v,h2,o',k1,k2.trans h4⟩
 ·obtain⟨m,⟨o,es,ep,h1,h2,h2'⟩,h3⟩:=O.ns
  obtain⟨o',k1,k2⟩:=kp _ o (av rfl) h1
  refine⟨m,⟨o',es,ep,k1,k2.trans h2,h2'⟩,λy v hy=>?_⟩
  obtain⟨h4,h5⟩:=h3 y v hy
  refine⟨h4,?_⟩
  rcases h5 with ⟨h5,u,h6,h7⟩ | ⟨h5,c,u,h6,⟨o,h7,h8⟩,h9⟩
  ·exact av ⟨h5,u,h6,h7.le x⟩
  ·obtain⟨o',k1,k2⟩:=kp c o (an ⟨y,h6⟩) h7
   exact an ⟨h5,c,u,h6,⟨o',k1,k2.trans h8⟩,h9.le x⟩
theorem a8.toks{X:aB->Prop}(G:Gd H0 I ρ R s.heap)(hX:∀a,X a->¬fL I ρ a)(t:Nat):a8 H0 X I ρ s I ρ R { s with toks:=t }:=a8.quietX G hX (λζ ζ ζ e=>e) (λζ ζ e=>e) rfl rfl (λa ζ ha=>(G.stk a ha).2)
theorem a8.self{X:aB->Prop}(G:Gd H0 I ρ R s.heap)(hX:∀a,X a->¬fL I ρ a):a8 H0 X I ρ s I ρ R s:=a8.quietX G hX (λζ ζ ζ e=>e) (λζ ζ e=>e) rfl rfl (λa ζ ha=>(G.stk a ha).2)
theorem nb:∀a,eb a->¬fL I ρ a:=λζ h=>h.elim
theorem fM.mono_{v:PV}{R'':List aO}(G:Gd H0 I ρ R s.heap)(x:a8 H0 eb I ρ s I' ρ' R' s'){u:af}{s'':ag}(h:fM H0 I' ρ' s' v R'' u s''):fM H0 I ρ s v R'' u s'':=by
 obtain⟨I2,ρ2,y,r⟩:=h
 exact⟨I2,ρ2,x.trans G y,r⟩
theorem Av.mono_{v:List PV}{R'':List aO}(G:Gd H0 I ρ R s.heap)(x:a8 H0 eb I ρ s I' ρ' R' s'){u:List af}{s'':ag}(h:Av H0 I' ρ' s' v R'' u s''):Av H0 I ρ s v R'' u s'':=by
 obtain⟨I2,ρ2,y,r⟩:=h
 exact⟨I2,ρ2,x.trans G y,r⟩
theorem ry.mono_{v:Bool}{R'':List aO}(G:Gd H0 I ρ R s.heap)(x:a8 H0 eb I ρ s I' ρ' R' s'){u:Bool}{s'':ag}(h:ry H0 I' ρ' s' v R'' u s''):ry H0 I ρ s v R'' u s'':=by
 obtain⟨I2,ρ2,y,r⟩:=h
 exact⟨I2,ρ2,x.trans G y,r⟩
theorem oi{v:PV}{u:af}(G:Gd H0 I ρ R s.heap)(h:cq I ρ v u)(t:Nat):fM H0 I ρ s v R u { s with toks:=t }:=⟨I,ρ,a8.toks G nb t,h⟩
theorem ef{v:PV}{u:af}(G:Gd H0 I ρ R s.heap)(h:cq I ρ v u):fM H0 I ρ s v R u s:=⟨I,ρ,a8.self G nb,h⟩
theorem kP{b:Bool}(G:Gd H0 I ρ R s.heap):ry H0 I ρ s b R b s:=⟨I,ρ,a8.self G nb,rfl⟩
theorem Gd.baseAt(B:dy w H0.heap)(G:Gd H0 I ρ R s.heap):dy w s.heap:=B.keeps λa o e=>G.imm a o (G.base a o e)
theorem E2(B:dy w H0.heap)(G:Gd H0 I ρ R s.heap){x:Str}{v:af}(h:eZ x=some v):∃mg mb,s.heap.Ns da mg/\s.heap.Ns jK mb/\(mg x=some v\/(mg x=none/\mb x=some v)):=by
 have B':=G.baseAt B
 obtain⟨mg,h1,h2,h3⟩:=B'.g
 obtain⟨mb,h4,h5⟩:=B'.b
 refine⟨mg,mb,h1,h4,?_⟩
 unfold eZ at h
 cases e:GN.lookup x with
 | some u=>
  rw [e]at h
  cases h
  exact av (h2 _ (mem_of_lookup e))
 | none=>
  rw [e]at h
  have hm:(x,v)∈BN:=mem_of_lookup h
  exact an ⟨h3 _ hm,h5 _ hm⟩
theorem cz(B:dy w H0.heap)(G:Gd H0 I ρ R s.heap)(O:b4 I ρ cx σ env s.heap){x:Str}{v:af}(hx:gl cx x=true)(h:eZ x=some v){Q:af->ag->Prop}(hQ:Q v s) :
  ar (ay pw w) A (loadName env x) Q E s:=by
 obtain⟨mg,mb,h1,h2,h3⟩:=E2 B G h
 have hk:=O.glo x hx
 unfold loadName
 simp only [Env.blockKind,hk,O.kf,ScopeKind.isAnnotationScope,Bool.false_and,a0,if_false]
 rcases h3 with h3 | ⟨h3,h4⟩
 ·exact Calls.loadGlobal_global (by rw [O.gle];exact h1) h3 hQ
 ·exact Calls.loadGlobal_builtin (by rw [O.gle];exact h1) h3 (by rw [O.ble];exact h2) h4 hQ
theorem c9(O:b4 I ρ cx σ env s.heap){x:Str}{k:d3}(h:env.kindOf x=some k):(x==("__debug__":Str))=false:=by
 cases e:x==("__debug__":Str)with
 | false=>rfl
 | true=>rw [aJ e,O.dbg]at h;cases h
theorem uK(O:b4 I ρ cx σ env s.heap){x:Str}{v:PV}(h:σ.lookup x=some v){Q:af->ag->Prop}(hQ:∀u,cq I ρ v u->Q u s):ar (ay pw w) A (loadName env x) Q E s:=by
 obtain⟨m,h1,h2⟩:=O.ns
 obtain⟨_,h3⟩:=h2 x v h
 rcases h3 with ⟨h3,u,h4,h5⟩ | ⟨h3,c,u,h4,h5,h6⟩
 ·exact wpAny_loadName_local O.kf h3 h1 h4 (hQ u h5)
 ·rcases h3 with h3 | ⟨h3,h7⟩
  ·exact wpAny_loadName_cell O.kf h3 h4 h5 (hQ u h6)
  ·exact wpAny_loadName_free O.kf h3 h4 h5 (hQ u h6) h7
theorem zy(O:b4 I ρ cx σ env s.heap){x:Str}{v:PV}(h:σ.lookup x=some v):∃k,env.kindOf x=some k:=by
 obtain⟨m,h1,h2⟩:=O.ns
 obtain⟨_,h3⟩:=h2 x v h
 rcases h3 with ⟨h3,_⟩ | ⟨h3 | ⟨h3,_⟩,_⟩<;>exact⟨_,h3⟩
end
end
end Mine
end
section
open PySem PySem.W PyProof.Rows PySem.Spec
namespace Mine
noncomputable section
mutual
theorem wB{I:dC}{ρ ρ':dH}:∀{p:PV} {v:af},noObj p=true->cq I ρ p v->cq I ρ' p v
 | .none,v,_,h=>h
 | .bool b,v,_,h=>h
 | .int i,v,_,h=>h
 | .str s,v,_,h=>h
 | .val x,v,_,h=>h
 | .obj k,v,e,h=>nomatch e
 | .list l,v,e,h=>by
  obtain⟨hl,a,xs,n,rfl,ha,hr⟩:=h
  exact⟨hl,a,xs,n,rfl,ha,lc e hr⟩
 | .tup l,v,e,h=>by
  obtain⟨hl,a,xs,n,rfl,ha,hr⟩:=h
  exact⟨hl,a,xs,n,rfl,ha,lc e hr⟩
theorem lc{I:dC}{ρ ρ':dH}:∀{l:List PV} {vs:List af},bz l=true->aY I ρ l vs->aY I ρ' l vs
 | [],vs,_,h=>h
 | p::r,vs,e,h=>by
  obtain⟨v,q,rfl,h1,h2⟩:=h
  have e':=aM.mp e
  exact⟨v,q,rfl,wB e'.1 h1,lc e'.2 h2⟩
end
theorem uR{R:List aO}(h:lP R=true):R[0]? = some .tab:=by
 unfold lP at h
 cases e:R[0]? with
 | none=>rw [e]at h;cases h
 | some r=>rw [e]at h;cases r<;>first | rfl | cases h
section
variable {H0:Bs} {w:bF} {n:Nat}
theorem uw{p0:aB × aB}{ρs:dH}{a:aB}(h:own [p0] a):own (p0::ρs) a:=by
 obtain⟨p,hp,e⟩:=h
 rw [aC]at hp
 exact⟨p,hp▸aj,e⟩
theorem No{I:dC}{p0:aB × aB}{ρs:dH}{Rs:List aO}{hp:fv}(G:Gd H0 I (p0::ρs) (.tab::Rs) hp):Gd H0 I [p0] [.tab] hp where
 imm:=G.imm
 base:=G.base
 len:=rfl
 recs:=λk p r h1 h2=>by
  cases k with
  | zero=>cases h1;cases h2;exact G.recs 0 _ _ rfl rfl
  | succ k=>cases h1
 dis:=λk p r h1 h2=>by
  cases k with
  | zero=>cases h1;cases h2;exact G.dis 0 _ _ rfl rfl
  | succ k=>cases h1
 apart:=λj k p q h1 h2 hjk=>by
  cases j with
  | zero=>cases k with
   | zero=>exact absurd rfl hjk
   | succ k=>cases h2
  | succ j=>cases h1
 stk:=λa ha=>⟨λq=>(G.stk a ha).1 (q.imp id uw),(G.stk a ha).2⟩
theorem HD{I I':dC}{p0:aB × aB}{ρs ρ':dH}{Rs R1:List aO}{s s':ag}(G:Gd H0 I (p0::ρs) (.tab::Rs) s.heap)(hp:Rs.all xL=true)(ht:R1[0]? = some .tab)
  (x:a8 H0 eb I [p0] s I' ρ' R1 s'):a8 H0 eb I (p0::ρs) s I' (p0::ρs) (.tab::Rs) s':=by
 have hd:ρ'[0]? = some p0:=by
  obtain⟨d,rfl⟩:=x.pre
  rfl
 have far:∀k p,(p0::ρs)[k+1]? = some p->¬own [p0] p.1:=λk p hk ⟨q,hq,e⟩=>by
  rw [aC]at hq
  subst hq
  have:=G.apart (k+1) 0 p _ hk rfl (tW k)
  rcases e with e | e
  ·exact this.1 e
  ·exact this.2.1 e
 have self:∀k p r,(p0::ρs)[k+1]? = some p->(.tab::Rs:List aO)[k+1]? = some r->p.2=p.1:=λk p r hk hr=>by
  have h1:=G.recs (k+1) p r hk hr
  have h2:=bu.mp hp r (be (i:=k) hr)
  cases r with
  | inst C fs=>cases h2
  | tab=>cases h2
  | lst l=>exact h1.2.1
  | deq=>exact h1.1
  | dead=>exact h1.1
 refine⟨x.le,⟨[],(aP _).symm⟩,λa h=>?_,λa o hn e=>x.keep a o (λq=>hn (q.imp uw id)) e,x.alive,⟨x.good.imm,x.good.base,G.len,λk p r h1 h2=>?_,λk p r h1 h2 h3=>?_,G.apart,λa ha=>⟨λq=>?_,(x.good.stk a ha).2⟩⟩,x.os,x.gens⟩
 ·rcases h with h | h
  ·rcases x.new a (av h)with h | h
   ·exact av (h.imp id uw)
   ·exact an h
  ·exact av (an h)
 ·cases k with
  | zero=>
   cases h1;cases h2
   exact x.good.recs 0 _ _ hd ht
  | succ k=>
   have h3:=G.recs (k+1) p r h1 h2
   have h4:=bu.mp hp r (be (i:=k) h2)
   have kp:=λo (e:s.heap.get? p.1=some o)=>x.keep p.1 o (λq=>q.elim (far k p h1) id) e
   cases r with
   | inst C fs=>cases h4
   | tab=>cases h4
   | lst l=>
    obtain⟨h5,h6,xs,n,h7,h8⟩:=h3
    obtain⟨o',k1,k2⟩:=kp _ h7
    have:=k2.eq (λζ ζ q=>nomatch q)
    subst this
    refine⟨h5,h6,xs,n,k1,?_⟩
    have:=aY.mono (δ:=[]) x.le l xs h8
    rwa [aP]at this
   | deq=>
    obtain⟨h5,o,h6,h7,h8,y,z,h9⟩:=h3
    obtain⟨o',k1,k2⟩:=kp _ h6
    have:=k2.eq (λζ ζ q=>by rw [h9]at q;cases q)
    subst this
    exact⟨h5,_,k1,h7,h8,y,z,h9⟩
   | dead=>
    obtain⟨h5,o,h6⟩:=h3
    obtain⟨o',k1,k2⟩:=kp _ h6
    exact⟨h5,_,k1⟩
 ·cases k with
  | zero=>
   cases h1;cases h2
   exact x.good.dis 0 _ _ hd ht h3
  | succ k=>
   have h4:=G.dis (k+1) p r h1 h2 h3
   have h5:=G.lt (a:=p.1) (an ⟨p,be h1,av rfl⟩)
   have h6:I' p.1=none:=by
    cases e:I' p.1 with
    | none=>rfl
    | some o=>
     rcases x.new p.1 (av (by rw [e];exact λq=>nomatch q))with (q | q) | q
     ·exact absurd h4.1 q
     ·exact absurd q (far k p h1)
     ·exact absurd q h5
   exact⟨h6,by rw [self k p r h1 h2];exact h6⟩
 ·rcases q with q | q
  ·exact(x.good.stk a ha).1 (av q)
  ·exact(G.stk a ha).1 (an q)
set_option tactic.hygienic true in
theorem Nn{sp:Spec}(h:dB H0 w n sp):dB H0 w n (Np sp):=by
 intro f pos kw R v R' e
 unfold Np at e
 by_cases hg:(bz pos&&(kw.isEmpty&&wE R))=true
 case neg=>rw [if_neg hg]at e;exact h _ _ _ _ _ _ e
 rw [if_pos hg]at e
 obtain⟨h1,hg2⟩:=aM.mp hg
 obtain⟨h2,h3⟩:=aM.mp hg2
 cases hs:sp f pos kw [.tab]with
 | none=>rw [hs]at e;cases e
 | some y=>
  obtain⟨u,R1⟩:=y
  rw [hs]at e
  dsimp only at e
  by_cases hv:(noObj u&&lP R1)=true
  case neg=>rw [if_neg hv]at e;cases e
  rw [if_pos hv]at e
  obtain⟨hv,ht⟩:=aM.mp hv
  simp only [gH,Prod.mk.injEq]at e
  obtain⟨rfl,rfl⟩:=e
  have hk:kw=[]:=eO.mp h2
  subst hk
  obtain⟨Rs,rfl,hp⟩:∃Rs,R = .tab::Rs/\Rs.all xL=true:=by
   cases R with
   | nil=>cases h3
   | cons r Rs=>cases r with
    | tab=>exact⟨_,rfl,h3⟩
    | _=>cases h3
  have ht:=uR ht
  intro A E I ρ s pvs kvs hr G ha hkw
  obtain⟨p0,ρs,rfl⟩:∃p0 ρs,ρ=p0::ρs:=by
   cases ρ with
   | nil=>exact absurd G.len (by simp)
   | cons a b=>exact⟨a,b,rfl⟩
  have G0:Gd H0 I [p0] [.tab] s.heap:=No G
  refine gm (h _ _ _ _ _ _ hs A E I [p0] s pvs kvs hr G0 (lc h1 ha) ⟨hkw.1,lc (l:=[]) rfl hkw.2⟩) λr s' q=>?_
  rcases r with er | fl
  ·exact q
  ·cases fl with
   | ret x=>
    obtain⟨I',ρ',st,hx⟩:=q
    exact⟨I',p0::ρs,HD G hp ht st,wB hv hx⟩
   | _=>exact q
end
end
end Mine
end
section
namespace Mine
noncomputable section
section
variable {H0:Bs} {w:bF} {n:Nat} {I I':dC} {ρ ρ':dH} {R R':List aO} {cx:Cx} {σ:bq} {env:d9} {A:bD} {E:af->ag->Prop} {s s':ag}
noncomputable abbrev S(l:LS):Str:=⟨l.toArray⟩
theorem At(a b:LS):S a++S b=S (a++b):=by
 show FX (a.toArray++b.toArray)=FX (a++b).toArray
 simp
theorem dX(a:LS):(S a).length=a.length:=by show a.toArray.size=_;simp
theorem wg(x:Str):S (ls x)=x:=by cases x;simp [S,ls]
theorem PI(x:LS):ls (S x)=x:=by simp [S,ls]
theorem aY.length{l:List PV}:∀{xs:List af},aY I ρ l xs->xs.length=l.length:=by
 induction l with
 | nil=>exact λh=>congrArg bX (h:_=[])
 | cons a l ih=>
  intro xs h
  obtain⟨v,r,rfl,_,q⟩:=h
  exact congrArg Nat.succ (ih q)
theorem aY.append_{l l':List PV}{xs':List af}(h':aY I ρ l' xs'):∀{xs:List af},aY I ρ l xs->aY I ρ (l++l') (xs++xs'):=by
 induction l with
 | nil=>exact λh=>(h:_=[])▸h'
 | cons a l ih=>
  intro xs h
  obtain⟨v,r,rfl,h1,q⟩:=h
  exact⟨v,_,rfl,h1,ih q⟩
theorem aY.append{l l':List PV}{xs xs':List af}(h:aY I ρ l xs)(h':aY I ρ l' xs'):aY I ρ (l++l') (xs++xs'):=aY.append_ h' h
theorem zh:SZ+SZ<=mQ:=by rw [PySem.sizeLine_eq];decide
theorem ga{k:Nat}(h:k<=SZ):k<=mQ:=ah h (ah (dA _ _) zh)
theorem Bw{α:Type}{p:Prop} [Decidable p]{x v:α}(h:(if p then some x else none)=some v):p/\v=x:=by
 by_cases hp:p
 ·rw [if_pos hp]at h;exact⟨hp,(aV h).symm⟩
 ·rw [if_neg hp]at h;cases h
theorem oo{l:LS}{v:PV}(h:mkS l=some v):l.length<=SZ/\v = .str l:=Bw h
theorem oq{l:List PV}{v:PV}(h:mkL l=some v):l.length<=SZ/\v = .list l:=Bw h
theorem om{l:List PV}{v:PV}(h:mkT l=some v):l.length<=SZ/\v = .tup l:=Bw h
theorem az.mkS{P:PV->Prop}{l:LS}(h:l.length<=SZ->P (.str l)):az P (Mine.mkS l):=λζ e=>(oo e).2▸h (oo e).1
theorem az.mkL{P:PV->Prop}{l:List PV}(h:l.length<=SZ->P (.list l)):az P (Mine.mkL l):=λζ e=>(oq e).2▸h (oq e).1
theorem az.mkT{P:PV->Prop}{l:List PV}(h:l.length<=SZ->P (.tup l)):az P (Mine.mkT l):=λζ e=>(om e).2▸h (om e).1
theorem cu(h:fv):h.get? h.objs.size=none:=by
 cases e:h.get? h.objs.size with
 | none=>rfl
 | some o=>exact absurd (c8 e) (eY _)
theorem oR(G:Gd H0 I ρ R s.heap){o:jf}(ho:o.isFreed=false)(t:Nat):a8 H0 eb I ρ s (λb=>if b=s.heap.objs.size then some o else I b) ρ R { s with heap:=s.heap.push o,toks:=t }:=
 a8.fact G (cu _) (aU s.heap ho) (λζ ζ e=>au _ e) rfl rfl
theorem iP(G:Gd H0 I ρ R s.heap){l:List PV}{xs:List af}(hr:aY I ρ l xs)(hl:l.length<=SZ)(t:Nat) :
  fM H0 I ρ s (.list l) R (.ref s.heap.objs.size) { s with heap:=s.heap.push { cls:=.type "list",data:=.seq xs.toArray },toks:=t }:=
 ⟨_,_,oR G rfl t,hl,_,xs,0,rfl,if_pos rfl,hr.le (oR G rfl t)⟩
theorem js(G:Gd H0 I ρ R s.heap){l:List PV}{xs:List af}(hr:aY I ρ l xs)(hl:l.length<=SZ)(t:Nat) :
  fM H0 I ρ s (.tup l) R (.ref s.heap.objs.size) { s with heap:=s.heap.push { cls:=.type "tuple",data:=.seq xs.toArray },toks:=t }:=
 ⟨_,_,oR G rfl t,hl,_,xs,0,rfl,if_pos rfl,hr.le (oR G rfl t)⟩
theorem W9.isTup{h:fv}{a:aB}{xs:Array af}{k:Nat}(x:h.get? a=some (mw xs k)):IsTup h a xs:=⟨_,x,rfl,k,rfl⟩
theorem tF{i:Int}{t:tU}:cq I ρ (.int i) (.int i t):=⟨t,rfl⟩
theorem oQ{l:LS}{t:tU}(h:l.length<=SZ)(hs:ja l=true):cq I ρ (.str l) (.str (S l) t):=⟨h,hs,t,rfl⟩
theorem la{a b:LS}(ha:ja a=true)(hb:ja b=true):ja (a++b)=true:=by unfold ja at *; rw [List.all_append,ha,hb];rfl
theorem xG{a b:LS}(h:∀c∈a,c∈b)(hb:ja b=true):ja a=true:=by
 unfold ja at *
 rw [bu]at *
 exact λc hc=>hb c (h c hc)
theorem jq{b:Bool}:cq I ρ (.bool b) (.bool b):=rfl
theorem oh:cq I ρ .none .none:=rfl
theorem iW(G:Gd H0 I ρ R s.heap){i:Int}{t:tU}(k:Nat):fM H0 I ρ s (.int i) R (.int i t) { s with toks:=k }:=oi G tF _
theorem qO(G:Gd H0 I ρ R s.heap){l:LS}{t:tU}(h:l.length<=SZ)(hs:ja l=true)(k:Nat):fM H0 I ρ s (.str l) R (.str (S l) t) { s with toks:=k }:=oi G (oQ h hs) _
theorem Et{a b:Int}(h0:0<b)(h:b<=1000):¬(sX a b)=true:=by
 have h2:b.natAbs.log2<=10:=bg ((Nat.log2_lt (Int.natAbs_ne_zero.mpr (A2 h0))).mpr (bp (iL.mp (DQ (sW h0)▸h)) (by decide)))
 unfold sX
 simp only [bd,decide_eq_true_eq,not_and,gt_iff_lt,dj]
 intro h3
 exfalso
 split at h3<;>omega
@[elab_as_elim] theorem cq.int_el {C:af->Prop} {i:Int} {x:af} (h:cq I ρ (.int i) x) (k:∀t,C (.int i t)):C x:=by
 obtain⟨t,rfl⟩:=h
 exact k t
@[elab_as_elim] theorem cq.str_el {C:af->Prop} {l:LS} {x:af} (h:cq I ρ (.str l) x) (k:∀t,l.length<=SZ->ja l=true->C (.str (S l) t)):C x:=by
 obtain⟨a,b,t,rfl⟩:=h
 exact k t a b
@[elab_as_elim] theorem cq.list_el {C:af->Prop} {l:List PV} {x:af} (h:cq I ρ (.list l) x) (k:∀a xs n,l.length<=SZ->I a=some (cF (bk xs) n)->aY I ρ l xs->C (.ref a)):C x:=by
 obtain⟨h1,a,xs,n,rfl,h2,h3⟩:=h
 exact k a xs n h1 h2 h3
@[elab_as_elim] theorem cq.tup_el {C:af->Prop} {l:List PV} {x:af} (h:cq I ρ (.tup l) x) (k:∀a xs n,l.length<=SZ->I a=some (mw (bk xs) n)->aY I ρ l xs->C (.ref a)):C x:=by
 obtain⟨h1,a,xs,n,rfl,h2,h3⟩:=h
 exact k a xs n h1 h2 h3
@[elab_as_elim] theorem cq.val_el {C:af->Prop} {a x:af} (h:cq I ρ (.val a) x) (k:C a):C x:=by
 replace h:x=_:=h
 subst h
 exact k
@[elab_as_elim] theorem cq.none_el {C:af->Prop} {x:af} (h:cq I ρ .none x) (k:C .none):C x:=by
 replace h:x=_:=h
 subst h
 exact k
@[elab_as_elim] theorem cq.bool_el {C:af->Prop} {b:Bool} {x:af} (h:cq I ρ (.bool b) x) (k:C (.bool b)):C x:=by
 replace h:x=_:=h
 subst h
 exact k
@[elab_as_elim] theorem cq.obj_el {C:af->Prop} {j:Nat} {x:af} (h:cq I ρ (.obj j) x) (k:∀p,ρ[j]? = some p->C (.ref p.1)):C x:=by
 obtain⟨p,h1,rfl⟩:=h
 exact k p h1
@[elab_as_elim] theorem aY.cons_el {C:List af->Prop} {a:PV} {l:List PV} {xs:List af} (h:aY I ρ (a::l) xs) (k:∀u us,cq I ρ a u->aY I ρ l us->C (u::us)):C xs:=by
 obtain⟨v,r,rfl,h1,h2⟩:=h
 exact k v r h1 h2
@[elab_as_elim] theorem aY.nil_el {C:List af->Prop} {xs:List af} (h:aY I ρ [] xs) (k:C []):C xs:=by
 replace h:xs=_:=h
 subst h
 exact k
@[elab_as_elim] theorem aY.one_el {C:List af->Prop} {a:PV} {xs:List af} (h:aY I ρ [a] xs) (k:∀u,cq I ρ a u->C [u]):C xs:=h.cons_el λu us h1 h2=>h2.nil_el (C:=λus=>C (u::us)) (k u h1)
@[elab_as_elim] theorem aY.two_el {C:List af->Prop} {a b:PV} {xs:List af} (h:aY I ρ [a,b] xs) (k:∀u v,cq I ρ a u->cq I ρ b v->C [u,v]):C xs:=h.cons_el λu us h1 h2=>h2.one_el (C:=λus=>C (u::us)) λv h3=>k u v h1 h3
theorem aY.nil:aY I ρ [] []:=rfl
theorem aY.cons{a:PV}{l:List PV}{u:af}{us:List af}(h:cq I ρ a u)(h':aY I ρ l us):aY I ρ (a::l) (u::us):=⟨u,us,rfl,h,h'⟩
theorem qK{a:aB}{l:List PV}{xs:List af}{n:Nat}(h:l.length<=SZ)(h1:I a=some (cF (bk xs) n))(h2:aY I ρ l xs):cq I ρ (.list l) (.ref a):=⟨h,a,xs,n,rfl,h1,h2⟩
theorem C1{a:aB}{l:List PV}{xs:List af}{n:Nat}(h:l.length<=SZ)(h1:I a=some (mw (bk xs) n))(h2:aY I ρ l xs):cq I ρ (.tup l) (.ref a):=⟨h,a,xs,n,rfl,h1,h2⟩
theorem aY.isNil{l:List PV}(h:aY I ρ l []):l=[]:=List.length_eq_zero_iff.mp h.length.symm
theorem yh{p q:Prop} [Decidable p] [Decidable q](h:(decide p&&decide q)=true):p/\q:=⟨of_decide_eq_true (eA h).1,of_decide_eq_true (eA h).2⟩
@[elab_as_elim] theorem q8 {C:cy->Prop} {op:cy} (h:wX op=true) (k:C .Add):C op:=(aJ h).symm▸k
section
variable (H0 w A E I ρ R s)
noncomputable def yB(op:cy)(x y:af)(v:PV):Prop:=ar (ay pw w) A (binaryOp op x y) (fM H0 I ρ s v R) E s
end
set_option tactic.hygienic true in
theorem Li(G:Gd H0 I ρ R s.heap){op:cy}{i j:Int}{t u:tU}:az (yB H0 w I ρ R A E s op (.int i t) (.int j u)) (Px op i j):=by
 cases op
 case Add=>exact az.some (AutoIntOps.add_0 (iW G _))
 case Sub=>exact az.some (AutoIntOps.sub_0 (iW G _))
 case FloorDiv=>exact az.grd λh=>az.some (AutoIntOps.floordiv_1 (λe=>A2 (yh h).1 (aJ e)) (Et (yh h).1 (yh h).2) (iW G _))
 case Mod=>exact az.grd λh=>az.some (AutoIntOps.mod_1 (λe=>A2 (yh h).1 (aJ e)) (iW G _))
 all_goals exact az.none
theorem Lm(G:Gd H0 I ρ R s.heap){p q:aB}{xs ys:List af}{k1 k2:Nat}{lx ly:List PV}(l1:lx.length<=SZ)(l2:ly.length<=SZ)(hp:I p=some (mw (bk xs) k1))(hq:I q=some (mw (bk ys) k2))(hr1:aY I ρ lx xs)(hr2:aY I ρ ly ys)(h1:(lx++ly).length<=SZ) :
  yB H0 w I ρ R A E s .Add (.ref p) (.ref q) (.tup (lx++ly)):=by
 have gp:=G.imm _ _ hp
 have gq:=G.imm _ _ hq
 cases xs with
 | nil=>
  have e:=hr1.isNil
  subst e
  exact FW ⟨_,gp,rfl⟩ ⟨_,gq,rfl⟩ xj DH mV ms (l9 _ _) (tuple_addW0 p q _ _ k1 k2 none none #[] #[] rfl) ⟨gp,gq,ef G (C1 l2 hq hr2)⟩
 | cons x xs=>
  cases ys with
  | nil=>
   have e:=hr2.isNil
   subst e
   exact FW ⟨_,gp,rfl⟩ ⟨_,gq,rfl⟩ xj DH mV ms (l9 _ _) (tuple_addW1 p q _ _ k1 k2 none none #[] #[] (by simp) rfl) ⟨gp,gq,ef G ((aP lx).symm▸C1 l1 hp hr1)⟩
  | cons y ys=>
   exact FW ⟨_,gp,rfl⟩ ⟨_,gq,rfl⟩ xj DH mV ms (l9 _ _) (tuple_addW2 p q _ _ k1 k2 none none #[] #[] (by simp) (by simp)
    (by rw [aT,aT,hr1.length,hr2.length];exact ah (cr l1 l2) zh)) ⟨gp,gq,DP _ _▸js G (hr1.append hr2) h1 _⟩
theorem add_list(G:Gd H0 I ρ R s.heap){p q:aB}{xs ys:List af}{k1 k2:Nat}{lx ly:List PV}(l1:lx.length<=SZ)(l2:ly.length<=SZ)(hp:I p=some (cF (bk xs) k1))(hq:I q=some (cF (bk ys) k2))(hr1:aY I ρ lx xs)(hr2:aY I ρ ly ys)(h1:(lx++ly).length<=SZ) :
  yB H0 w I ρ R A E s .Add (.ref p) (.ref q) (.list (lx++ly)):=
 P.add_list (G.imm _ _ hp) (G.imm _ _ hq) (DP _ _▸iP G (hr1.append hr2) h1 _) (by rw [aT,aT,hr1.length,hr2.length];exact ah (cr l1 l2) zh)
theorem Lh(G:Gd H0 I ρ R s.heap){a b:LS}{t u:tU}(l1:a.length<=SZ)(l2:b.length<=SZ)(q1:ja a=true)(q2:ja b=true)(h:(a++b).length<=SZ):yB H0 w I ρ R A E s .Add (.str (S a) t) (.str (S b) u) (.str (a++b)):=
 SB.add (λt' k=>At a b▸qO G h (la q1 q2) _) (by rw [dX,dX];exact ah (cr l1 l2) zh)
set_option tactic.hygienic true in
theorem Vi(G:Gd H0 I ρ R s.heap){op:cy}{a b:PV}{x y:af}(ha:cq I ρ a x):cq I ρ b y->az (yB H0 w I ρ R A E s op x y) (yu op a b):=by
 cases a
 case int i=>exact lQ (C:=λb o=>cq I ρ b y->az (yB H0 w I ρ R A E s op x y) o) b (λζ ζ=>az.none) λj hb=>ha.int_el λt=>hb.int_el λu=>Li G
 case str i=>exact λhb=>az.grd λh=>q8 h (m8 (C:=λb o=>cq I ρ b y->az (yB H0 w I ρ R A E s .Add x y) o) b (λζ ζ=>az.none) (λj hb=>az.mkS λhl=>ha.str_el λt l1 q1=>hb.str_el λu l2 q2=>Lh G l1 l2 q1 q2 hl) hb)
 case tup i=>exact λhb=>az.grd λh=>q8 h (qB (C:=λb o=>cq I ρ b y->az (yB H0 w I ρ R A E s .Add x y) o) b (λζ ζ=>az.none) (λj hb=>az.mkT λhl=>ha.tup_el λp xs n l1 h1 r1=>hb.tup_el λq ys m l2 h2 r2=>Lm G l1 l2 h1 h2 r1 r2 hl) hb)
 case list i=>exact λhb=>az.grd λh=>q8 h (qV (C:=λb o=>cq I ρ b y->az (yB H0 w I ρ R A E s .Add x y) o) b (λζ ζ=>az.none) (λj hb=>az.mkL λhl=>ha.list_el λp xs n l1 h1 r1=>hb.list_el λq ys m l2 h2 r2=>add_list G l1 l2 h1 h2 r1 r2 hl) hb)
 all_goals exact λζ=>az.none
theorem Am(G:Gd H0 I ρ R s.heap){op:cy}{a b v:PV}{x y:af}(h:yu op a b=some v)(ha:cq I ρ a x)(hb:cq I ρ b y):ar (ay pw w) A (binaryOp op x y) (fM H0 I ρ s v R) E s:=Vi G ha hb v h
end
end
end Mine
end
section
namespace Mine
noncomputable section
section
variable {H0:Bs} {w:bF} {n m:Nat} {sp:Spec} {I I':dC} {ρ ρ':dH} {R R' R1 R2:List aO} {cx:Cx} {σ:bq} {env:d9} {A:bD} {E:af->ag->Prop} {s s':ag} {e l r t a b:Expr} {v:PV}
set_option tactic.hygienic true in
theorem Ab{c:Const}{k:Nat}{pos:dN}(h:yk c=some v):dM H0 w n cx (.Constant c k pos) σ R v R:=λA E I ρ env s hR G O=>
 have key:az (λv=>ar (ay pw w) A (ed (.Constant c k pos) env) (fM H0 I ρ s v R) E s) (yk c):=by
  cases c
  case none=>exact az.some (sP (ef G oh))
  case bool=>exact az.some (wpAny_Constant_bool (ef G jq))
  case int=>exact az.some (wpAny_Constant_int (iW G _))
  case str x=>exact az.grd λhs=>az.mkS λh1=>mN (wg x▸qO G h1 hs (s.toks+1))
  all_goals exact az.none
 key v h
theorem tQ(B:dy w H0.heap){x:Str}{pos:dN}(hg:gl cx x=true){u:af}(hx:eZ x=some u):dM H0 w n cx (.Name x pos) σ R (.val u) R:=λA E I ρ env s hR G O=>
 db (cz B G O hg hx (ef G rfl)) (c9 O (O.glo x hg))
theorem nn{x:Str}{pos:dN}(hx:σ.lookup x=some v):dM H0 w n cx (.Name x pos) σ R v R:=λA E I ρ env s hR G O=>
 let ⟨k,hk⟩:=zy O hx
 db (uK O hx λu hu=>ef G hu) (c9 O hk)
theorem dM.then(h:dM H0 w n cx e σ R v R1)(hR:cC H0 A (n+1))(G:Gd H0 I ρ R s.heap)(O:b4 I ρ cx σ env s.heap){Q:af->ag->Prop}
  (k:∀I' ρ' u s',a8 H0 eb I ρ s I' ρ' R1 s'->cq I' ρ' v u->b4 I' ρ' cx σ env s'.heap->Gd H0 I' ρ' R1 s'.heap->Q u s'):ar (ay pw w) A (ed e env) Q E s:=
 ao (h A E I ρ env s hR G O) (λu s' ⟨I',ρ',x,hu⟩=>k I' ρ' u s' x hu (O.step x) x.good) λζ ζ e=>e
theorem Cs.then{b:Bool}(h:Cs H0 w n cx e σ R b R1)(hR:cC H0 A (n+1))(G:Gd H0 I ρ R s.heap)(O:b4 I ρ cx σ env s.heap){Q:Bool->ag->Prop}
  (k:∀I' ρ' s',a8 H0 eb I ρ s I' ρ' R1 s'->b4 I' ρ' cx σ env s'.heap->Gd H0 I' ρ' R1 s'.heap->Q b s'):ar (ay pw w) A (isTrue e env (ed e env)) Q E s:=
 ao (h A E I ρ env s hR G O) (λu s' ⟨I',ρ',x,hu⟩=>hu▸k I' ρ' s' x (O.step x) x.good) λζ ζ e=>e
theorem qm.then{es:List Expr}{vs:List PV}{pos:dN}(h:qm H0 w n cx es σ R vs R1)(hR:cC H0 A (n+1))(G:Gd H0 I ρ R s.heap)(O:b4 I ρ cx σ env s.heap){Q:List af->ag->Prop}
  (k:∀I' ρ' us s',a8 H0 eb I ρ s I' ρ' R1 s'->aY I' ρ' vs us->b4 I' ρ' cx σ env s'.heap->Gd H0 I' ρ' R1 s'.heap->Q us s'):ar (ay pw w) A (spliced (hO pos (bS es env))) Q E s:=
 ao (h A E I ρ env pos s hR G O) (λu s' ⟨I',ρ',x,hu⟩=>k I' ρ' u s' x hu (O.step x) x.good) λζ ζ e=>e
theorem H8{op:cy}{pos:dN}{x y:PV}(h1:dM H0 w n cx l σ R x R1)(h2:dM H0 w n cx r σ R1 y R2)(h3:yu op x y=some v):dM H0 w n cx (.BinOp l op r pos) σ R v R2:=by
 intro A E I ρ env s hR G O
 refine wpAny_BinOp (h1.then hR G O λI1 ρ1 u1 s1 x1 hu1 O1 G1=>h2.then hR G1 O1 λI2 ρ2 u2 s2 x2 hu2 O2 G2=>?_)
 exact ao (Am G2 h3 (hu1.le x2) hu2) (λu s' q=>fM.mono_ G (x1.trans G x2) q) λζ ζ e=>e
theorem H6{pos:dN}{c:Bool}(h1:Cs H0 w n cx t σ R c R1)(h2:dM H0 w n cx (bif c then a else b) σ R1 v R2):dM H0 w n cx (.IfExp t a b pos) σ R v R2:=by
 intro A E I ρ env s hR G O
 refine wpAny_IfExp (h1.then hR G O λI1 ρ1 s1 x1 O1 G1=>?_)
 cases c with
 | true=>exact h2.then hR G1 O1 λI2 ρ2 u2 s2 x2 hu2 O2 G2=>⟨I2,ρ2,x1.trans G x2,hu2⟩
 | false=>exact h2.then hR G1 O1 λI2 ρ2 u2 s2 x2 hu2 O2 G2=>⟨I2,ρ2,x1.trans G x2,hu2⟩
theorem yc{es:List Expr}{vs:List PV}{pos:dN}(h:qm H0 w n cx es σ R vs R1)(hv:mkL vs=some v):dM H0 w n cx (.List es pos) σ R v R1:=by
 intro A E I ρ env s hR G O
 obtain⟨hl,rfl⟩:=oq hv
 refine wpAny_List (h.then hR G O λI1 ρ1 us s1 x1 hu O1 G1=>⟨?_,?_⟩)
 ·rw [hu.length];exact ga hl
 ·exact fM.mono_ G x1 (iP G1 hu hl _)
theorem H2{es:List Expr}{vs:List PV}{k:Nat}{pos:dN}(h:qm H0 w n cx es σ R vs R1)(hv:mkT vs=some v):dM H0 w n cx (.Tuple es k pos) σ R v R1:=by
 intro A E I ρ env s hR G O
 obtain⟨hl,rfl⟩:=om hv
 refine wpAny_Tuple (h.then hR G O λI1 ρ1 us s1 x1 hu O1 G1=>⟨?_,?_⟩)
 ·rw [hu.length];exact ga hl
 ·exact fM.mono_ G x1 (js G1 hu hl _)
theorem tO:qm H0 w n cx [] σ R [] R:=by
 intro A E I ρ env pos s hR G O
 exact wpAny_items_nil ⟨I,ρ,a8.self G nb,aY.nil⟩
theorem rg{es:List Expr}{vs:List PV}(h1:dM H0 w n cx e σ R v R1)(h2:qm H0 w n cx es σ R1 vs R2)(he:∀env:d9,bS (e::es) env=(false,ed e env)::bS es env):qm H0 w n cx (e::es) σ R (v::vs) R2:=by
 intro A E I ρ env pos s hR G O
 refine wpAny_items_cons (h1.then hR G O λI1 ρ1 u1 s1 x1 hu1 O1 G1=>h2.then hR G1 O1 λI2 ρ2 us s2 x2 hu2 O2 G2=>?_) (he env)
 refine⟨I2,ρ2,x1.trans G x2,?_⟩
 exact⟨u1,us,rfl,hu1.le x2,hu2⟩
theorem JH{op:BoolOp}(hop:op = .And\/op = .Or):Fw H0 w n cx op [] σ R (op == .And) R:=by
 intro A E I ρ env s hR G O
 rcases hop with rfl | rfl
 ·exact wpAny_allTrue_And_nil (kP G)
 ·exact wpAny_allTrue_Or_nil (kP G)
theorem j4{op:BoolOp}{es:List Expr}{c:Bool}(h1:Cs H0 w n cx e σ R c R1)(hc:(c==(op == .Or))=true):Fw H0 w n cx op (e::es) σ R c R1:=by
 intro A E I ρ env s hR G O
 cases op with
 | And=>
  refine FO (h1.then hR G O λI1 ρ1 s1 x1 O1 G1=>?_)
  cases c with
  | true=>exact absurd hc (by decide)
  | false=>exact⟨I1,ρ1,x1,rfl⟩
 | Or=>
  refine Jb (h1.then hR G O λI1 ρ1 s1 x1 O1 G1=>?_)
  cases c with
  | false=>exact absurd hc (by decide)
  | true=>exact⟨I1,ρ1,x1,rfl⟩
theorem nX{op:BoolOp}{es:List Expr}{c d:Bool}(h1:Cs H0 w n cx e σ R c R1)(hc:(c==(op == .Or))=false)(h2:Fw H0 w n cx op es σ R1 d R2):Fw H0 w n cx op (e::es) σ R d R2:=by
 intro A E I ρ env s hR G O
 have fin:∀{I1 ρ1 s1},a8 H0 eb I ρ s I1 ρ1 R1 s1->b4 I1 ρ1 cx σ env s1.heap->Gd H0 I1 ρ1 R1 s1.heap->ar (ay pw w) A (allTrue op es env) (ry H0 I ρ s d R2) E s1:=λx1 O1 G1=>
  ao (h2 A E _ _ env _ hR G1 O1) (λu s' q=>ry.mono_ G x1 q) λζ ζ e=>e
 cases op with
 | And=>
  refine FO (h1.then hR G O λI1 ρ1 s1 x1 O1 G1=>?_)
  cases c with
  | true=>exact fin x1 O1 G1
  | false=>exact absurd hc (by decide)
 | Or=>
  refine Jb (h1.then hR G O λI1 ρ1 s1 x1 O1 G1=>?_)
  cases c with
  | false=>exact fin x1 O1 G1
  | true=>exact absurd hc (by decide)
theorem Ba{pos:dN}{c:Bool}(h:Cs H0 w n cx e σ R c R1):Cs H0 w n cx (.UnaryOp .Not e pos) σ R (!c) R1:=by
 intro A E I ρ env s hR G O
 exact wpAny_isTrue_Not (h.then hR G O λI1 ρ1 s1 x1 O1 G1=>⟨I1,ρ1,x1,rfl⟩)
theorem Gb{op:BoolOp}{es:List Expr}{pos:dN}{c:Bool}(h:Fw H0 w n cx op es σ R c R1):Cs H0 w n cx (.BoolOp op es pos) σ R c R1:=by
 intro A E I ρ env s hR G O
 exact wpAny_isTrue_BoolOp (h A E I ρ env s hR G O)
theorem i9{op:mX}{pos:dN}{c:Bool}(h:On H0 w n cx l op r σ R c R1):Cs H0 w n cx (.Compare l [op] [r] pos) σ R c R1:=by
 intro A E I ρ env s hR G O
 refine wpAny_isTrue_Compare1 (ao (h.2 A E I ρ env s hR G O) (λa s1 h1=>ao h1 (λb s2 h2=>ao h2 (λu s3 h3=>?_) λζ ζ e=>e) λζ ζ e=>e) λζ ζ e=>e) h.1
 obtain⟨I',ρ',x,hu⟩:=h3
 cases hu
 exact gk ⟨I',ρ',x,rfl⟩
theorem NX{op:mX}{pos:dN}{c:Bool}(h:On H0 w n cx l op r σ R c R1):dM H0 w n cx (.Compare l [op] [r] pos) σ R (.bool c) R1:=by
 intro A E I ρ env s hR G O
 exact wpAny_Compare1 (h.2 A E I ρ env s hR G O) h.1
end
end
end Mine
end
section
namespace Mine
noncomputable section
noncomputable def Mi(I:dC)(ρ:dH):Fl->Flow->Prop
 | .next,f=>f = .next
 | .brk,f=>f = .brk
 | .cont,f=>f = .cont
 | .ret v,f=>∃u,f = .ret u/\cq I ρ v u
inductive th(H0:Bs)(I:dC)(ρ:dH)(s:ag)(env:d9)(cx:Cx)(f:Fl)(σ':bq)(R':List aO)(fl:Flow)(s':ag):Prop
 | mk (I':dC) (ρ':dH) (x:a8 H0 (mI env) I ρ s I' ρ' R' s') (O:b4 I' ρ' cx σ' env s'.heap) (h:Mi I' ρ' f fl):th H0 I ρ s env cx f σ' R' fl s'
inductive vA(H0:Bs)(I:dC)(ρ:dH)(s:ag)(env:d9)(cx:Cx)(σ':bq)(R':List aO)(u:Unit)(s':ag):Prop
 | mk (I':dC) (ρ':dH) (x:a8 H0 (mI env) I ρ s I' ρ' R' s') (O:b4 I' ρ' cx σ' env s'.heap):vA H0 I ρ s env cx σ' R' u s'
section
variable (H0:Bs) (w:bF) (n:Nat)
noncomputable def yN(cx:Cx)(st:ip)(σ:bq)(R:List aO)(f:Fl)(σ':bq)(R':List aO):Prop:=
 ∀(A:bD) (E:af->ag->Prop) (I:dC) (ρ:dH) (env:d9) (s:ag),cC H0 A (n+1)->Gd H0 I ρ R s.heap->b4 I ρ cx σ env s.heap ->
  ar (ay pw w) A (exec st env) (th H0 I ρ s env cx f σ' R') E s
noncomputable def Cz(cx:Cx)(ss:List ip)(σ:bq)(R:List aO)(f:Fl)(σ':bq)(R':List aO):Prop:=
 ∀(A:bD) (E:af->ag->Prop) (I:dC) (ρ:dH) (env:d9) (s:ag),cC H0 A (n+1)->Gd H0 I ρ R s.heap->b4 I ρ cx σ env s.heap ->
  ar (ay pw w) A (execs ss env) (th H0 I ρ s env cx f σ' R') E s
noncomputable def Ax(cx:Cx)(st:ip)(σ:bq)(R:List aO)(y:FS):Prop:=yN H0 w n cx st σ R y.1 y.2.1 y.2.2
noncomputable def CA(cx:Cx)(ss:List ip)(σ:bq)(R:List aO)(y:FS):Prop:=Cz H0 w n cx ss σ R y.1 y.2.1 y.2.2
noncomputable def Ol(cx:Cx)(e:Expr)(σ:bq)(R:List aO)(y:Bool × List aO):Prop:=Cs H0 w n cx e σ R y.1 y.2
noncomputable def ti(cx:Cx)(e:Expr)(σ:bq)(R:List aO)(y:PV × List aO):Prop:=dM H0 w n cx e σ R y.1 y.2
end
section
variable {H0:Bs} {w:bF} {n m:Nat} {sp:Spec} {I I':dC} {ρ ρ':dH} {R R' R1 R2:List aO} {cx:Cx} {σ σ' σ1 σ2:bq} {env:d9} {A:bD} {E:af->ag->Prop} {s s':ag} {e l r t a b:Expr} {v:PV} {f:Fl}
theorem a8.weaken{X:aB->Prop}(x:a8 H0 eb I ρ s I' ρ' R' s'):a8 H0 X I ρ s I' ρ' R' s':=
 ⟨x.le,x.pre,x.new,λa o hn e=>x.keep a o (λh=>h.elim (λh=>hn (av h)) nC) e,x.alive,x.good,x.os,x.gens⟩
theorem iQ(σ:bq)(x y:Str)(v:PV):(iF σ x v).lookup y=if y=x then some v else σ.lookup y:=by
 induction σ with
 | nil=>
  show fF y [(x,v)]=_
  rw [a9]
  by_cases h:y=x
  ·subst h;simp
  ·have:(y==x)=false:=beq_eq_false_iff_ne.mpr h
   rw [this,if_neg h]
 | cons p r ih=>
  obtain⟨k,u⟩:=p
  rw [n8]
  by_cases hk:k=x
  ·subst hk
   rw [if_pos (by simp),a9,a9]
   by_cases h:y=k
   ·subst h;simp
   ·have:(y==k)=false:=beq_eq_false_iff_ne.mpr h
    rw [this,if_neg h]
  ·rw [if_neg (by simpa using hk),a9,a9,ih]
   cases hy:y==k with
   | true=>
    have e:=aJ hy
    subst e
    simp only [if_neg hk]
   | false=>rfl
theorem ug(G:Gd H0 I ρ R s.heap)(O:b4 I ρ cx σ env s.heap){x:Str}{u:af}(hs:qG cx σ x v=some σ')(hu:cq I ρ v u):ar (ay pw w) A (storeName env x u) (vA H0 I ρ s env cx σ' R) E s:=by
 obtain⟨hk,hs⟩:=nl hs
 cases hs
 obtain⟨m,h1,h2⟩:=O.ns
 simp only [QG,fT,beq_iff_eq]at hk
 have hgl:gl cx x=false:=by
  unfold gl
  rcases hk with hk | hk<;>rw [hk]<;>rfl
 have cellLoc:∀y c,env.cells.lookup y=some c->s.heap.IsCell c none\/(∃u,s.heap.IsCell c u)->c≠env.locals:=λy c ζ h hc=>by
  obtain⟨o1,e1,n1,g1,d1,_⟩:=h1
  subst hc
  have:∃u,s.heap.IsCell env.locals u:=h.elim (λh=>⟨_,h⟩) id
  obtain⟨u,o2,g2,d2⟩:=this
  rw [g1]at g2
  cases g2
  rw [d1]at d2
  cases d2
 rcases hk with hk | hk
 ·refine wpAny_storeName_local (O.loc x hk) h1 (λh' hn hs=>?_) (by rw [O.kf];rfl)
  have kp:∀a o,a≠env.locals->s.heap.get? a=some o->h'.get? a=some o:=λa o ha e=>(hs.2 a ha).trans e
  have al:h'.get? env.locals≠none:=by
   obtain⟨o,_,_,g,_⟩:=hn
   rw [g];exact λh=>nomatch h
  have st:a8 H0 (mI env) I ρ s I ρ R { s with heap:=h',toks:=s.toks+1 }:=a8.quietX G (λa ha h=>O.sepW a ha h) (λa o ha e=>kp a o (λh=>ha (av h)) e)
   (λa ha h=>by
    by_cases ha':a=env.locals
    ·rw [ha'];exact al
    ·obtain⟨o,e⟩:=bj.mp h
     show h'.get? a≠none
     rw [kp a o ha' e];exact λh=>nomatch h) rfl rfl (λa ζ ha=>by
    by_cases ha':a=env.locals
    ·obtain⟨o,es,ep,g,d,_⟩:=hn
     exact⟨o,es,ep,by rw [ha'];exact g,d⟩
    ·obtain⟨_,o,es,ep,g,d⟩:=G.stk a ha
     exact⟨o,es,ep,kp a o ha' g,d⟩)
  refine⟨I,ρ,st,O.kf,O.gle,O.ble,O.glo,O.loc,O.fn,O.cek,λy kk hy hkk=>?_,⟨_,hn,λy pv hy=>?_⟩,O.sep,O.apart,λa ha=>st.alive a (O.alive a ha),O.dbg,O.law⟩
  ·obtain⟨g1,c,v0,g2,g3⟩:=O.cel y kk hy hkk
   refine⟨g1,c,v0,g2,g3.sameBut hs (cellLoc y c g2 (an ⟨_,g3⟩))⟩
  ·rw [jO,iQ]at hy
   by_cases hyx:y=x
   ·subst hyx
    rw [if_pos rfl]at hy
    cases hy
    exact⟨hgl,av ⟨O.loc y hk,u,if_pos rfl,hu⟩⟩
   ·rw [if_neg hyx]at hy
    obtain⟨g1,g2⟩:=h2 y pv hy
    refine⟨g1,?_⟩
    rcases g2 with ⟨g2,u',g3,g4⟩ | ⟨g2,c,u',g3,g4,g5⟩
    ·exact av ⟨g2,u',(if_neg hyx).trans g3,g4⟩
    ·exact an ⟨g2,c,u',g3,g4.sameBut hs (cellLoc y c g3 (an ⟨_,g4⟩)),g5⟩
 ·have k1:=O.cek x hk
  obtain⟨_,c,v0,k2,k3⟩:=O.cel x _ hk (av rfl)
  refine wpAny_storeName_cell O.kf k1 k2 k3 λh' hn hs=>?_
  have kp:∀a o,a≠c->s.heap.get? a=some o->h'.get? a=some o:=λa o ha e=>(hs.2 a ha).trans e
  have al:h'.get? c≠none:=by
   obtain⟨o,g,_⟩:=hn
   rw [g];exact λh=>nomatch h
  have hcl:=cellLoc x c k2 (an ⟨_,k3⟩)
  have st:a8 H0 (mI env) I ρ s I ρ R { s with heap:=h' }:=a8.quietX G (λa ha h=>O.sepW a ha h) (λa o ha e=>kp a o (λh=>ha (an ⟨O.fn x hk,x,h▸k2⟩)) e)
   (λa ha h=>by
    by_cases ha':a=c
    ·rw [ha'];exact al
    ·obtain⟨o,e⟩:=bj.mp h
     show h'.get? a≠none
     rw [kp a o ha' e];exact λh=>nomatch h) rfl rfl (λa ζ ha=>by
    obtain⟨_,o,es,ep,g,d⟩:=G.stk a ha
    by_cases ha':a=c
    ·obtain⟨o2,g2,d2⟩:=k3
     rw [ha']at g
     rw [g]at g2
     cases g2
     rw [d]at d2
     cases d2
    ·exact⟨o,es,ep,kp a o ha' g,d⟩)
  have other:∀y c',env.cells.lookup y=some c'->y≠x->c'≠c:=λy c' hy hne hc=>by
   subst hc
   exact hne (O.apart y x c' hy k2)
  refine⟨I,ρ,st,O.kf,O.gle,O.ble,O.glo,O.loc,O.fn,O.cek,λy kk hy hkk=>?_,⟨m,h1.sameBut hs (di hcl),λy pv hy=>?_⟩,O.sep,O.apart,λa ha=>st.alive a (O.alive a ha),O.dbg,O.law⟩
  ·obtain⟨g1,c',v0',g2,g3⟩:=O.cel y kk hy hkk
   by_cases hyx:y=x
   ·subst hyx
    rw [k2]at g2
    cases g2
    exact⟨g1,c,_,k2,hn⟩
   ·exact⟨g1,c',v0',g2,g3.sameBut hs (other y c' g2 hyx)⟩
  ·rw [jO,iQ]at hy
   by_cases hyx:y=x
   ·subst hyx
    rw [if_pos rfl]at hy
    cases hy
    exact⟨hgl,an ⟨av k1,c,u,k2,hn,hu⟩⟩
   ·rw [if_neg hyx]at hy
    obtain⟨g1,g2⟩:=h2 y pv hy
    refine⟨g1,?_⟩
    rcases g2 with ⟨g2,u',g3,g4⟩ | ⟨g2,c',u',g3,g4,g5⟩
    ·exact av ⟨g2,u',g3,g4⟩
    ·exact an ⟨g2,c',u',g3,g4.sameBut hs (other y c' g3 hyx),g5⟩
theorem th.mono_{R'':List aO}(G:Gd H0 I ρ R s.heap)(x:a8 H0 (mI env) I ρ s I' ρ' R' s'){fl:Flow}{s'':ag}(h:th H0 I' ρ' s' env cx f σ' R'' fl s''):th H0 I ρ s env cx f σ' R'' fl s'':=by
 obtain⟨I2,ρ2,y,O,r⟩:=h
 exact⟨I2,ρ2,x.trans G y,O,r⟩
theorem vA.mono_{R'':List aO}(G:Gd H0 I ρ R s.heap)(x:a8 H0 (mI env) I ρ s I' ρ' R' s'){s'':ag}(h:vA H0 I' ρ' s' env cx σ' R'' () s''):vA H0 I ρ s env cx σ' R'' () s'':=by
 obtain⟨I2,ρ2,y,r⟩:=h
 exact⟨I2,ρ2,x.trans G y,r⟩
theorem Dy:Cz H0 w n cx [] σ R .next σ R:=by
 intro A E I ρ env s hR G O
 exact lZ ⟨I,ρ,a8.self G O.sepW,O,rfl⟩
theorem HT{st:ip}{ss:List ip}(h1:yN H0 w n cx st σ R .next σ1 R1)(h2:Cz H0 w n cx ss σ1 R1 f σ2 R2):Cz H0 w n cx (st::ss) σ R f σ2 R2:=by
 intro A E I ρ env s hR G O
 refine kR (ao (h1 A E I ρ env s hR G O) (λfl s1 q=>?_) λζ ζ e=>e)
 obtain⟨I1,ρ1,x1,O1,hf⟩:=q
 have hf:fl = .next:=hf
 subst hf
 exact ao (h2 A E I1 ρ1 env s1 hR x1.good O1) (λfl2 s2 q=>th.mono_ G x1 q) λζ ζ e=>e
theorem rf{st:ip}{ss:List ip}(h1:yN H0 w n cx st σ R f σ1 R1)(hf:f ≠ .next):Cz H0 w n cx (st::ss) σ R f σ1 R1:=by
 intro A E I ρ env s hR G O
 refine kR (ao (h1 A E I ρ env s hR G O) (λfl s1 q=>?_) λζ ζ e=>e)
 have q':=q
 obtain⟨I1,ρ1,x1,O1,hf'⟩:=q'
 cases f with
 | next=>exact absurd rfl hf
 | brk=>have hf':fl = .brk:=hf';subst hf';exact q
 | cont=>have hf':fl = .cont:=hf';subst hf';exact q
 | ret v=>obtain⟨u,rfl,_⟩:=hf';exact q
theorem LY{pos:dN}{ss ts:List ip}{c:Bool}(h1:Cs H0 w n cx t σ R c R1)(h2:Cz H0 w n cx (bif c then ss else ts) σ R1 f σ2 R2):yN H0 w n cx (.If t ss ts pos) σ R f σ2 R2:=by
 intro A E I ρ env s hR G O
 refine wpAny_If (h1.then hR G O λI1 ρ1 s1 x1 O1 G1=>?_)
 cases c with
 | true=>exact ao (h2 A E I1 ρ1 env s1 hR G1 O1) (λfl2 s2 q=>th.mono_ G x1.weaken q) λζ ζ e=>e
 | false=>exact ao (h2 A E I1 ρ1 env s1 hR G1 O1) (λfl2 s2 q=>th.mono_ G x1.weaken q) λζ ζ e=>e
theorem HW{pos:dN}:yN H0 w n cx (.Break pos) σ R .brk σ R:=λA E I ρ env s hR G O=>wpAny_Break ⟨I,ρ,a8.self G O.sepW,O,rfl⟩
theorem z6{pos:dN}:yN H0 w n cx (.Continue pos) σ R .cont σ R:=λA E I ρ env s hR G O=>wpAny_Continue ⟨I,ρ,a8.self G O.sepW,O,rfl⟩
theorem KQ{pos:dN}:yN H0 w n cx (.Pass pos) σ R .next σ R:=λA E I ρ env s hR G O=>wpAny_Pass ⟨I,ρ,a8.self G O.sepW,O,rfl⟩
set_option tactic.hygienic true in
theorem gE{pos:dN}(h:dM H0 w n cx e σ R v R1)(hv:qP v=true)(hs:∀env:d9,xi e none pos.line env=b7 false):yN H0 w n cx (.Expr e pos) σ R .next σ R1:=by
 intro A E I ρ env s hR G O
 refine wpAny_Expr (h.then hR G O λI1 ρ1 u s1 x1 hu O1 G1=>?_) (by unfold interactive;rw [O.kf];rfl) (hs env)
 have q:th H0 I ρ s env cx .next σ R1 .next s1:=⟨I1,ρ1,x1.weaken,O1,rfl⟩
 cases v
 case none=>exact hu.none_el q
 case str=>exact hu.str_el λζ ζ ζ=>q
 all_goals exact(bc hv).elim
theorem NS{pos:dN}{ss:List ip}{hd:tw}{hs:List tw}(h:Cz H0 w n cx ss σ R f σ1 R1):yN H0 w n cx (.Try ss (hd::hs) [] [] pos) σ R f σ1 R1:=by
 intro A E I ρ env s hR G O
 refine wpAny_Try_except (ao (h A _ I ρ env s hR G O) (λfl s1 q=>?_) λζ ζ e=>e)
 have q':=q
 obtain⟨I1,ρ1,x1,O1,hf'⟩:=q'
 cases f with
 | next=>have hf':fl = .next:=hf';subst hf';exact lZ q
 | brk=>have hf':fl = .brk:=hf';subst hf';exact q
 | cont=>have hf':fl = .cont:=hf';subst hf';exact q
 | ret v=>obtain⟨u,rfl,_⟩:=hf';exact q
set_option tactic.hygienic true in
theorem t9{RR:fS->ag->Prop}{t:Expr}{body:List ip}(Inv:Nat->ag->Prop)(turn:∀(E':af->ag->Prop) (D:Bool->ag->Prop) (Q:Flow->ag->Prop) (k:Nat) (s:ag),Inv k s->(∀s',RR (.ok .next) s'->D false s')->(∀s',ar (ay pw w) A (execs body env) Q E' s'->D true s') ->
   (∀m s',m<k->Inv m s'->Q .next s'/\Q .cont s')->(∀s',RR (.ok .next) s'->Q .brk s')->(∀v s',RR (.ok (.ret v)) s'->Q (.ret v) s')->ar (ay pw w) A (isTrue t env (ed t env)) D E' s)
  (n:Nat)(h:Inv n s):cB (ay pw w) A (.whileLoop t body [] env) RR s:=
 codeAny_whileLoop Inv (λk s h=>turn _ _ _ k s h (λs' h=>lZ h) (λs' h=>h) (λm s' a b=>⟨⟨m,a,b⟩,⟨m,a,b⟩⟩) (λs' h=>h) (λv s' h=>h)) n h
inductive VW(H0:Bs)(cx:Cx)(env:d9)(tt:bq->List aO->Option (Bool × List aO))(bb:bq->List aO->Option FS)(z:FS)(I:dC)(ρ:dH)(s:ag)(k:Nat)(s':ag):Prop
 | mk (I':dC) (ρ':dH) (σ:bq) (R:List aO) (h:A6 tt bb k σ R=some z) (x:a8 H0 (mI env) I ρ s I' ρ' R s') (O:b4 I' ρ' cx σ env s'.heap):VW H0 cx env tt bb z I ρ s k s'
set_option tactic.hygienic true in
theorem A4{ss:List ip}{tt:bq->List aO->Option (Bool × List aO)}{bb:bq->List aO->Option FS}{RR:fS->ag->Prop}{z:FS}(hR:cC H0 A (n+1))(ht:∀σ R,az (Ol H0 w n cx t σ R) (tt σ R))(hb:∀σ R,az (CA H0 w n cx ss σ R) (bb σ R))(G:Gd H0 I ρ R s.heap)(O:b4 I ρ cx σ env s.heap)
  (hRR:∀fl s',th H0 I ρ s env cx z.1 z.2.1 z.2.2 fl s'->RR (.ok fl) s')(k:Nat)(h:A6 tt bb k σ R=some z):cB (ay pw w) A (.whileLoop t ss [] env) RR s:=by
 refine t9 (VW H0 cx env tt bb z I ρ s) (λE' D Q k s1 q1 hD hDs hn hb' hr=>?_) k ⟨I,ρ,σ,R,h,a8.self G O.sepW,O⟩
 obtain⟨I1,ρ1,σ1,R1,h,x1,O1⟩:=q1
 cases k with
 | zero=>cases h
 | succ k=>
  obtain⟨c,R2,e1,h⟩:=gF h
  refine Cs.then (ht σ1 R1 _ e1) hR x1.good O1 λI2 ρ2 s2 x2 O2 G2=>?_
  have x12:=x1.trans G x2.weaken
  cases c with
  | false=>
   cases h
   exact hD s2 (hRR .next s2 ⟨I2,ρ2,x12,O2,rfl⟩)
  | true=>
   obtain⟨f3,y3,e2,h⟩:=gF (x:=bb σ1 R2) (k:=λf y=>lf f y (A6 tt bb k y.1 y.2)) h
   refine hDs s2 (ao (hb σ1 R2 _ e2 A _ I2 ρ2 env s2 hR G2 O2) (λfl s3 q3=>?_) λζ ζ e=>e)
   obtain⟨I3,ρ3,x3,O3,hf3⟩:=q3
   have x13:=x12.trans G x3
   cases f3 with
   | next=>exact fb hf3▸(hn k s3 (dz k) ⟨I3,ρ3,_,_,h,x13,O3⟩).1
   | cont=>exact fb hf3▸(hn k s3 (dz k) ⟨I3,ρ3,_,_,h,x13,O3⟩).2
   | brk=>
    cases h
    exact fb hf3▸hb' s3 (hRR .next s3 ⟨I3,ρ3,x13,O3,rfl⟩)
   | ret v=>
    cases h
    obtain⟨u,rfl,hu⟩:=hf3
    exact hr u s3 (hRR _ s3 ⟨I3,ρ3,x13,O3,u,rfl,hu⟩)
theorem HU{pos:dN}{ss:List ip}{tt:bq->List aO->Option (Bool × List aO)}{bb:bq->List aO->Option FS}(ht:∀σ R,az (Ol H0 w n cx t σ R) (tt σ R))(hb:∀σ R,az (CA H0 w n cx ss σ R) (bb σ R))(k:Nat) :
  az (Ax H0 w n cx (.While t ss [] pos) σ R) (A6 tt bb k σ R):=λz h A E I ρ env s hR G O=>
 wpAny_While (A4 hR ht hb G O (λζ ζ h=>h) k h)
end
end
end Mine
end
section
namespace Mine
noncomputable section
structure aS(H0:Bs)(X Z:aB->Prop)(I:dC)(ρ:dH)(s:ag)(I':dC)(ρ':dH)(R':List aO)(s':ag):Prop where
 le:∀a o,I a=some o->I' a=some o
 pre:∃δ,ρ'=ρ++δ
 new:∀a,fL I' ρ' a->fL I ρ a\/s.heap.get? a=none\/Z a
 keep:Qx (λa=>own ρ a\/X a\/Z a) s.heap s'.heap
 alive:∀a,¬Z a->s.heap.get? a≠none->s'.heap.get? a≠none
 good:Gd H0 I' ρ' R' s'.heap
 os:s'.os=s.os
 gens:s'.gens=s.gens
section
variable {H0:Bs} {w:bF} {n m:Nat} {sp:Spec} {I I' I'':dC} {ρ ρ' ρ'':dH} {R R' R'' R1 R2:List aO} {cx:Cx} {σ σ' σ1 σ2:bq} {env:d9} {A:bD} {E:af->ag->Prop} {s s' s'':ag} {e l r t a b:Expr} {v:PV} {f:Fl} {X Y Z:aB->Prop}
theorem a8.z(x:a8 H0 X I ρ s I' ρ' R' s'):aS H0 X Z I ρ s I' ρ' R' s':=
 ⟨x.le,x.pre,λa h=>(x.new a h).imp id av,λa o hn e=>x.keep a o (λh=>hn (h.imp id av)) e,λa ζ=>x.alive a,x.good,x.os,x.gens⟩
theorem aS.weaken(x:aS H0 X Z I ρ s I' ρ' R' s')(h:∀a,X a->Y a):aS H0 Y Z I ρ s I' ρ' R' s':=
 ⟨x.le,x.pre,x.new,λa o hn e=>x.keep a o (λq=>hn (q.imp id λq=>q.imp (h a) id)) e,x.alive,x.good,x.os,x.gens⟩
theorem aS.moreZ{Z':aB->Prop}(x:aS H0 X Z I ρ s I' ρ' R' s')(h:∀a,Z a->Z' a):aS H0 X Z' I ρ s I' ρ' R' s':=
 ⟨x.le,x.pre,λa q=>(x.new a q).imp id λq=>q.imp id (h a),λa o hn e=>x.keep a o (λq=>hn (q.imp id λq=>q.imp id (h a))) e,λa hz=>x.alive a λq=>hz (h a q),x.good,x.os,x.gens⟩
theorem aS.trans(G:Gd H0 I ρ R s.heap)(x:aS H0 X Z I ρ s I' ρ' R' s')(y:aS H0 X Z I' ρ' s' I'' ρ'' R'' s''):aS H0 X Z I ρ s I'' ρ'' R'' s'' where
 le:=λa o h=>y.le a o (x.le a o h)
 pre:=by
  obtain⟨d,rfl⟩:=x.pre
  obtain⟨e,rfl⟩:=y.pre
  exact⟨d++e,aQ ..⟩
 new:=λa h=>by
  rcases y.new a h with h | h | h
  ·exact x.new a h
  ·by_cases hz:Z a
   ·exact an (an hz)
   ·right;left
    cases e:s.heap.get? a with
    | none=>rfl
    | some o=>exact absurd h (x.alive a hz (by rw [e];exact λh=>nomatch h))
  ·exact an (an h)
 keep:=λa o hn h=>by
  by_cases hi:I a=none
  ·obtain⟨o1,h1,l1⟩:=x.keep a o hn h
   refine(λ⟨o2,h2,l2⟩=>⟨o2,h2,l1.trans l2⟩) (y.keep a o1 (λhx=>?_) h1)
   rcases hx with hx | hx
   ·rcases x.new a (an hx)with (h1 | h1) | h1 | h1
    ·exact h1 hi
    ·exact hn (av h1)
    ·rw [h]at h1;cases h1
    ·exact hn (an (an h1))
   ·exact hn (an hx)
  ·obtain⟨o1,h1⟩:=bj.mp hi
   have:=G.imm a o1 h1
   rw [h]at this
   cases this
   exact⟨o,y.good.imm a o (y.le a o (x.le a o h1)),kJ.refl o⟩
 alive:=λa hz h=>y.alive a hz (x.alive a hz h)
 good:=y.good
 os:=y.os.trans x.os
 gens:=y.gens.trans x.gens
theorem aS.close(G:Gd H0 I ρ R s.heap)(x:a8 H0 X I ρ s I' ρ' R' s')(y:aS H0 X Z I' ρ' s' I'' ρ'' R'' s'')(hz:∀a,Z a->s.heap.get? a=none):a8 H0 X I ρ s I'' ρ'' R'' s'':=by
 have q:=aS.trans G (x.z (Z:=Z)) y
 refine⟨q.le,q.pre,λa h=>?_,λa o hn h=>q.keep a o (λk=>?_) h,λa h=>q.alive a (λk=>h (hz a k)) h,q.good,q.os,q.gens⟩
 ·rcases q.new a h with h | h | h
  ·exact av h
  ·exact an h
  ·exact an (hz a h)
 ·rcases k with k | k | k
  ·exact hn (av k)
  ·exact hn (an k)
  ·rw [hz a k]at h;cases h
theorem cq.leZ{v:PV}{u:af}(x:aS H0 X Z I ρ s I' ρ' R' s')(h:cq I ρ v u):cq I' ρ' v u:=by
 obtain⟨d,rfl⟩:=x.pre
 exact cq.mono x.le v u h
theorem aY.leZ{v:List PV}{u:List af}(x:aS H0 X Z I ρ s I' ρ' R' s')(h:aY I ρ v u):aY I' ρ' v u:=by
 obtain⟨d,rfl⟩:=x.pre
 exact aY.mono x.le v u h
theorem b4.stepZ(O:b4 I ρ cx σ env s.heap)(x:aS H0 X Z I ρ s I' ρ' R' s')(hx:∀a,X a->¬kK env a)(hz:∀a,Z a->¬kK env a):b4 I' ρ' cx σ env s'.heap:=by
 have kp:∀a o,kK env a->s.heap.get? a=some o->∃o',s'.heap.get? a=some o'/\o'.data=o.data:=λa o ha e=>(λ⟨o',h1,h2⟩=>⟨o',h1,h2.data⟩) (x.keep a o (λh=>by
  rcases h with h | h | h
  ·exact O.sep a ha (an h)
  ·exact hx a h ha
  ·exact hz a h ha) e)
 refine⟨O.kf,O.gle,O.ble,O.glo,O.loc,O.fn,O.cek,λy k hy hk=>?_,?_,λa ha h=>?_,O.apart,λa ha=>x.alive a (λh=>hz a h ha) (O.alive a ha),O.dbg,O.law⟩
 ·obtain⟨h1,c,v,h2,o,h3,h4⟩:=O.cel y k hy hk
  obtain⟨o',k1,k2⟩:=kp c o (an ⟨y,h2⟩) h3
  exact⟨h1,c,v,h2,o',k1,k2.trans h4⟩
 ·obtain⟨m,⟨o,es,ep,h1,h2,h2'⟩,h3⟩:=O.ns
  obtain⟨o',k1,k2⟩:=kp _ o (av rfl) h1
  refine⟨m,⟨o',es,ep,k1,k2.trans h2,h2'⟩,λy v hy=>?_⟩
  obtain⟨h4,h5⟩:=h3 y v hy
  refine⟨h4,?_⟩
  rcases h5 with ⟨h5,u,h6,h7⟩ | ⟨h5,c,u,h6,⟨o,h7,h8⟩,h9⟩
  ·exact av ⟨h5,u,h6,h7.leZ x⟩
  ·obtain⟨o',k1,k2⟩:=kp c o (an ⟨y,h6⟩) h7
   exact an ⟨h5,c,u,h6,⟨o',k1,k2.trans h8⟩,h9.leZ x⟩
 ·rcases x.new a h with h | h | h
  ·exact O.sep a ha h
  ·exact O.alive a ha h
  ·exact hz a h ha
theorem aS.kept(x:aS H0 X Z I ρ s I' ρ' R' s'){a:aB}{o:jf}(e:s.heap.get? a=some o)(hd:∀es ep,o.data ≠ .dict es ep)(h1:¬own ρ a)(h2:¬X a)(h3:¬Z a):s'.heap.get? a=some o:=by
 obtain⟨o',k1,k2⟩:=x.keep a o (λq=>by rcases q with q | q | q;exact h1 q;exact h2 q;exact h3 q) e
 rw [k2.eq hd]at k1
 exact k1
theorem a8.kept(x:a8 H0 X I ρ s I' ρ' R' s'){a:aB}{o:jf}(e:s.heap.get? a=some o)(hd:∀es ep,o.data ≠ .dict es ep)(h1:¬own ρ a)(h2:¬X a):s'.heap.get? a=some o:=by
 obtain⟨o',k1,k2⟩:=x.keep a o (λq=>by rcases q with q | q;exact h1 q;exact h2 q) e
 rw [k2.eq hd]at k1
 exact k1
theorem Gd.notStk{h:fv}(G:Gd H0 I ρ R h){a:aB}{o:jf}(e:h.get? a=some o)(hd:∀es ep,o.data ≠ .dict es ep):a ∉ H0.stk:=λha=>by
 obtain⟨_,o',es,ep,g,d⟩:=G.stk a ha
 rw [e]at g
 cases g
 exact hd _ _ d
theorem Gd.freshStk{h:fv}(G:Gd H0 I ρ R h){a:aB}(e:h.get? a=none):a ∉ H0.stk:=λha=>by
 obtain⟨_,o',es,ep,g,d⟩:=G.stk a ha
 rw [e]at g
 cases g
theorem bL{o:jf}{vs:Array af}(h:o.data = .fields vs):∀es ep,o.data ≠ .dict es ep:=λes ep=>by rw [h];exact λq=>nomatch q
theorem bM{o:jf}{vs:Array af}{k:Nat}(h:o.data = .seq vs k):∀es ep,o.data ≠ .dict es ep:=λes ep=>by rw [h];exact λq=>nomatch q
theorem aS.quiet(G:Gd H0 I ρ R s.heap)(hX:∀a,Z a->¬fL I ρ a)(k:∀a o,¬Z a->s.heap.get? a=some o->s'.heap.get? a=some o)(os:s'.os=s.os)(gens:s'.gens=s.gens)(hZs:∀a,Z a->a ∉ H0.stk):aS H0 eb Z I ρ s I ρ R s' where
 le:=λζ ζ e=>e
 pre:=⟨[],(aP _).symm⟩
 new:=λζ h=>av h
 keep:=λa o hn h=>⟨o,k a o (λhx=>hn (an (an hx))) h,kJ.refl o⟩
 alive:=λa hz h=>by
  obtain⟨o,e⟩:=bj.mp h
  rw [k a o hz e]
  exact λh=>nomatch h
 good:=G.keeps (λa o ho e=>k a o (λhx=>hX a hx ho) e) λa ha ⟨o,es,ep,e,d⟩=>⟨o,es,ep,k a o (λhz=>hZs a hz ha) e,d⟩
 os:=os
 gens:=gens
inductive Qy(H0:Bs)(Z:aB->Prop)(St:List PV->dC->dH->ag->Prop)(x:PV)(r:List PV)(I:dC)(ρ:dH)(R:List aO)(s:ag)(v:af)(s2:ag):Prop
 | mk (I':dC) (ρ':dH) (st:aS H0 eb Z I ρ s I' ρ' R s2) (h:cq I' ρ' x v) (t:St r I' ρ' s2):Qy H0 Z St x r I ρ R s v s2
inductive IV(H0:Bs)(w:bF)(A:bD)(tgt:Expr)(it:af)(Z:aB->Prop)(St:List PV->dC->dH->ag->Prop)(x:PV)(r:List PV)(I:dC)(ρ:dH)(R:List aO)(s:ag)(E:af->ag->Prop)(o:Option af)(s1:ag):Prop
 | mk (v:af) (h:o=some v) (g:ar (ay pw w) A (c6 tgt it v) (λζ s2=>Qy H0 Z St x r I ρ R s v s2) E s1):IV H0 w A tgt it Z St x r I ρ R s E o s1
inductive Mh(H0:Bs)(Z:aB->Prop)(I:dC)(ρ:dH)(R:List aO)(s:ag)(o:Option af)(s1:ag):Prop
 | mk (h:o=none) (I':dC) (ρ':dH) (x:aS H0 eb Z I ρ s I' ρ' R s1):Mh H0 Z I ρ R s o s1
structure IU(H0:Bs)(w:bF)(A:bD)(tgt:Expr)(it:af)(Z:aB->Prop)(St:List PV->dC->dH->ag->Prop):Prop where
 own:∀l I ρ s,St l I ρ s->∀a,Z a->¬fL I ρ a/\s.heap.get? a≠none
 keep:∀l I ρ R s I' ρ' R' s' X0 Z0,Gd H0 I ρ R s.heap->St l I ρ s->aS H0 X0 Z0 I ρ s I' ρ' R' s'->(∀a,Z a->¬X0 a /\ ¬Z0 a)->St l I' ρ' s'
 item:∀x r I ρ R s E,Gd H0 I ρ R s.heap->St (x::r) I ρ s->ar (ay pw w) A (fR it) (IV H0 w A tgt it Z St x r I ρ R s E) E s
 self:∀l I ρ s (Q:af->ag->Prop) E,St l I ρ s->Q it s->ar (ay pw w) A (mR it) Q E s
 done:∀I ρ R s E,Gd H0 I ρ R s.heap->St [] I ρ s->ar (ay pw w) A (fR it) (Mh H0 Z I ρ R s) E s
inductive DG(H0:Bs)(w:bF)(A:bD)(tgt:Expr)(l:List PV)(I:dC)(ρ:dH)(R:List aO)(s:ag)(it:af)(s':ag):Prop
 | mk (Z:aB->Prop) (St:List PV->dC->dH->ag->Prop) (i:IU H0 w A tgt it Z St) (t:St l I ρ s') (x:a8 H0 eb I ρ s I ρ R s') (f:∀a,Z a->s.heap.get? a=none):DG H0 w A tgt l I ρ R s it s'
theorem aY.get:∀{l:List PV} {xs:List af} {i:Nat} {x:PV} {r:List PV},aY I ρ l (xs.drop i)->l=x::r->∃v,xs[i]? = some v/\cq I ρ x v/\aY I ρ r (xs.drop (i+1)):=by
 intro l xs i x r h e
 subst e
 obtain⟨v,q,h1,h2,h3⟩:=h
 have hi:i<xs.length:=by
  rcases eX i xs.length with h | h
  ·exact h
  ·rw [fE h]at h1;cases h1
 rw [bY hi]at h1
 injection h1 with h1 h4
 subst h1
 subst h4
 exact⟨_,bR hi,h2,h3⟩
theorem aY.none_{xs:List af}{i:Nat}(h:aY I ρ [] (xs.drop i)):xs.toArray[i]? = none:=by
 rw [bU]
 exact g9 (CN.mp h)
noncomputable def qh:Expr->Bool
 | .Name _ _=>true
 | _=>false
theorem BW(tgt:Expr):(∀it v,c6 tgt it v=b7 ())\/qh tgt=false /\ ∀it v,c6 tgt it v=c6 (.List [] bO) it v:=by
 cases tgt<;>first | exact av λζ ζ=>rfl | exact an ⟨rfl,λζ ζ=>rfl⟩
theorem xX{tgt:Expr}(h:qh tgt=true)(it v:af):c6 tgt it v=b7 ():=(BW tgt).elim (λe=>e it v) λe=>(bc (e.1.symm.trans h)).elim
theorem Qa{tgt:Expr}{J:aB}{o:jf}{v:af}{T:String}{vs:Array af}{Q:Unit->ag->Prop}(ho:s.heap.get? J=some o)(hc:o.cls = .type T)(hd:o.data = .fields vs)(hT:["enumerate","zip","dict_itemiterator","dict_reverseitemiterator","odict_iterator","itertools.zip_longest","itertools.pairwise"].contains T=false)(h:Q () s):ar (ay pw w) A (c6 tgt (.ref J) v) Q E s:=by
 obtain⟨c,d,dt,sl⟩:=o
 cases hc
 cases hd
 have k:∀a,ar (ay pw w) A (c6 (.List [] bO) (.ref J) (.ref a)) Q E s:=λa=>aa (pQ ho (show ar _ _ (if(_&&_)=true then _ else _) _ _ _ by rw [hT];exact ab h))
 rcases BW tgt with e | ⟨_,e⟩
 ·rw [e];exact ab h
 ·rw [e]
  cases v<;>first | exact ab h | exact k _
theorem bA{h:fv}{a:aB}(G:Gd H0 I ρ R h)(e:h.get? a=none):¬fL I ρ a:=λq=>G.lt q e
structure Pv(I:dC)(ρ:dH)(s:ag)(a:aB)(o:jf):Prop where
 at_:s.heap.get? a=some o
 nd:∀es ep,o.data ≠ .dict es ep
 no:¬fL I ρ a
theorem Pv.keep{a:aB}{o:jf}(h:Pv I ρ s a o)(x:aS H0 X Z I ρ s I' ρ' R' s')(hx:¬X a /\ ¬Z a):Pv I' ρ' s' a o:=
 ⟨x.kept h.at_ h.nd (λq=>h.no (an q)) hx.1 hx.2,h.nd,λq=>(x.new a q).elim h.no λq=>q.elim (λe=>gC (e.symm.trans h.at_)) hx.2⟩
theorem Pv.step{a:aB}{o:jf}(h:Pv I ρ s a o)(x:a8 H0 eb I ρ s I' ρ' R' s'):Pv I' ρ' s' a o:=h.keep (x.z (Z:=eb)) ⟨id,id⟩
theorem Pv.stk{a:aB}{o:jf}(h:Pv I ρ s a o)(G:Gd H0 I ρ R s.heap):a ∉ H0.stk:=G.notStk h.at_ h.nd
theorem Pv.own{a:aB}{o:jf}(h:Pv I ρ s a o):¬fL I ρ a/\s.heap.get? a≠none:=⟨h.no,λe=>gC (e.symm.trans h.at_)⟩
theorem Ob{P:aB->Prop}{J K:aB}(h:P J)(h':P K):∀a,(a=J\/a=K)->P a:=λa ha=>ha.elim (λe=>e▸h) λe=>e▸h'
theorem OG{P:aB->Prop}{J K L:aB}(h:P J)(h':P K)(h'':P L):∀a,(a=J\/a=K\/a=L)->P a:=λa ha=>ha.elim (λe=>e▸h) (Ob h' h'' a)
inductive GC(T:String)(mk:Array af->Nat->jf)(J ax:aB)(xs:List af)(k:Nat)(l:List PV)(I:dC)(ρ:dH)(s:ag):Prop
 | mk (i:Nat) (o:jf) (p:Pv I ρ s J o) (c:o.cls = .type T) (d:o.data = .fields #[.ref ax,.int i 0]) (h:I ax=some (mk xs.toArray k)) (r:aY I ρ l (xs.drop i)):GC T mk J ax xs k l I ρ s
noncomputable def IW(T:String)(h:fv)(J ax:aB)(i:Nat):Prop:=∃o,h.get? J=some o/\o.cls = .type T/\o.data = .fields #[.ref ax,.int i 0]
theorem Dj{tgt:Expr}{T:String}{mk:Array af->Nat->jf}{J ax:aB}{xs:List af}{k:Nat}(hT:["enumerate","zip","dict_itemiterator","dict_reverseitemiterator","odict_iterator","itertools.zip_longest","itertools.pairwise"].contains T=false)
  (self:∀{s:ag} {Q:af->ag->Prop} {E:af->ag->Prop} {i:Nat},IW T s.heap J ax i->Q (.ref J) s->ar (ay pw w) A (mR (.ref J)) Q E s)
  (item:∀{s:ag} {Q:Option af->ag->Prop} {E:af->ag->Prop} {i:Nat} {x:af},IW T s.heap J ax i->s.heap.get? ax=some (mk xs.toArray k)->xs.toArray[i]? = some x->(∀h',IW T h' J ax (i+1)->so J s.heap h'->Q (some x) { s with heap:=h' })->ar (ay pw w) A (fR (.ref J)) Q E s)
  (done:∀{s:ag} {Q:Option af->ag->Prop} {E:af->ag->Prop} {i:Nat},IW T s.heap J ax i->s.heap.get? ax=some (mk xs.toArray k)->xs.toArray[i]? = none->(∀h',CO J s.heap h'->Q none { s with heap:=h' })->ar (ay pw w) A (fR (.ref J)) Q E s) :
  IU H0 w A tgt (.ref J) (λa=>a=J) (GC T mk J ax xs k) where
 own:=λl I ρ s h a ha=>by
  obtain⟨i,o,p,c,d,h,r⟩:=h
  exact ha▸p.own
 keep:=λl I ρ R s I' ρ' R' s' X0 Z0 G h x hz=>by
  obtain⟨i,o,p,c,d,h,r⟩:=h
  exact⟨i,o,p.keep x (hz J rfl),c,d,x.le _ _ h,r.leZ x⟩
 item:=λx l I ρ R s E G h=>by
  obtain⟨i,o,p,c,d,h,r⟩:=h
  obtain⟨v,h6,h7,h8⟩:=r.get rfl
  refine item ⟨o,p.at_,c,d⟩ (G.imm _ _ h) ((bU ..).trans h6) λh' hit hs'=>?_
  obtain⟨o',e,c',d'⟩:=hit
  exact⟨v,rfl,Qa (s:={ s with heap:=h' }) e c' d' hT ⟨I,ρ,aS.quiet G (λa ha=>ha▸p.no) (λa o ha e=>(hs'.2 a ha).trans e) rfl rfl (λa ha=>ha▸p.stk G),h7,i+1,o',⟨e,bL d',p.no⟩,c',d',h,h8⟩⟩
 self:=λl I ρ s Q E h hq=>by
  obtain⟨i,o,p,c,d,h,r⟩:=h
  exact self ⟨o,p.at_,c,d⟩ hq
 done:=λI ρ R s E G h=>by
  obtain⟨i,o,p,c,d,h,r⟩:=h
  exact done ⟨o,p.at_,c,d⟩ (G.imm _ _ h) r.none_ λh' he=>⟨rfl,I,ρ,aS.quiet G (λa ha=>ha▸p.no) (λa o ha e=>he a o ha e) rfl rfl λa ha=>ha▸p.stk G⟩
theorem wW{tgt:Expr}{T:String}{mk:Array af->Nat->jf}{l:List PV}{ax:aB}{xs:List af}{k:Nat}{o:jf}(G:Gd H0 I ρ R s.heap)(hax:I ax=some (mk xs.toArray k))(hr:aY I ρ l xs)(hc:o.cls = .type T)(hd:o.data = .fields #[.ref ax,.int 0 0])(hf:o.isFreed=false)
  (its:IU H0 w A tgt (.ref s.heap.objs.size) (λa=>a=s.heap.objs.size) (GC T mk s.heap.objs.size ax xs k)):DG H0 w A tgt l I ρ R s (.ref s.heap.objs.size) { s with heap:=s.heap.push o }:=
 ⟨_,_,its,⟨0,o,⟨aU _ hf,bL hd,bA G (cu _)⟩,hc,hd,hax,hr⟩,a8.quiet G nb (λa o ζ e=>au _ e) (λa ha=>ha.elim) rfl rfl,λa ha=>ha▸cu _⟩
theorem wU(hh:A.handled=none){tgt:Expr}{l:List PV}{u:af}(G:Gd H0 I ρ R s.heap)(hu:cq I ρ (.list l) u) :
  ar (ay pw w) A (mR u) (DG H0 w A tgt l I ρ R s) E s:=by
 obtain⟨hl,ax,xs,k,rfl,hax,hr⟩:=hu
 have hne:∀{h:fv} {i:Nat},IW "list_iterator" h s.heap.objs.size ax i->h.IsListIter s.heap.objs.size ax i:=id
 exact kd ⟨_,G.imm _ _ hax,rfl,k,rfl⟩ (wW G hax hr rfl rfl rfl (Dj (by decide) (λh q=>wpAny_pyIter_listiter h q) (λh g e q=>eB h ⟨_,g,rfl,k,rfl⟩ e q) λh g e q=>kL hh h ⟨_,g,rfl,k,rfl⟩ e q))
end
end
end Mine
end
section
namespace Mine
noncomputable section
section
variable {H0:Bs} {w:bF} {n m:Nat} {sp:Spec} {I I' I'':dC} {ρ ρ' ρ'':dH} {R R' R'' R1 R2:List aO} {cx:Cx} {σ σ' σ1 σ2:bq} {env:d9} {A:bD} {E:af->ag->Prop} {s s' s'':ag} {e l r t a b:Expr} {v:PV} {f:Fl} {X Y Z:aB->Prop}
theorem HA(hh:A.handled=none){tgt:Expr}{l:List PV}{u:af}(G:Gd H0 I ρ R s.heap)(hu:cq I ρ (.tup l) u) :
  ar (ay pw w) A (mR u) (DG H0 w A tgt l I ρ R s) E s:=by
 obtain⟨hl,ax,xs,k,rfl,hax,hr⟩:=hu
 exact wpAny_pyIter_tuple ⟨_,G.imm _ _ hax,rfl,k,rfl⟩ (wW G hax hr rfl rfl rfl (Dj (by decide) (λh q=>wpAny_pyIter_tupleiter h q) (λh g e q=>wpAny_pyNext_tuple_item h ⟨_,g,rfl,k,rfl⟩ e q) λh g e q=>wpAny_pyNext_tuple_end hh h ⟨_,g,rfl,k,rfl⟩ e q))
theorem pg(G:Gd H0 I ρ R s.heap)(O:b4 I ρ cx σ env s.heap){x:Str}{p:dN}{u:af}(h:qG cx σ x v=some σ')(hu:cq I ρ v u) :
  ar (ay pw w) A (iD (.Name x p) env u) (vA H0 I ρ s env cx σ' R) E s:=wpAny_assign_Name (ug G O h hu)
theorem Oi{t:Expr}{ts:List Expr}{x:Str}{p:dN}:mT (.Name x p::ts) env=(false,iD (.Name x p) env)::mT ts env:=rfl
noncomputable def Mf(ts:List Expr)(k:Nat):Prop:=∀env:d9,(mT ts env).length=k/\(mT ts env).findIdx? (·.1)=none
theorem Bo{ts:List Expr}:∀{vs:List PV} {σ:bq},az (λζ=>Mf ts vs.length) (JW cx ts vs σ):=by
 induction ts with
 | nil=>exact λ{vs _}=>match vs with
  | []=>az.some λζ=>⟨rfl,rfl⟩
  | _::_=>az.none
 | cons t ts ih=>exact λ{vs _}=>match vs with
  | []=>az.none
  | v::vs=>gJ (C:=λt y=>az (λζ=>Mf (t::ts) (v::vs).length) y) t (λζ=>az.none) λx p=>az.opt λσ1 ζ=>ih.mono λζ h env=>⟨congrArg Nat.succ (h env).1,(List.findIdx?_cons ..).trans (congrArg (Option.map (· + 1)) (h env).2)⟩
section
variable (H0 w A E I ρ R s env cx)
noncomputable def QD(t:Expr)(u:af)(σ':bq):Prop:=ar (ay pw w) A (iD t env u) (vA H0 I ρ s env cx σ' R) E s
noncomputable def Ja(ts:List Expr)(us:List af)(σ':bq):Prop:=ar (ay pw w) A (assignInOrder ((mT ts env).map (·.2)) us) (vA H0 I ρ s env cx σ' R) E s
end
theorem JV{ts:List Expr}:∀{vs:List PV} {us:List af} {I:dC} {ρ:dH} {s:ag} {σ:bq},Gd H0 I ρ R s.heap->b4 I ρ cx σ env s.heap->aY I ρ vs us->az (Ja H0 w I ρ R cx env A E s ts us) (JW cx ts vs σ):=by
 induction ts with
 | nil=>exact λ{vs us I ρ s σ} G O hu=>match vs,hu with
  | [],hu=>hu.nil_el (az.some (assignInOrder_nil ⟨I,ρ,a8.self G O.sepW,O⟩))
  | _::_,_=>az.none
 | cons t ts ih=>exact λ{vs us I ρ s σ} G O hu=>match vs,hu with
  | [],_=>az.none
  | v::vs,hu=>hu.cons_el λu us h1 h2=>gJ (C:=λt y=>az (Ja H0 w I ρ R cx env A E s (t::ts) (u::us)) y) t (λζ=>az.none) λx p=>az.opt λσ1 e1 σ2 e2=>
   Mv (ao (pg (p:=p) G O e1 h1) (λ_ s1 ⟨I1,ρ1,x1,O1⟩=>ao (ih x1.good O1 (h2.le x1) σ2 e2) (λ_ s2 ⟨I2,ρ2,x2,O2⟩=>⟨I2,ρ2,x1.trans G x2,O2⟩) λζ ζ e=>e) λζ ζ e=>e)
theorem yr(hh:A.handled=none)(G:Gd H0 I ρ R s.heap)(O:b4 I ρ cx σ env s.heap){tgt:Expr}{u:af}(h:iC cx tgt v σ=some σ')(hu:cq I ρ v u) :
  ar (ay pw w) A (iD tgt env u) (vA H0 I ρ s env cx σ' R) E s:=by
 revert h
 unfold iC
 refine fH (C:=λt y=>Ma cx y v σ=some σ'->QD H0 w I ρ R cx env A E s t u σ') tgt (λζ h=>nomatch h) (λx p h=>pg G O h hu) (λζ ζ ζ h=>nomatch h) (λζ ζ ζ ζ h=>nomatch h) (λζ ζ ζ h=>nomatch h) (λζ ζ ζ ζ h=>nomatch h) (λts k p h=>?_) (λζ ζ h=>nomatch h)
  (λζ ζ ζ ζ h=>nomatch h) (λζ ζ ζ ζ h=>nomatch h) (λζ ζ ζ ζ h=>nomatch h) (λζ ζ ζ h=>nomatch h) (λζ ζ ζ ζ h=>nomatch h) (λζ ζ ζ h=>nomatch h) (λζ ζ ζ ζ h=>nomatch h) (λζ ζ ζ h=>nomatch h) (λζ ζ ζ ζ h=>nomatch h)
 have h:=(nl h).2
 revert h
 refine qB (C:=λv y=>cq I ρ v u->y=some σ'->_) v (λζ ζ h=>nomatch h) (λvs hu h=>hu.tup_el λax xs k ζ hax hr=>?_) hu
 obtain⟨n1,n2⟩:=Bo σ' h env
 refine wpAny_assign_Tuple (items:=xs.toArray) hh ⟨_,G.imm _ _ hax,rfl,_,rfl⟩ (n1.trans (hr.length.symm.trans aT.symm)) n2 λh' he=>?_
 have x0:a8 H0 eb I ρ s I ρ R { s with heap:=h' }:=a8.quiet G nb (λa o ζ e=>he a o (λq=>gC ((cu s.heap).symm.trans (q▸e))) e) (λa ha=>ha.elim) rfl rfl
 exact ao (JV x0.good (O.step x0) hr σ' h) (λ_ s2 ⟨I2,ρ2,x2,O2⟩=>⟨I2,ρ2,x0.weaken.trans G x2,O2⟩) λζ ζ e=>e
end
inductive Mg(H0:Bs)(w:bF)(A:bD)(tgt:Expr)(l:List PV)(I:dC)(ρ:dH)(s:ag)(cx:Cx)(env:d9)(σ':bq)(R':List aO)(jt:af)(s2:ag):Prop
 | mk (I':dC) (ρ':dH) (Z:aB->Prop) (St:List PV->dC->dH->ag->Prop) (i:IU H0 w A tgt jt Z St) (t:St l I' ρ' s2) (x:a8 H0 eb I ρ s I' ρ' R' s2) (O:b4 I' ρ' cx σ' env s2.heap) (f:∀a,Z a->s.heap.get? a=none):Mg H0 w A tgt l I ρ s cx env σ' R' jt s2
noncomputable def FN(H0:Bs)(w:bF)(n:Nat)(cx:Cx)(tgt it:Expr)(σ:bq)(R:List aO)(l:List PV)(σ':bq)(R':List aO):Prop:=
 (∀(env:d9) x,ki it env x=b7 x) /\
 ∀(A:bD) (E:af->ag->Prop) (I:dC) (ρ:dH) (env:d9) (s:ag),cC H0 A (n+1)->Gd H0 I ρ R s.heap->b4 I ρ cx σ env s.heap ->
  ar (ay pw w) A (ed it env) (λu s1=>ar (ay pw w) A (mR u) (Mg H0 w A tgt l I ρ s cx env σ' R') E s1) E s
section
variable {H0:Bs} {w:bF} {n m:Nat} {sp:Spec} {I I' I'':dC} {ρ ρ' ρ'':dH} {R R' R'' R1 R2:List aO} {cx:Cx} {σ σ' σ1 σ2:bq} {env:d9} {A:bD} {E:af->ag->Prop} {s s' s'':ag} {e t a b:Expr} {v:PV} {f:Fl} {X Y Z:aB->Prop}
set_option tactic.hygienic true in
theorem x8{RR:fS->ag->Prop}{tgt:Expr}{it:af}{body:List ip}(Inv:Nat->ag->Prop)(turn:∀(E':af->ag->Prop) (D:Option af->ag->Prop) (Q:Flow->ag->Prop) (k:Nat) (s:ag),Inv k s->(∀s',RR (.ok .next) s'->D none s') ->
   (∀v s',ar (ay pw w) A (c6 tgt it v) (λζ s2=>ar (ay pw w) A (iD tgt env v) (λζ s3=>ar (ay pw w) A (execs body env) Q E' s3) E' s2) E' s'->D (some v) s') ->
   (∀m s',m<k->Inv m s'->Q .next s'/\Q .cont s')->(∀s',RR (.ok .next) s'->Q .brk s')->(∀v s',RR (.ok (.ret v)) s'->Q (.ret v) s')->ar (ay pw w) A (fR it) D E' s)
  (n:Nat)(h:Inv n s):cB (ay pw w) A (.forLoop tgt it body [] env) RR s:=
 codeAny_forLoop_any Inv (λk s h=>turn _ _ _ k s h (λs' h=>lZ h) (λv s' h=>h) (λm s' a b=>⟨⟨m,a,b⟩,⟨m,a,b⟩⟩) (λs' h=>h) (λv s' h=>h)) n h
inductive Qz(H0:Bs)(Z:aB->Prop)(St:List PV->dC->dH->ag->Prop)(cx:Cx)(env:d9)(step:bq->List aO->PV->Option FS)(z:FS)(I:dC)(ρ:dH)(s:ag)(k:Nat)(s':ag):Prop
 | mk (I':dC) (ρ':dH) (σ:bq) (R:List aO) (l:List PV) (h:uY step l σ R=some z) (x:aS H0 (mI env) Z I ρ s I' ρ' R s') (O:b4 I' ρ' cx σ env s'.heap) (t:St l I' ρ' s') (e:k=l.length+1):Qz H0 Z St cx env step z I ρ s k s'
set_option tactic.hygienic true in
theorem HM{tgt:Expr}{jt:af}{ss:List ip}{l:List PV}{St:List PV->dC->dH->ag->Prop}{RR:fS->ag->Prop}{F:Aw}{z:FS}(hR:cC H0 A (n+1))(hb:∀σ R,az (CA H0 w n cx ss σ R) (F.exs cx ss σ R))(its:IU H0 w A tgt jt Z St)(G:Gd H0 I ρ R s.heap)(O:b4 I ρ cx σ env s.heap)(t:St l I ρ s)(zf:∀a,Z a->¬kK env a)
  (hRR:∀I' ρ' fl s',aS H0 (mI env) Z I ρ s I' ρ' z.2.2 s'->b4 I' ρ' cx z.2.1 env s'.heap->Mi I' ρ' z.1 fl->RR (.ok fl) s')(h:uY (wZ F cx tgt ss) l σ R=some z):cB (ay pw w) A (.forLoop tgt jt ss [] env) RR s:=by
 refine x8 (Qz H0 Z St cx env (wZ F cx tgt ss) z I ρ s) (λE' D Q k s3 q3 hD hDs hn hb' hr=>?_) (l.length+1) ⟨I,ρ,σ,R,l,h,(a8.self G O.sepW).z,O,t,rfl⟩
 obtain⟨I3,ρ3,σ3,R3,l3,h3,x3,O3,st3,e3⟩:=q3
 cases l3 with
 | nil=>
  refine ao (its.done I3 ρ3 R3 s3 _ x3.good st3) (λo s4 q4=>?_) λζ ζ e=>e
  obtain⟨e4,I4,ρ4,x4⟩:=q4
  exact e4▸hD s4 (hRR I4 ρ4 .next s4 (aV h3▸x3.trans G (x4.weaken λζ h=>h.elim)) (aV h3▸O3.stepZ x4 (λζ h=>h.elim) zf) (aV h3▸rfl))
 | cons x l4=>
  obtain⟨f7,y7,h4,h3⟩:=gF h3
  obtain⟨σ6,hb1,h4⟩:=ig h4
  refine ao (its.item x l4 I3 ρ3 R3 s3 _ x3.good st3) (λo s4 q4=>?_) λζ ζ e=>e
  obtain⟨u,e4,q4⟩:=q4
  refine e4▸hDs u s4 (ao q4 (λζ s5 q5=>?_) λζ ζ e=>e)
  obtain⟨I5,ρ5,x5,hu,st5⟩:=q5
  refine ao (yr hR.1 x5.good (O3.stepZ x5 (λζ h=>h.elim) zf) hb1 hu) (λζ s6 q6=>?_) λζ ζ e=>e
  obtain⟨I6,ρ6,x6,O6⟩:=q6
  refine ao (hb σ6 R3 _ h4 A _ I6 ρ6 env s6 hR x6.good O6) (λfl s7 q7=>?_) λζ ζ e=>e
  obtain⟨I7,ρ7,x7,O7,hf7⟩:=q7
  have x57:=x6.trans x5.good x7
  have st7:=its.keep l4 I5 ρ5 R3 s5 I7 ρ7 y7.2 s7 (mI env) (λζ=>False) x5.good st5 x57.z (λa ha=>⟨λq=>zf a ha q.f,id⟩)
  have x37:=(x3.trans G (x5.weaken (Y:=mI env) λζ h=>h.elim)).trans G x57.z
  cases f7 with
  | next=>exact fb hf7▸(hn _ s7 (e3▸dz _) ⟨I7,ρ7,_,_,l4,h3,x37,O7,st7,rfl⟩).1
  | cont=>exact fb hf7▸(hn _ s7 (e3▸dz _) ⟨I7,ρ7,_,_,l4,h3,x37,O7,st7,rfl⟩).2
  | brk=>
   cases h3
   exact fb hf7▸hb' s7 (hRR I7 ρ7 .next s7 x37 O7 rfl)
  | ret v=>
   cases h3
   obtain⟨u,rfl,hu⟩:=hf7
   exact hr u s7 (hRR I7 ρ7 _ s7 x37 O7 ⟨u,rfl,hu⟩)
theorem NT{pos:dN}{tgt it:Expr}{ss:List ip}{l:List PV}(hi:FN H0 w n cx tgt it σ R l σ1 R1){F:Aw}(hb:∀σ R,az (CA H0 w n cx ss σ R) (F.exs cx ss σ R)):az (Ax H0 w n cx (.For tgt it ss [] pos) σ R) (uY (wZ F cx tgt ss) l σ1 R1):=by
 intro z h A E I ρ env s hR G O
 refine wpAny_For (ao (hi.2 A _ I ρ env s hR G O) (λu s1 q1=>ao q1 (λjt s2 q2=>?_) λζ ζ e=>e) λζ ζ e=>e) (λx=>hi.1 env x)
 obtain⟨I2,ρ2,Z,St,its,st,x2,O2,hz⟩:=q2
 exact HM hR hb its x2.good O2 st (λa ha hf=>O.alive a hf (hz a ha)) (λI' ρ' fl s' x O h=>⟨I',ρ',aS.close G x2.weaken x hz,O,h⟩) h
theorem r5{pos:dN}(h:dM H0 w n cx e σ R v R1)(hb:iC cx t v σ=some σ1)(h1:∀env:d9,tj [t] e pos.line env=b7 false)(h2:∀env:d9,tm [t] e env=b7 none)
  (h3:∀env:d9,(mT [t] env).map (·.2)=[iD t env]):yN H0 w n cx (.Assign [t] e pos) σ R .next σ1 R1:=by
 intro A E I ρ env s hR G O
 refine sQ (h.then hR G O λI1 ρ1 u s1 x1 hu O1 G1=>?_) (h1 env) (h2 env)
 rw [h3 env]
 refine ao (yr hR.1 G1 O1 hb hu) (λζ s2 q=>?_) λζ ζ e=>e
 obtain⟨I2,ρ2,x2,O2⟩:=vA.mono_ G x1.weaken q
 exact⟨I2,ρ2,x2,O2,rfl⟩
theorem xN(G:Gd H0 I ρ R s.heap){l:List PV}{xs:List af}(hr:aY I ρ l xs)(hl:l.length<=SZ)(t:Nat) :
  fM H0 I ρ s (.obj R.length) (R++[.lst l]) (.ref s.heap.objs.size) { s with heap:=s.heap.push { cls:=.type "list",data:=.seq xs.toArray },toks:=t }:=by
 have hn:=cu s.heap
 have e:=aU s.heap (o:={ cls:=.type "list",data:=.seq xs.toArray }) rfl
 have st:=a8.recd (X:=eb) (s':={ s with heap:=s.heap.push { cls:=.type "list",data:=.seq xs.toArray },toks:=t }) (p:=(s.heap.objs.size,s.heap.objs.size)) (r:=.lst l) G hn hn (λb o e=>au _ e)
  ⟨hl,rfl,xs,0,e,aY.mono (λζ ζ e=>e) l xs hr⟩ rfl rfl
 refine⟨_,_,st,?_⟩
 refine⟨(s.heap.objs.size,s.heap.objs.size),?_,rfl⟩
 rw [<-G.len,bH (aF _),eW]
 rfl
theorem KZ{es:List Expr}{vs:List PV}{pos:dN}(h:qm H0 w n cx es σ R vs R1)(hl:vs.length<=SZ):dM H0 w n cx (.List es pos) σ R (.obj R1.length) (R1++[.lst vs]):=by
 intro A E I ρ env s hR G O
 refine wpAny_List (h.then hR G O λI1 ρ1 us s1 x1 hu O1 G1=>⟨?_,?_⟩)
 ·rw [hu.length];exact ga hl
 ·exact fM.mono_ G x1 (xN G1 hu hl _)
theorem nY(k:Nat)(l:List PV):∀xs:List PV,(k9 k l xs).length=xs.length:=by
 intro xs
 induction xs with
 | nil=>
  exact rfl
 | cons x xs ih=>
  rw [k9,aq,aq,ih]
mutual
theorem tC{k:Nat}{l:List PV}{p:aB × aB}{ys:List af}{c:Nat}(hle:∀a o,I a=some o->I' a=some o)(hp:ρ[k]? = some p)(hl:l.length<=SZ)(hI:I' p.1=some (cF ys.toArray c))(hr:aY I' ρ l ys) :
  ∀(v:PV) (u:af),cq I ρ v u->cq I' ρ (sub k l v) u
 | .none,u,h=>h
 | .bool b,u,h=>h
 | .int i,u,h=>h
 | .str s,u,h=>h
 | .list xs,u,h=>by
  obtain⟨h1,a,vs,q,rfl,h2,h3⟩:=h
  exact⟨fb (nY k l xs)▸h1,a,vs,q,rfl,hle _ _ h2,qC hle hp hl hI hr xs vs h3⟩
 | .tup xs,u,h=>by
  obtain⟨h1,a,vs,q,rfl,h2,h3⟩:=h
  exact⟨fb (nY k l xs)▸h1,a,vs,q,rfl,hle _ _ h2,qC hle hp hl hI hr xs vs h3⟩
 | .val x,u,h=>h
 | .obj j,u,h=>by
  obtain⟨q,h1,rfl⟩:=h
  show cq I' ρ (if j=k then .list l else .obj j) _
  by_cases h:j=k
  ·rw [if_pos h]
   subst h
   cases hp.symm.trans h1
   exact qK hl hI hr
  ·rw [if_neg h]
   exact⟨q,h1,rfl⟩
theorem qC{k:Nat}{l:List PV}{p:aB × aB}{ys:List af}{c:Nat}(hle:∀a o,I a=some o->I' a=some o)(hp:ρ[k]? = some p)(hl:l.length<=SZ)(hI:I' p.1=some (cF ys.toArray c))(hr:aY I' ρ l ys) :
  ∀(v:List PV) (u:List af),aY I ρ v u->aY I' ρ (k9 k l v) u
 | [],u,h=>h
 | x::xs,u,h=>by
  obtain⟨v,q,rfl,h1,h2⟩:=h
  exact⟨v,q,rfl,tC hle hp hl hI hr x v h1,qC hle hp hl hI hr xs q h2⟩
end
theorem Gl{k:Nat}{l:List PV}{p:aB × aB}{ys:List af}{c:Nat}(hle:∀a o,I a=some o->I' a=some o)(hp:ρ[k]? = some p)(hl:l.length<=SZ)(hI:I' p.1=some (cF ys.toArray c))(hr:aY I' ρ l ys)(fs:List (Str × PV)) :
  ∀(es:List kY),oG I ρ fs es->oG I' ρ (kZ k l fs) es:=by
 induction fs with
 | nil=>exact λes h=>h
 | cons y r ih=>
  obtain⟨x,q⟩:=y
  intro es h
  obtain⟨hsh,t,v,es',rfl,h1,h2⟩:=h
  exact⟨hsh,t,v,es',rfl,tC hle hp hl hI hr q v h1,ih es' h2⟩
theorem zK(k:Nat)(l:List PV)(x:Str):∀σ:bq,(kZ k l σ).lookup x=(σ.lookup x).map (sub k l):=by
 intro σ
 induction σ with
 | nil=>
  exact rfl
 | cons xq r ih=>
  obtain⟨y,v⟩:=xq
  show fF x ((y,sub k l v)::kZ k l r)=_
  rw [a9,a9,ih]
  cases x==y<;>rfl
noncomputable def jV(I:dC)(D:aB)(o:jf):dC:=λb=>if b=D then some o else I b
theorem ru{a D:aB}{o:jf}(h:a≠D):jV I D o a=I a:=if_neg h
theorem nt{D:aB}{o:jf}(hD:I D=none)(b:aB)(o':jf)(e:I b=some o'):jV I D o b=some o':=(ru λq=>gC (hD.symm.trans (q▸e))).trans e
theorem IN{D:aB}{o:jf}{h:fv}(hI:∀b o,I b=some o->h.get? b=some o)(hd:h.get? D=some o)(b:aB)(o':jf)(e:jV I D o b=some o'):h.get? b=some o':=by
 by_cases hb:b=D
 ·subst hb
  exact hd.trans ((if_pos rfl).symm.trans e)
 ·exact hI b o' ((ru hb).symm.trans e)
theorem vy{a D:aB}{o:jf}(ho:own ρ D)(h:fL (jV I D o) ρ a):fL I ρ a:=by
 by_cases hb:a=D
 ·exact hb▸an ho
 ·exact h.imp (λq=>ru (I:=I) (o:=o) hb▸q) id
theorem aY.leI{I I':dC}(hle:∀a o,I a=some o->I' a=some o){l:List PV}{xs:List af}(h:aY I ρ l xs):aY I' ρ l xs:=aP ρ▸aY.mono (δ:=[]) hle l xs h
theorem a8.same0(G:Gd H0 I ρ R s.heap):a8 H0 X I ρ s I ρ R s:=⟨λζ ζ e=>e,⟨[],(aP _).symm⟩,λa h=>av h,λa o ζ e=>⟨o,e,kJ.refl o⟩,λa h=>h,G,rfl,rfl⟩
theorem JP{k:Nat}{l:List PV}{p q:aB × aB}{ys:List af}{c:Nat}{h:fv}(hle:∀a o,I a=some o->I' a=some o)(hp:ρ[k]? = some p)(hl:l.length<=SZ)(hI:I' p.1=some (cF ys.toArray c))(hr:aY I' ρ l ys){r:aO}(x:lr I ρ h q r):lr I' ρ h q (vT k l r):=by
 cases r with
 | lst l2=>
  obtain⟨g1,g2,zs,c2,g3,g4⟩:=x
  exact⟨fb (nY k l l2)▸g1,g2,zs,c2,g3,qC hle hp hl hI hr l2 zs g4⟩
 | inst C fs=>
  obtain⟨g1,g2,g3,es,c2,g4,g5⟩:=x
  exact⟨g1,g2,fb (ae ..)▸g3,es,c2,g4,Gl hle hp hl hI hr fs es g5⟩
 | deq=>exact x
 | dead=>exact x
 | tab=>
  obtain⟨g1,g2,ps,g3,g4,g5⟩:=x
  exact⟨g1,g2,ps,g3,g4,λpos c e=>let ⟨c',o,a,b,d⟩:=g5 pos c e;⟨c',o,a,hle _ _ b,d⟩⟩
inductive N8(H0:Bs)(X:aB->Prop)(I:dC)(ρ:dH)(s:ag)(cx:Cx)(env:d9)(k:Nat)(R:List aO)(y:bq × List aO):Prop
 | mk (I':dC) (x:a8 H0 X I ρ s I' ρ y.2 s) (O:b4 I' ρ cx y.1 env s.heap) (h:∀l p,R[k]? = some (.lst l)->ρ[k]? = some p->cq I' ρ (.list l) (.ref p.1)):N8 H0 X I ρ s cx env k R y
theorem KH{k:Nat}(G:Gd H0 I ρ R s.heap)(O:b4 I ρ cx σ env s.heap){l:List PV}(hk:R[k]? = some (.lst l)):N8 H0 X I ρ s cx env k R (kZ k l σ,(R.map (vT k l)).set k .dead):=by
 have hlt:k<ρ.length:=G.len▸(eE.mp hk).1
 obtain⟨p,hp⟩:∃p,ρ[k]? = some p:=⟨_,bR hlt⟩
 obtain⟨hl,hp2,ys,c,hg,hr⟩:=G.recs k p _ hp hk
 have d1:=(G.dis k p _ hp hk (λh=>nomatch h)).1
 have ho:own ρ p.1:=⟨p,be hp,av rfl⟩
 have hle:=nt (o:=cF ys.toArray c) d1
 have hI:jV I p.1 (cF ys.toArray c) p.1=some (cF ys.toArray c):=if_pos rfl
 have hr':=hr.leI hle
 refine⟨jV I p.1 (cF ys.toArray c),⟨hle,⟨[],(aP _).symm⟩,λa h=>av (vy ho h),λa o ζ e=>⟨o,e,kJ.refl o⟩,λa h=>h,⟨IN G.imm hg,λb o' e=>hle b o' (G.base b o' e),by rw [vE,ae];exact G.len,λi q r1 h1 h2=>?_,λi q r1 h1 h2 h3=>?_,G.apart,λb hb=>⟨λq=>(G.stk b hb).1 (vy ho q),(G.stk b hb).2⟩⟩,rfl,rfl⟩,?_,λl' p' h1 h2=>?_⟩
 ·rcases oU h2 with ⟨rfl,rfl⟩ | ⟨hne,h2⟩
  ·exact aV (hp.symm.trans h1)▸⟨hp2,_,hg⟩
  ·rw [jE]at h2
   obtain⟨r2,hr0,rfl⟩:=jB.mp h2
   exact JP hle hp hl hI hr' (G.recs i q r2 h1 hr0)
 ·rcases oU h2 with ⟨rfl,rfl⟩ | ⟨hne,h2⟩
  ·exact absurd rfl h3
  ·rw [jE]at h2
   obtain⟨r2,hr0,rfl⟩:=jB.mp h2
   have e:=G.dis i q r2 h1 hr0 λe=>h3 (congrArg (vT k l) e)
   have ap:=G.apart i k q p h1 hp hne
   exact⟨(ru ap.1).trans e.1,(ru ap.2.2.1).trans e.2⟩
 ·obtain⟨m,h1,h2⟩:=O.ns
  refine⟨O.kf,O.gle,O.ble,O.glo,O.loc,O.fn,O.cek,O.cel,⟨m,h1,λy pv hy=>?_⟩,λa ha h=>O.sep a ha (vy ho h),O.apart,O.alive,O.dbg,O.law⟩
  replace hy:(kZ k l σ).lookup y=some pv:=hy
  rw [zK]at hy
  obtain⟨v0,h3,rfl⟩:=jB.mp hy
  obtain⟨g1,g2⟩:=h2 y v0 h3
  exact⟨g1,g2.imp (λq=>⟨q.1,q.2.imp λu q=>⟨q.1,tC hle hp hl hI hr' v0 u q.2⟩⟩) λq=>⟨q.1,q.2.imp λζ=>CP λu q=>⟨q.1,q.2.1,tC hle hp hl hI hr' v0 u q.2.2⟩⟩⟩
 ·cases hk.symm.trans h1
  cases hp.symm.trans h2
  exact qK hl hI hr'
theorem Do{k:Nat}(G:Gd H0 I ρ R s.heap)(O:b4 I ρ cx σ env s.heap):N8 H0 X I ρ s cx env k R (rb k σ R):=by
 unfold rb
 cases hk:R[k]? with
 | none=>exact⟨I,a8.same0 G,O,λl p h=>(gC (hk.symm.trans h)).elim⟩
 | some r0=>
  cases r0 with
  | lst l=>exact KH G O hk
  | _=>exact⟨I,a8.same0 G,O,λl p h=>nomatch hk.symm.trans h⟩
theorem NE:∀(ks:List Nat) {I:dC} {σ:bq} {R:List aO},Gd H0 I ρ R s.heap->b4 I ρ cx σ env s.heap->∃I',a8 H0 X I ρ s I' ρ (uX ks σ R).2 s/\b4 I' ρ cx (uX ks σ R).1 env s.heap:=by
 intro ks
 induction ks with
 | nil=>
  intro I σ R G O
  exact⟨I,a8.same0 G,O⟩
 | cons k ks ih=>
  intro I σ R G O
  obtain⟨I1,x1,O1,_⟩:=Do (X:=X) (k:=k) G O
  obtain⟨I2,x2,O2⟩:=ih x1.good O1
  exact⟨I2,x1.trans G x2,O2⟩
theorem oX{pos:dN}{ks:List Nat}(h:dM H0 w n cx e (uX ks σ R).1 (uX ks σ R).2 v R1):yN H0 w n cx (.Return (some e) pos) σ R (.ret v) (uX ks σ R).1 R1:=by
 intro A E I ρ env s hR G O
 obtain⟨I1,x1,O1⟩:=NE (X:=eb) ks G O
 refine wpAny_Return_some (h.then hR x1.good O1 λI2 ρ2 u s2 x2 hu O2 G2=>?_)
 exact⟨I2,ρ2,(x1.trans G x2).weaken,O2,u,rfl,hu⟩
end
end
end Mine
end
section
namespace Mine
noncomputable section
noncomputable abbrev Ge(env:d9):Expr->Bool->vN (ForInStep Bool):=λc r=>if r=true then do let ok <-isTrue c env (ed c env);b7 (j0 ok)else b7 (j0 r)
noncomputable def IQ(H0:Bs)(w:bF)(n:Nat)(cx:Cx)(es:List Expr)(σ:bq)(R:List aO)(v:Bool)(R':List aO):Prop:=
 ∀(A:bD) (E:af->ag->Prop) (I:dC) (ρ:dH) (env:d9) (s:ag),cC H0 A (n+1)->Gd H0 I ρ R s.heap->b4 I ρ cx σ env s.heap ->
  ar (ay pw w) A (pn es true (Ge env)) (ry H0 I ρ s v R') E s
noncomputable def wf(H0:Bs)(w:bF)(n:Nat)(cx:Cx)(es:List Expr)(σ:bq)(R:List aO)(y:Bool × List aO):Prop:=IQ H0 w n cx es σ R y.1 y.2
section
variable {H0:Bs} {w:bF} {n m:Nat} {sp:Spec} {I I' I'':dC} {ρ ρ' ρ'':dH} {R R' R'' R1 R2:List aO} {cx:Cx} {σ σ' σ1 σ2:bq} {env:d9} {A:bD} {E:af->ag->Prop} {s s' s'':ag} {e l r t a b:Expr} {v:PV} {f:Fl} {X Y Z:aB->Prop}
theorem DW(env:d9):∀es:List Expr,(pn es false (Ge env):vN Bool)=b7 false:=by
 intro es
 induction es with
 | nil=>
  exact rfl
 | cons e es ih=>
  rw [ey]
  show(do let r <-(b7 (j0 false):vN (ForInStep Bool));match r with | .done b=>b7 b | .yield b=>pn es b (Ge env))=_
  exact ih
theorem JI:IQ H0 w n cx [] σ R true R:=λA E I ρ env s hR G O=>ab (kP G)
theorem Gc{es:List Expr}(h1:Cs H0 w n cx e σ R false R1):IQ H0 w n cx (e::es) σ R false R1:=by
 intro A E I ρ env s hR G O
 rw [ey]
 refine aa (aa (h1.then hR G O λI1 ρ1 s1 x1 O1 G1=>ab ?_))
 show ar _ A (pn es false (Ge env)) _ E s1
 rw [DW]
 exact ab ⟨I1,ρ1,x1,rfl⟩
theorem MH{es:List Expr}{d:Bool}(h1:Cs H0 w n cx e σ R true R1)(h2:IQ H0 w n cx es σ R1 d R2):IQ H0 w n cx (e::es) σ R d R2:=by
 intro A E I ρ env s hR G O
 rw [ey]
 refine aa (aa (h1.then hR G O λI1 ρ1 s1 x1 O1 G1=>ab ?_))
 exact ao (h2 A E I1 ρ1 env s1 hR G1 O1) (λu s' q=>ry.mono_ G x1 q) λζ ζ e=>e
noncomputable def iS(env:d9):List (Str × d3)->List (Str × aB)->List (Str × aB)
 | [],acc=>acc
 | (x,k)::r,acc=>if k = .free then iS env r ((x,(env.cells.lookup x).getD 0)::acc)else iS env r acc
theorem nq(env:d9)(x:Str)(k:d3)(r:List (Str × d3))(acc:List (Str × aB)):iS env ((x,k)::r) acc=if k = .free then iS env r ((x,(env.cells.lookup x).getD 0)::acc)else iS env r acc:=rfl
theorem Ai(env:d9):∀(names:List (Str × d3)) (acc:List (Str × aB)) (f:Str × d3->List (Str × aB)->vN (ForInStep (List (Str × aB)))),
  (∀x k c,f (x,k) c=if k == .free then(do let a <-Ms env x;b7 (.yield ((x,a)::c)))else b7 (.yield c))->(∀x∈names,x.2 = .free->∃c,env.cells.lookup x.1=some c)->(pn names acc f:vN _)=b7 (iS env names acc):=by
 intro names
 induction names with
 | nil=>
  intro acc f hf _
  exact rfl
 | cons xq r ih=>
  obtain⟨x,k⟩:=xq
  intro acc f hf h
  rw [ey,hf]
  by_cases hk:k = .free
  ·obtain⟨c,hc⟩:=h (x,k) aj hk
   have e:(k==d8)=true:=by rw [hk];rfl
   rw [if_pos e]
   rw [nq]
   rw [if_pos hk,hc]
   have e2:Ms env x=b7 c:=by
    unfold Ms
    have hc':env.cells.lookup x=some c:=hc
    rw [hc']
   rw [e2]
   exact ih _ f hf λy hy=>h y (am _ hy)
  ·have e:(k==d8)=false:=by cases k<;>first | rfl | exact absurd rfl hk
   rw [e]
   rw [nq]
   rw [if_neg hk]
   exact ih _ f hf λy hy=>h y (am _ hy)
set_option tactic.hygienic true in
theorem Fm(env:d9):∀(names:List (Str × d3)) (acc:List (Str × aB)) (x:Str) (a:aB),(iS env names acc).lookup x=some a->(acc.lookup x=some a)\/a=(env.cells.lookup x).getD 0/\(x,d8)∈names:=by
 intro names
 induction names with
 | nil=>
  intro acc x a h
  exact av h
 | cons xq r ih=>
  obtain⟨y,k⟩:=xq
  intro acc x a h
  rw [nq]at h
  split at h
  ·rename_i hk
   subst hk
   rcases ih _ x a h with h | ⟨h,h'⟩
   ·rw [a9]at h
    cases e:x==y with
    | true=>
     rw [e]at h
     cases h
     have e:=aJ e
     subst e
     exact an ⟨rfl,aj⟩
    | false=>rw [e]at h;exact av h
   ·exact an ⟨h,am _ h'⟩
  ·rcases ih _ x a h with h | ⟨h,h'⟩
   ·exact av h
   ·exact an ⟨h,am _ h'⟩
set_option tactic.hygienic true in
theorem Cf(env:d9)(x:Str):∀(names:List (Str × d3)) (acc:List (Str × aB)),(x,d8)∈names\/(acc.lookup x).isSome=true->((iS env names acc).lookup x).isSome=true:=by
 intro names
 induction names with
 | nil=>
  intro acc h
  rcases h with h | h
  ·cases h
  ·exact h
 | cons xq r ih=>
  obtain⟨y,k⟩:=xq
  intro acc h
  rw [nq]
  split
  ·rename_i hk
   subst hk
   refine ih _ ?_
   rcases h with h | h
   ·rcases aw.mp h with h | h
    ·right
     cases h
     simp
    ·exact av h
   ·right
    rw [a9]
    cases x==y<;>first | rfl | exact h
  ·rename_i hk
   refine ih _ ?_
   rcases h with h | h
   ·rcases aw.mp h with h | h
    ·cases h;exact absurd rfl hk
    ·exact av h
   ·exact an h
set_option tactic.hygienic true in
theorem sF(x:Str)(v:PV)(σ:bq):∀names:List (Str × d3),(eT names σ).lookup x=some v->(x,d8)∈names/\σ.lookup x=some v:=by
 intro names
 induction names with
 | nil=>
  intro h
  cases h
 | cons xq r ih=>
  obtain⟨y,k⟩:=xq
  intro h
  rw [zW]at h
  split at h
  ·rename_i hk
   have hk:=aJ hk
   subst hk
   cases hy:σ.lookup y with
   | none=>
    rw [hy]at h
    obtain⟨a,b⟩:=ih h
    exact⟨am _ a,b⟩
   | some u=>
    rw [hy]at h
    rw [a9]at h
    cases e:x==y with
    | true=>
     rw [e]at h
     cases h
     have e:=aJ e
     subst e
     exact⟨aj,hy⟩
    | false=>
     rw [e]at h
     obtain⟨a,b⟩:=ih h
     exact⟨am _ a,b⟩
  ·obtain⟨a,b⟩:=ih h
   exact⟨am _ a,b⟩
theorem ll{env:d9}{x:Str}{k:d3}:∀{names:List (Str × d3)},names.lookup x=some k ->
  (names.map λ(n,k)=>if(k==d8&&env.scope.kind == .function&&env.kindOf n==some .cell)then(n,pA)else(n,k)).lookup x=some (if(k==d8&&env.scope.kind == .function&&env.kindOf x==some .cell)then pA else k):=by
 intro names
 induction names with
 | nil=>
  intro h
  simp at h
 | cons xq r ih=>
  obtain⟨y,j⟩:=xq
  intro h
  show fF x ((if(j==d8&&env.scope.kind == .function&&env.kindOf y==some .cell)=true then(y,pA)else(y,j))::_)=_
  cases hx:x==y with
  | true=>
   simp only [a9,hx]at h
   cases h
   have e:=aJ hx
   subst e
   by_cases hc:(k==d8&&env.scope.kind == .function&&env.kindOf x==some .cell)=true
   ·rw [if_pos hc,if_pos hc,a9,hx]
   ·rw [if_neg hc,if_neg hc,a9,hx]
  | false=>
   simp only [a9,hx]at h
   by_cases hc:(j==d8&&env.scope.kind == .function&&env.kindOf y==some .cell)=true
   ·rw [if_pos hc];simp only [a9,hx];exact ih h
   ·rw [if_neg hc];simp only [a9,hx];exact ih h
theorem s9{x:Str}{g:Str × d3->Str × d3}(hg:∀y,(g y).1=y.1):∀{names:List (Str × d3)},names.lookup x=none->(names.map g).lookup x=none:=by
 intro names
 induction names with
 | nil=>
  intro _
  exact rfl
 | cons xq r ih=>
  obtain⟨y,j⟩:=xq
  intro h
  rw [a9]at h
  cases hx:x==y with
  | true=>rw [hx]at h;cases h
  | false=>
   rw [hx]at h
   show fF x (g (y,j)::r.map g)=none
   have e:g (y,j)=(y,(g (y,j)).2):=sj (hg _) rfl
   rw [e,a9,hx]
   exact ih h
structure As(cx:Cx)(σ:bq)(sc:Scope):Prop where
 kind:sc.kind = .function
 dbg:sc.names.lookup ("__debug__":Str)=none
 nocell:∀x∈sc.names,x.2 ≠ .cell
 uniq:∀x∈sc.names,sc.names.lookup x.1=some x.2
 free:∀x∈sc.names,x.2 = .free->(σ.lookup x.1).isSome=true/\(cx.names.lookup x.1=some .cell\/cx.names.lookup x.1=some .free)
theorem rL{sc:Scope}(h:qI cx σ sc=true):As cx σ sc:=by
 unfold qI at h
 simp only [bd,bu,bne_iff_ne,beq_iff_eq,fT,ne_eq]at h
 obtain⟨⟨h1,h2⟩,h3⟩:=h
 refine⟨h1,h2,λx hx=>(h3 x hx).1.1,λx hx=>(h3 x hx).1.2,λx hx hf=>?_⟩
 rcases(h3 x hx).2 with h | h
 ·exact absurd hf h
 ·exact h
theorem lb{sc:Scope}(K:As cx σ sc){h:fv}(O:b4 I ρ cx σ env h):AQ sc env=b7 (iS env sc.names []) /\ ∀x a,(iS env sc.names []).lookup x=some a->env.cells.lookup x=some a:=by
 have hc:∀x∈sc.names,x.2 = .free->∃c,env.cells.lookup x.1=some c:=λx hx hf=>by
  obtain⟨_,h2⟩:=K.free x hx hf
  rcases h2 with h2 | h2
  ·obtain⟨_,c,_,h3,_⟩:=O.cel x.1 _ h2 (av rfl)
   exact⟨c,h3⟩
  ·obtain⟨_,c,_,h3,_⟩:=O.cel x.1 _ h2 (an rfl)
   exact⟨c,h3⟩
 refine⟨?_,λx a hx=>?_⟩
 ·unfold AQ
  have q:=Ai env sc.names [] (λ(x:Str × d3) (c:List (Str × aB))=>if x.2 == .free then(do let a <-Ms env x.1;b7 (.yield ((x.1,a)::c)))else b7 (.yield c)) (λζ ζ ζ=>rfl) hc
  show((pn sc.names [] (λ(x:Str × d3) (c:List (Str × aB))=>if x.2 == .free then(do let a <-Ms env x.1;b7 (.yield ((x.1,a)::c)))else b7 (.yield c)):vN (List (Str × aB)))>>=λs=>b7 s)=_
  rw [q]
  rfl
 ·rcases Fm env sc.names [] x a hx with h1 | ⟨h1,h2⟩
  ·cases h1
  ·obtain⟨c,h3⟩:=hc _ h2 rfl
   rw [h3]at h1 ⊢
   rw [h1];rfl
theorem Iu{sc:Scope}(K:As cx σ sc)(O:b4 I ρ cx σ env s.heap){C:aB}{m:Str->Option af}(hns:s.heap.Ns C m)(hC:¬fL I ρ C) :
  b4 I ρ ⟨sc.names,cx.base⟩ (eT sc.names σ) (vL sc (iS env sc.names []) C env) s.heap:=by
 obtain⟨c1,c2⟩:=lb K O
 have fr:∀x,(x,d8)∈sc.names->xW (vL sc (iS env sc.names []) C env) x /\ ∃c v,(iS env sc.names []).lookup x=some c/\s.heap.IsCell c v:=λx hx=>by
  obtain⟨h1,h2⟩:=K.free _ hx rfl
  have hu:=K.uniq _ hx
  have hk:=ll (env:=env) hu
  have hs:=Cf env x sc.names [] (av hx)
  obtain⟨c,hc⟩:=fX.mp hs
  have he:=c2 x c hc
  have key:∀k,cx.names.lookup x=some k->k = .cell\/k = .free->xW (vL sc (iS env sc.names []) C env) x /\ ∃c v,(iS env sc.names []).lookup x=some c/\s.heap.IsCell c v:=λk hk1 hk2=>by
   obtain⟨g1,c',v,g2,g3⟩:=O.cel x k hk1 hk2
   refine⟨?_,c,v,hc,?_⟩
   ·rcases g1 with g1 | ⟨g1,g4⟩
    ·left
     show fF x _=_
     refine hk.trans ?_
     rw [if_pos]
     rw [O.kf,g1];rfl
    ·right
     refine⟨?_,g4⟩
     show fF x _=_
     refine hk.trans ?_
     rw [if_neg]
     rw [g1];simp
   ·rw [he]at g2;cases g2;exact g3
  rcases h2 with h2 | h2
  ·exact key _ h2 (av rfl)
  ·exact key _ h2 (an rfl)
 refine⟨K.kind,O.gle,O.ble,λx hx=>?_,λx hx=>?_,λx hx=>?_,λx hx=>?_,λx k hx hk=>?_,⟨m,hns,λx v hx=>?_⟩,λa ha=>?_,λx y a h1 h2=>?_,λa ha=>?_,?_,λhx=>absurd rfl (K.nocell _ (mem_of_lookup hx))⟩
 ·have hx:sc.names.lookup x=some .globalImplicit:=by simpa [gl] using hx
  refine(ll (env:=env) hx).trans ?_
  rfl
 ·refine(ll (env:=env) hx).trans ?_
  rfl
 ·exact absurd rfl (K.nocell _ (mem_of_lookup hx))
 ·exact absurd rfl (K.nocell _ (mem_of_lookup hx))
 ·rcases hk with rfl | rfl
  ·exact absurd rfl (K.nocell _ (mem_of_lookup hx))
  ·exact fr x (mem_of_lookup hx)
 ·obtain⟨h1,h2⟩:=sF x v σ _ hx
  obtain⟨g1,c,v0,g2,g3⟩:=fr x h1
  obtain⟨m',_,h4⟩:=O.ns
  obtain⟨_,h5⟩:=h4 x v h2
  refine⟨?_,an ⟨g1,?_⟩⟩
  ·show(sc.names.lookup x==some .globalImplicit)=false
   rw [K.uniq _ h1];rfl
  ·have he:=c2 x c g2
   rcases h5 with ⟨h5,_⟩ | ⟨_,c',u,h6,h7,h8⟩
   ·exfalso
    obtain⟨_,h9⟩:=K.free _ h1 rfl
    rcases h9 with h9 | h9
    ·rw [O.cek x h9]at h5;cases h5
    ·obtain⟨g,_⟩:=O.cel x _ h9 (an rfl)
     rcases g with g | ⟨g,_⟩<;>(rw [h5]at g;cases g)
   ·rw [he]at h6
    cases h6
    exact⟨c,u,g2,h7,h8⟩
 ·rcases ha with rfl | ⟨x,hx⟩
  ·exact hC
  ·exact O.sep a (an ⟨x,c2 x a hx⟩)
 ·exact O.apart x y a (c2 x a h1) (c2 y a h2)
 ·rcases ha with rfl | ⟨x,hx⟩
  ·obtain⟨o,_,_,g,_⟩:=hns
   intro e
   rw [g]at e;cases e
  ·exact O.alive a (an ⟨x,c2 x a hx⟩)
 ·show fF ("__debug__":Str) _=none
  refine s9 (λy=>?_) K.dbg
  obtain⟨y,k⟩:=y
  dsimp only
  split<;>rfl
theorem b4.sub{h:fv}(O:b4 I ρ cx σ env h)(hs:∀x v,σ1.lookup x=some v->σ.lookup x=some v):b4 I ρ cx σ1 env h:=
 ⟨O.kf,O.gle,O.ble,O.glo,O.loc,O.fn,O.cek,O.cel,let ⟨m,h1,h2⟩:=O.ns;⟨m,h1,λx v hx=>h2 x v (hs x v hx)⟩,O.sep,O.apart,O.alive,O.dbg,O.law⟩
end
end
end Mine
end
section
namespace Mine
noncomputable section
section
variable {H0:Bs} {w:bF} {n m:Nat} {sp:Spec} {I I' I'':dC} {ρ ρ' ρ'':dH} {R R' R'' R1 R2:List aO} {cx:Cx} {σ σ' σ1 σ2:bq} {env:d9} {A:bD} {E:af->ag->Prop} {s s' s'':ag} {e l r t a b:Expr} {v:PV} {f:Fl} {X Y Z:aB->Prop}
theorem a8.asZ(x:a8 H0 X I ρ s I' ρ' R' s')(h:∀a,X a->Z a):aS H0 eb Z I ρ s I' ρ' R' s':=
 ⟨x.le,x.pre,λa h=>(x.new a h).imp id av,λa o hn e=>x.keep a o (λq=>hn (q.imp id λq=>an (h a q))) e,λa ζ=>x.alive a,x.good,x.os,x.gens⟩
theorem aS.held(x:aS H0 X Z I ρ s I' ρ' R' s'){D:aB}{o:jf}(hD:s.heap.get? D=some o)(hd:∀es ep,o.data ≠ .dict es ep)(ho:¬fL I ρ D)(hx:¬X D)(hz:¬Z D):s'.heap.get? D=some o /\ ¬fL I' ρ' D:=by
 refine⟨x.kept hD hd (λq=>ho (an q)) hx hz,λq=>?_⟩
 ·rcases x.new D q with q | q | q
  ·exact ho q
  ·rw [hD]at q;cases q
  ·exact hz q
theorem aS.heldNs(x:aS H0 X Z I ρ s I' ρ' R' s'){D:aB}{m:Str->Option af}(hD:s.heap.Ns D m)(ho:¬fL I ρ D)(hx:¬X D)(hz:¬Z D):s'.heap.Ns D m /\ ¬fL I' ρ' D:=by
 obtain⟨o,es,ep,hD,hd,hr⟩:=hD
 obtain⟨o',k1,k2⟩:=x.keep D o (λq=>by rcases q with q | q | q;exact ho (an q);exact hx q;exact hz q) hD
 refine⟨⟨o',es,ep,k1,k2.data.trans hd,hr⟩,λq=>?_⟩
 ·rcases x.new D q with q | q | q
  ·exact ho q
  ·rw [hD]at q;cases q
  ·exact hz q
noncomputable abbrev VI(tgt iter elt:Expr)(ifs:List Expr)(sc:Scope)(pos:dN):Expr:=.ListComp elt [⟨tgt,iter,ifs,0⟩] sc pos
structure QS(H0:Bs)(w:bF)(A:bD)(D:aB)(nm:String)(ys:List PV)(Ac:List PV->dC->dH->ag->Prop):Prop where
 keep:∀done I ρ s I' ρ' R' s' X0 Z0,Ac done I ρ s->aS H0 X0 Z0 I ρ s I' ρ' R' s'->¬X0 D->¬Z0 D->Ac done I' ρ' s'
 add:∀done v r u I ρ R s (E:af->ag->Prop) (Q:ag->Prop),ys=done++v::r->Gd H0 I ρ R s.heap->Ac done I ρ s->cq I ρ v u->(∀s',aS H0 eb (λa=>a=D) I ρ s I ρ R s'->Ac (done++[v]) I ρ s'->Q s') ->
  ar (ay pw w) A (call (.builtin nm) [.ref D,u]) (λζ s'=>Q s') E s
noncomputable def rA(w:bF)(A:bD)(e tgt elt:Expr)(ifs:List Expr)(it:af)(D:aB)(nm:String)(cenv:d9)(RR:fS->ag->Prop):Prop:=
 ∀(Inv:Nat->ag->Prop),(∀(E':af->ag->Prop) (DD:Option af->ag->Prop) (TT:Bool->ag->Prop) (VV:af->ag->Prop) (NN:ag->Prop) (k:Nat) (s:ag),Inv k s->(∀s',RR (.ok .next) s'->DD none s') ->
   (∀v s',ar (ay pw w) A (iD tgt cenv v) (λζ s2=>ar (ay pw w) A (pn ifs true (Ge cenv)) TT E' s2) E' s'->DD (some v) s')->(∀s',ar (ay pw w) A (ed elt cenv) VV E' s'->TT true s')->(∀s',NN s'->TT false s') ->
   (∀u s',ar (ay pw w) A (call (.builtin nm) [.ref D,u]) (λζ s5=>NN s5) E' s'->VV u s')->(∀m s',m<k->Inv m s'->NN s')->ar (ay pw w) A (fR it) DD E' s) ->
  ∀n s,Inv n s->cB (ay pw w) A (.compLoop e 0 it (.ref D) cenv) RR s
theorem Fh{tgt iter elt:Expr}{ifs:List Expr}{sc:Scope}{pos:dN}{it:af}{D:aB}{cenv:d9}{RR:fS->ag->Prop}(hnm:qh tgt=true):rA w A (VI tgt iter elt ifs sc pos) tgt elt ifs it D "list.append" cenv RR:=λInv turn n s h=>
 codeAny_compLoop_tests Inv (λk s h=>turn _ _ _ _ _ k s h (λs' h=>h) (λv s' h=>h) (λs' h=>h) (λs' h=>h) (λu s' h=>h) (λm s' a b=>⟨m,a,b⟩)) n h (λv=>xX hnm _ _)
theorem Nx{tgt:Expr}{it u:af}{cenv:d9}{Q:Unit->ag->Prop}(hnm:qh tgt=true)(h:ar (ay pw w) A (c6 tgt it u) (λζ s3=>ar (ay pw w) A (iD tgt cenv u) Q E s3) E s):ar (ay pw w) A (iD tgt cenv u) Q E s:=by
 have hb:iD tgt cenv u=(c6 tgt it u>>=λζ=>iD tgt cenv u):=by rw [xX hnm];rfl
 rw [hb]
 exact aa h
inductive VY(H0:Bs)(ZZ:aB->Prop)(St Ac:List PV->dC->dH->ag->Prop)(cx:Cx)(σ:bq)(cenv:d9)(step:List aO->PV->Option (Option PV × List aO))(ys:List PV)(R':List aO)(I:dC)(ρ:dH)(s:ag)(k:Nat)(s1:ag):Prop
 | mk (I1:dC) (ρ1:dH) (R1:List aO) (l done rest:List PV) (h:mj step l R1=some (rest,R')) (hy:ys=done++rest) (x:aS H0 eb ZZ I ρ s I1 ρ1 R1 s1) (O:b4 I1 ρ1 cx σ cenv s1.heap) (ac:Ac done I1 ρ1 s1) (t:St l I1 ρ1 s1) (e:k=l.length+1):VY H0 ZZ St Ac cx σ cenv step ys R' I ρ s k s1
theorem Fi{tgt elt e:Expr}{ifs:List Expr}{it:af}{St Ac:List PV->dC->dH->ag->Prop}{C D:aB}{nm:String}{RR:fS->ag->Prop}{l ys:List PV}{cenv:d9}{F:Aw}
  (pk:rA w A e tgt elt ifs it D nm cenv RR)(acc:QS H0 w A D nm ys Ac)(hR:cC H0 A (n+1))(G:Gd H0 I ρ R s.heap)(O:b4 I ρ cx σ cenv s.heap)(hac:Ac [] I ρ s)(hCD:C≠D)(hW:∀a,mI cenv a->a=C)(hZ:∀a,Z a->a≠C/\a≠D /\ ¬kK cenv a)(hDF:¬kK cenv D)
  (its:IU H0 w A tgt it Z St)(st:St l I ρ s)(htst:∀σ R,az (wf H0 w n cx ifs σ R) (F.tvs cx .And ifs σ R))(helt:∀σ R,az (ti H0 w n cx elt σ R) (F.ev cx elt σ R))(hnm:qh tgt=true)
  (hsub:∀x σ4,iC cx tgt x σ=some σ4->∀y v,σ.lookup y=some v->σ4.lookup y=some v)(hm:mj (ny F cx tgt elt ifs σ) l R=some (ys,R'))
  (hRR:∀I' ρ' s',aS H0 eb (λa=>Z a\/a=D\/a=C) I ρ s I' ρ' R' s'->b4 I' ρ' cx σ cenv s'.heap->Ac ys I' ρ' s'->RR (.ok .next) s'):cB (ay pw w) A (.compLoop e 0 it (.ref D) cenv) RR s:=by
 refine pk (VY H0 (λa=>Z a\/a=D\/a=C) St Ac cx σ cenv (ny F cx tgt elt ifs σ) ys R' I ρ s) (λE' DD TT VV NN k s1 q1 hD hDs hT hF hV hN=>?_) (l.length+1) s ⟨I,ρ,R,l,[],ys,hm,rfl,(a8.self G nb).z,O,hac,st,rfl⟩
 obtain⟨I1,ρ1,R1,l1,done,rest,hm1,hys,x1,O1,ac1,st1,e1⟩:=q1
 cases l1 with
 | nil=>
  refine ao (its.done I1 ρ1 R1 s1 _ x1.good st1) (λo s2 q=>?_) λζ ζ e=>e
  obtain⟨e2,I2,ρ2,x2⟩:=q
  cases hm1
  exact e2▸hD s2 (hRR I2 ρ2 s2 (x1.trans G (x2.moreZ λa ha=>av ha)) (O1.stepZ x2 (λζ h=>h.elim) λa ha=>(hZ a ha).2.2) (hys▸(aP done).symm▸acc.keep _ _ _ _ _ _ _ _ _ _ ac1 x2 id λh=>(hZ D h).2.1 rfl))
 | cons x l2=>
  obtain⟨ov,R7,hc,hm2⟩:=gF hm1
  obtain⟨rest2,R9,hm2,er⟩:=gF hm2
  obtain⟨σ4,hb,hc⟩:=ig hc
  obtain⟨c,R5,ht,hc⟩:=gF hc
  refine ao (its.item x l2 I1 ρ1 R1 s1 _ x1.good st1) (λo s2 q=>?_) λζ ζ e=>e
  obtain⟨u,e2,q⟩:=q
  refine e2▸hDs u s2 (Nx hnm (ao q (λζ s3 q=>?_) λζ ζ e=>e))
  obtain⟨I3,ρ3,x3,hu,st3⟩:=q
  refine(ao (yr hR.1 x3.good (O1.stepZ x3 (λζ h=>h.elim) λa ha=>(hZ a ha).2.2) hb hu) (λζ s4 q4=>?_) λζ ζ e=>e)
  obtain⟨I4,ρ4,x4,O4⟩:=q4
  refine ao (htst σ4 R1 _ ht A _ I4 ρ4 cenv s4 hR x4.good O4) (λok s5 q5=>?_) λζ ζ e=>e
  obtain⟨I5,ρ5,x5,eok⟩:=q5
  refine fb eok▸?_
  have x35:=x4.trans x3.good x5.weaken
  have ac5:=acc.keep _ _ _ _ _ _ _ _ _ (λζ=>False) (acc.keep _ _ _ _ _ _ _ _ _ _ ac1 x3 id λh=>(hZ D h).2.1 rfl) x35.z (λh=>hCD (hW D h).symm) id
  have st5:=its.keep l2 I3 ρ3 R1 s3 I5 ρ5 R5 s5 (mI cenv) (λζ=>False) x3.good st3 x35.z (λa ha=>⟨λh=>(hZ a ha).1 (hW a h),id⟩)
  have z5:=(x1.trans G (x3.moreZ λa ha=>av ha)).trans G (x35.asZ λa ha=>an (an (hW a ha)))
  have O5:=O4.step x5
  cases c with
  | false=>
   cases hc
   cases er
   exact hF s5 (hN _ s5 (e1▸dz _) ⟨I5,ρ5,_,l2,done,_,hm2,hys,z5,O5.sub (hsub _ _ hb),ac5,st5,rfl⟩)
  | true=>
   obtain⟨v,R6,hv,ev⟩:=gF (x:=F.ev cx elt σ4 R5) (k:=λv R3=>some (some v,R3)) hc
   cases ev
   cases er
   refine hT s5 (dM.then (helt σ4 R5 _ hv) hR x5.good O5 λI6 ρ6 u6 s6 x6 hu6 O6 G6=>hV u6 s6 ?_)
   refine acc.add done v rest2 u6 I6 ρ6 _ s6 _ _ hys x6.good (acc.keep _ _ _ _ _ _ _ _ _ (λζ=>False) ac5 x6.z id id) hu6 λs7 x7 ac7=>?_
   have x67:=x6.z.trans x5.good (x7.moreZ (Z':=λa=>a=D) λζ h=>h)
   exact hN _ s7 (e1▸dz _) ⟨I6,ρ6,_,l2,done++[v],rest2,hm2,by rw [hys,aQ];rfl,z5.trans G ((x6.asZ λζ h=>h.elim).trans x5.good (x7.moreZ λa ha=>an (av ha))),
    (O6.stepZ x7 (λζ h=>h.elim) (λa ha=>ha▸hDF)).sub (hsub _ _ hb),ac7,its.keep l2 I6 ρ6 _ s6 I6 ρ6 _ _ eb (λa=>a=D) x6.good (its.keep l2 I5 ρ5 R5 s5 I6 ρ6 _ s6 eb (λζ=>False) x5.good st5 x6.z (λa ha=>⟨id,id⟩)) x7 (λa ha=>⟨id,(hZ a ha).2.1⟩),rfl⟩
theorem kG{D:aB}(hn:¬fL I ρ D):I D=none:=by
 cases e:I D with
 | none=>rfl
 | some o=>exact absurd (av λh=>gC (h.symm.trans e)) hn
theorem Gd.addfact{h:fv}(G:Gd H0 I ρ R h){D:aB}{o:jf}(hd:h.get? D=some o)(hn:¬fL I ρ D)(hs:D ∉ H0.stk):Gd H0 (jV I D o) ρ R h:=by
 have hI:=kG hn
 have le:=nt (o:=o) hI
 refine⟨λb o' e=>?_,λb o' e=>le b o' (G.base b o' e),G.len,λi p r h1 h2=>?_,λi p r h1 h2 h3=>?_,G.apart,λb hb=>?_⟩
 ·unfold jV at e
  by_cases hb:b=D
  ·subst hb;rw [if_pos rfl]at e;cases e;exact hd
  ·rw [if_neg hb]at e;exact G.imm b o' e
 ·have:=lr.mono (I':=jV I D o) (δ:=[]) (hp':=h) le (λb o' ζ e=>e) (G.recs i p r h1 h2)
  rwa [aP]at this
 ·have h4:=G.dis i p r h1 h2 h3
  have hm:=be h1
  have e1:p.1≠D:=λe=>hn (an ⟨p,hm,av e.symm⟩)
  have e2:p.2≠D:=λe=>hn (an ⟨p,hm,an e.symm⟩)
  unfold jV
  rw [if_neg e1,if_neg e2]
  exact h4
 ·obtain⟨g1,g2⟩:=G.stk b hb
  refine⟨λq=>g1 ?_,g2⟩
  rcases q with q | q
  ·unfold jV at q
   rw [if_neg (λ(e:b=D)=>hs (e▸hb))]at q
   exact av q
  ·exact an q
theorem aS.addfact(x:aS H0 X Z I ρ s I' ρ' R' s'){D:aB}{o:jf}(hz:Z D)(hd:s'.heap.get? D=some o)(hn:¬fL I' ρ' D)(hs:D ∉ H0.stk):aS H0 X Z I ρ s (jV I' D o) ρ' R' s':=by
 have hI:=kG hn
 refine⟨λa o' e=>nt hI a o' (x.le a o' e),x.pre,λa h=>?_,x.keep,x.alive,x.good.addfact hd hn hs,x.os,x.gens⟩
 by_cases ha:a=D
 ·subst ha;exact an (an hz)
 ·rcases h with h | h
  ·unfold jV at h
   rw [if_neg ha]at h
   exact x.new a (av h)
  ·exact x.new a (an h)
theorem Cj{sc:Scope}{C:aB}{h:fv}(K:As cx σ sc)(O:b4 I ρ cx σ env h):(∀a,mI (vL sc (iS env sc.names []) C env) a->a=C) /\ ∀a,kK (vL sc (iS env sc.names []) C env) a->a=C\/kK env a:=
 ⟨λa ha=>ha.elim id λq=>(nomatch q.1),λa ha=>ha.imp id λ⟨x,hx⟩=>an ⟨x,(lb K O).2 x a hx⟩⟩
theorem oz{e:Expr}(h:cL e=true):∃x p,e = .Name x p:=gJ (C:=λe b=>b=true->∃x p,e = .Name x p) e (λζ h=>(bc h).elim) (λx p ζ=>⟨x,p,rfl⟩) h
theorem rU{e:Expr}(h:cL e=true):qh e=true:=by
 obtain⟨x,p,rfl⟩:=oz h
 rfl
theorem HJ{sc:Scope}{tgt:Expr}(K:As cx σ sc){b:Nat}(hnm:cL tgt=true)(x:PV)(σ4:bq)(hb:iC ⟨sc.names,b⟩ tgt x (eT sc.names σ)=some σ4)(y:Str)(v:PV)(hy:(eT sc.names σ).lookup y=some v):σ4.lookup y=some v:=by
 obtain⟨x0,p0,rfl⟩:=oz hnm
 obtain⟨hk,e⟩:=nl (c:=QG ⟨sc.names,b⟩ x0) (o:=some (jO (eT sc.names σ) x0 x)) hb
 refine aV e▸(iQ _ _ _ _).trans ((if_neg λh=>?_).trans hy)
 have h2:=K.uniq _ (sF y v σ _ hy).1
 rw [h]at h2
 rcases gt.mp hk with hk | hk<;>(have q:=(aJ hk).symm.trans h2;cases q)
theorem mH(x:a8 H0 X I ρ s I' ρ' R' s'){a:aB}(ha:s'.heap.get? a=none):s.heap.get? a=none:=by
 cases e:s.heap.get? a with
 | none=>rfl
 | some o=>exact absurd ha (x.alive a λh=>gC (h.symm.trans e))
theorem w9{e tgt elt:Expr}{ifs:List Expr}{sc:Scope}{it:af}{St Ac:List PV->dC->dH->ag->Prop}{use:Option (af->vN Unit)}{Q:af->ag->Prop}{l ys:List PV}{o:jf}{nm:String}{D:aB}{F:Aw}
  (hR:cC H0 A (n+1))(K:As cx σ sc)(G:Gd H0 I ρ R s.heap)(O:b4 I ρ cx σ env s.heap)(hZF:∀a,Z a->¬kK env a)(its:IU H0 w A tgt it Z St)(st:St l I ρ s)
  (htst:∀σ R,az (wf H0 w n ⟨sc.names,cx.base⟩ ifs σ R) (F.tvs ⟨sc.names,cx.base⟩ .And ifs σ R))(helt:∀σ R,az (ti H0 w n ⟨sc.names,cx.base⟩ elt σ R) (F.ev ⟨sc.names,cx.base⟩ elt σ R))(hnm:cL tgt=true)
  (hm:mj (ny F ⟨sc.names,cx.base⟩ tgt elt ifs (eT sc.names σ)) l R=some (ys,R'))(hDe:s.heap.objs.size=D)(ho:o.isFreed=false)(acc:QS H0 w A D nm ys Ac)(hac:∀(s':ag),s'.heap.get? D=some o->¬fL I ρ D->Ac [] I ρ s')
  (pk:∀(cenv:d9) (RR:fS->ag->Prop),rA w A e tgt elt ifs it D nm cenv RR)
  (start:∀(cenv:d9) (RR:fS->ag->Prop) (s4:ag),cB (ay pw w) A (.compLoop e 0 it (.ref D) cenv) RR s4->(∀E'',ar (ay pw w) A (mR it) (λit' s'=>cB (ay pw w) A (.compLoop e 0 it' (.ref D) cenv) RR s') E'' s4)->cB (ay pw w) A (.compStart e 0 it (.ref D) cenv) RR s4)
  (hQ:∀I' ρ' s' C m',s.heap.get? C=none->s.heap.get? D=none->C≠D->aS H0 eb (λa=>Z a\/a=D\/a=C) I ρ s I' ρ' R' s'->s'.heap.Ns C m'->¬fL I' ρ' C->Ac ys I' ρ' s'->rF (ay pw w) A E use Q (.ref D) C (.ok .next) s') :
  ar (ay pw w) A (kg sc env.globals (iS env sc.names []) [] env.qual none .none (some env)) (λcenv s4=>
    cB (ay pw w) A (.compStart e 0 it (.ref D) { cenv with scope:=relabel sc env }) (rF (ay pw w) A E use Q (.ref D) cenv.locals) s4) E { s with heap:=s.heap.push o }:=by
 refine wpAny_newFunctionEnv K.nocell (λy hy=>nomatch hy) (λh₁ hns₁ hsb₁=>?_) K.kind
 dsimp only at hns₁ hsb₁ ⊢
 have hC:(s.heap.push o).objs.size=D+1:=hDe▸iy ..
 generalize (s.heap.push o).objs.size=C at hns₁ hsb₁ hC
 have hCD:C≠D:=λq=>Jx D (hC.symm.trans q)
 have fresh:∀a,D<=a->s.heap.get? a=none:=λa ha=>by
  cases e:s.heap.get? a with
  | none=>rfl
  | some o'=>exact absurd (c8 e) (hDe▸dj.mpr ha)
 have hDn:=fresh D (aF _)
 have hCn:=fresh C (hC▸cX D)
 have hacc:h₁.get? D=some o:=hsb₁.extBut _ _ (di hCD) (au _ (hDe▸aU _ ho))
 have x4:a8 H0 eb I ρ s I ρ R { s with heap:=h₁,toks:=s.toks+([]:List (Str × af)).length }:=a8.quiet G nb (λa o ζ e=>hsb₁.extBut a o (λq=>gC (hCn.symm.trans (q▸e))) (au _ (au _ e))) (λζ h=>h.elim) rfl rfl
 have O4:=O.step x4
 have hZs:∀a,Z a->s.heap.get? a≠none:=λa ha=>(its.own l I ρ s st a ha).2
 have st4:=its.keep l I ρ R s I ρ R _ eb (λζ=>False) G st x4.z (λa ha=>⟨id,id⟩)
 obtain⟨hW,hF⟩:=Cj (C:=C) K O
 have loop:cB (ay pw w) A (.compLoop e 0 it (.ref D) (vL sc (iS env sc.names []) C env)) (rF (ay pw w) A E use Q (.ref D) C) { s with heap:=h₁,toks:=s.toks+([]:List (Str × af)).length }:=
  Fi (pk _ _) acc hR x4.good (Iu K O4 hns₁ (bA G hCn)) (hac _ hacc (bA G hDn)) hCD hW (λa ha=>⟨λq=>hZs a ha (q▸hCn),λq=>hZs a ha (q▸hDn),λq=>(hF a q).elim (λq=>hZs a ha (q▸hCn)) (hZF a ha)⟩)
   (λq=>(hF D q).elim (λq=>hCD q.symm) λq=>O.alive D q hDn) its st4 htst helt (rU hnm) (HJ K hnm) hm λI' ρ' s' x' O' hac'=>by
    obtain⟨m',hm',_⟩:=O'.ns
    exact hQ I' ρ' s' C m' hCn hDn hCD (aS.trans G x4.z x') hm' (O'.sep C (av rfl)) hac'
 exact start _ _ _ loop λE''=>its.self l I ρ _ _ _ st4 loop
noncomputable def W6(D:aB)(done:List PV)(I:dC)(ρ:dH)(s:ag):Prop:=∃xs,s.heap.PlainList D (bk xs) /\ ¬fL I ρ D/\aY I ρ done xs
theorem IP{D:aB}{ys:List PV}(hsz:ys.length<=SZ):QS H0 w A D "list.append" ys (W6 D) where
 keep:=λdone I ρ s I' ρ' R' s' X0 Z0 ⟨xs,⟨nD,eD⟩,h2,h3⟩ x hx hz=>
  let h:=x.held eD (bM rfl) h2 hx hz
  ⟨xs,⟨nD,h.1⟩,h.2,h3.leZ x⟩
 add:=λdone v r u I ρ R s E Q hys G ⟨xs,⟨nD,eD⟩,h2,h3⟩ hu k=>by
  refine wpAny_list_append_plain ⟨nD,eD⟩ (λh7 hl7 hs7=>?_) (ga (ah (by rw [aT,h3.length,hys,ai];exact dA _ _) hsz))
  exact k _ (aS.quiet G (λa ha=>ha▸h2) (λa o ha e=>(hs7.2 a ha).trans e) rfl rfl (λa ha=>ha▸G.notStk eD (bM rfl))) ⟨xs++[u],List.push_toArray .. ▸ hl7,h2,h3.append (aY.cons hu aY.nil)⟩
theorem vl{tgt iter elt:Expr}{ifs:List Expr}{sc:Scope}{pos:dN}{it:af}{St:List PV->dC->dH->ag->Prop}{use:Option (af->vN Unit)}{Q:af->ag->Prop}{l ys:List PV}{F:Aw}
  (hR:cC H0 A (n+1))(K:As cx σ sc)(G:Gd H0 I ρ R s.heap)(O:b4 I ρ cx σ env s.heap)(hZF:∀a,Z a->¬kK env a)(its:IU H0 w A tgt it Z St)(st:St l I ρ s)
  (htst:∀σ R,az (wf H0 w n ⟨sc.names,cx.base⟩ ifs σ R) (F.tvs ⟨sc.names,cx.base⟩ .And ifs σ R))(helt:∀σ R,az (ti H0 w n ⟨sc.names,cx.base⟩ elt σ R) (F.ev ⟨sc.names,cx.base⟩ elt σ R))(hnm:cL tgt=true)
  (hm:mj (ny F ⟨sc.names,cx.base⟩ tgt elt ifs (eT sc.names σ)) l R=some (ys,R'))(hsz:ys.length<=SZ)
  (hQ:∀I' ρ' s' C D m',s.heap.get? C=none->s.heap.get? D=none->aS H0 eb (λa=>Z a\/a=D\/a=C) I ρ s I' ρ' R' s'->s'.heap.Ns C m'->¬fL I' ρ' C->cq I' ρ' (.list ys) (.ref D)->rF (ay pw w) A E use Q (.ref D) C (.ok .next) s') :
  ar (ay pw w) A (newList []) (λacc s3=>ar (ay pw w) A (kg sc env.globals (iS env sc.names []) [] env.qual none .none (some env)) (λcenv s4=>
    cB (ay pw w) A (.compStart (VI tgt iter elt ifs sc pos) 0 it acc { cenv with scope:=relabel sc env }) (rF (ay pw w) A E use Q acc cenv.locals) s4) E s3) E s:=by
 refine cf (w9 (F:=F) hR K G O hZF its st htst helt hnm hm rfl rfl (IP hsz) (λs' e h=>⟨[],⟨0,e⟩,h,aY.nil⟩) (λζ ζ=>Fh (rU hnm)) (λcenv RR s4 h0 h=>codeAny_compStart_list h0 (h _)) λI' ρ' s' C m' hC hD hCD x hns hCo ⟨xs,⟨nD,eD⟩,hDo,hr⟩=>?_)
 have x5:=x.addfact (an (av rfl)) eD hDo (x.good.notStk eD (bM rfl))
 exact hQ _ ρ' s' C _ m' hC hD x5 hns (λq=>hCo (q.imp (λq=>by unfold jV at q;rwa [if_neg hCD]at q) id)) (qK hsz (if_pos rfl) (hr.leI (nt (kG hDo))))
theorem gb{tgt iter elt:Expr}{ifs:List Expr}{sc:Scope}{pos:dN}{l ys:List PV}{F:Aw}(K:qI cx σ sc=true)(hi:FN H0 w n cx tgt iter σ R l σ R1)
  (htst:∀σ R,az (wf H0 w n ⟨sc.names,cx.base⟩ ifs σ R) (F.tvs ⟨sc.names,cx.base⟩ .And ifs σ R))(helt:∀σ R,az (ti H0 w n ⟨sc.names,cx.base⟩ elt σ R) (F.ev ⟨sc.names,cx.base⟩ elt σ R))(hnm:cL tgt=true)
  (hm:mj (ny F ⟨sc.names,cx.base⟩ tgt elt ifs (eT sc.names σ)) l R1=some (ys,R2))(hsz:ys.length<=SZ):dM H0 w n cx (.ListComp elt [⟨tgt,iter,ifs,0⟩] sc pos) σ R (.list ys) R2:=by
 intro A E I ρ env s hR G O
 have K:=rL K
 rw [eval_ListComp]
 refine nQ (use:=none) rfl (hi.1 env) (lb K O).1 K.kind (λx hx hl=>by rw [K.uniq x hx,hl]) (ao (hi.2 A _ I ρ env s hR G O) (λu s1 q=>ao q (λit s2 q=>?_) λζ ζ e=>e) λζ ζ e=>e)
 obtain⟨I2,ρ2,Z,St,its,st,x2,O2,hz⟩:=q
 refine vl hR K x2.good O2 (λa ha hf=>O.alive a hf (hz a ha)) its st htst helt hnm hm hsz λI' ρ' s' C D m' hC hD x' hns hCo hu=>⟨m',hns,λh' hs'=>⟨I',ρ',aS.close G x2 (x'.trans x2.good (aS.moreZ (Z:=λa=>a=C) (aS.quiet x'.good (λa ha=>ha▸hCo) (λa o ha e=>(hs'.2 a ha).trans e) rfl rfl (λa ha=>ha▸x2.good.freshStk hC)) λa ha=>an (an ha))) (λa ha=>?_),hu⟩⟩
 exact ha.elim (hz a) λha=>ha.elim (λe=>e▸mH x2 hD) λe=>e▸mH x2 hC
set_option tactic.hygienic true in
theorem KS{tgt iter elt:Expr}{ifs:List Expr}{sc:Scope}{pos spos px:dN}{x:Str}{l ys:List PV}{F:Aw}(K0:qI cx σ sc=true)(hi:FN H0 w n cx tgt iter σ R l σ R1)
  (htst:∀σ R,az (wf H0 w n ⟨sc.names,cx.base⟩ ifs σ R) (F.tvs ⟨sc.names,cx.base⟩ .And ifs σ R))(helt:∀σ R,az (ti H0 w n ⟨sc.names,cx.base⟩ elt σ R) (F.ev ⟨sc.names,cx.base⟩ elt σ R))(hnm:cL tgt=true)
  (hm:mj (ny F ⟨sc.names,cx.base⟩ tgt elt ifs (eT sc.names σ)) l R1=some (ys,R2))(hsz:ys.length<=SZ)(hs:qG cx σ x (.list ys)=some σ') :
  yN H0 w n cx (.Assign [.Name x px] (.ListComp elt [⟨tgt,iter,ifs,0⟩] sc pos) spos) σ R .next σ' R2:=by
 intro A E I ρ env s hR G O
 have hsw:xi (.ListComp elt [⟨tgt,iter,ifs,0⟩] sc pos) (some (.Name x px)) spos.line env=b7 (env.blockKind == .function&&env.kindOf x==some .local&&px.line==(MA elt [⟨tgt,iter,ifs,0⟩] sc pos).pos.line
   && !(sc.names.any λ(n,k)=>n==x&&(k == .local||k == .cell))):=rfl
 generalize (env.blockKind == .function&&env.kindOf x==some .local&&px.line==(MA elt [⟨tgt,iter,ifs,0⟩] sc pos).pos.line && !(sc.names.any λ(n,k)=>n==x&&(k == .local||k == .cell)))=b at hsw
 cases b with
 | false=>
  refine wpAny_Assign_Name ((gb K0 hi htst helt hnm hm hsz).then hR G O λI1 ρ1 u s1 x1 hu O1 G1=>?_) hsw
  refine ao (ug G1 O1 hs hu) (λζ s2 q=>?_) λζ ζ e=>e
  obtain⟨I2,ρ2,x2,O2⟩:=q
  exact⟨I2,ρ2,x1.weaken.trans G x2,O2,rfl⟩
 | true=>
  have K:=rL K0
  rw [exec_Assign_Name_used _ _ _ _ hsw]
  refine aa (fu (aa ?_))
  refine aa (m:=comprehension (.ListComp elt [⟨tgt,iter,ifs,0⟩] sc pos) sc env _ (newList []) false (ed iter env) (some (iD (.Name x px) env))) (ao (nQ (use:=some (iD (.Name x px) env)) (Q:=λζ s'=>th H0 I ρ s env cx .next σ' R2 .next s') rfl (hi.1 env) (lb K O).1 K.kind (λx hx hl=>by rw [K.uniq x hx,hl])
   (ao (hi.2 A _ I ρ env s hR G O) (λu s1 q=>ao q (λit s2 q=>?_) λζ ζ e=>e) λζ ζ e=>e)) (λζ s' hq=>ab (ab hq)) λζ ζ e=>e)
  obtain⟨I2,ρ2,Z,St,its,st,x2,O2,hz⟩:=q
  refine vl hR K x2.good O2 (λa ha hf=>O.alive a hf (hz a ha)) its st htst helt hnm hm hsz λI' ρ' s' C D m' hC hD x' hns hCo hu=>?_
  have zf:∀a,(Z a\/a=D\/a=C)->s2.heap.get? a=none\/Z a:=λa ha=>ha.elim an λq=>av (q.elim (λq=>q▸hD) λq=>q▸hC)
  have O':=O2.stepZ x' (λζ h=>h.elim) λa ha hf=>(zf a ha).elim (O2.alive a hf) λhz'=>O.alive a hf (hz a hz')
  show ar _ A (iD (.Name x px) env (.ref D)) _ _ _
  refine ao (pg x'.good O' hs hu) (λζ s5 q=>?_) λζ ζ e=>e
  obtain⟨I5,ρ5,x5,O5⟩:=q
  have hCF:¬kK env C:=λq=>O2.alive C q hC
  have hC5:=(x5.z (Z:=λζ=>False)).heldNs hns hCo (λq=>hCF q.f) id
  refine⟨m',hC5.1,λh' hs'=>?_⟩
  have x6:aS H0 eb (λa=>a=C) I5 ρ5 s5 I5 ρ5 R2 { s5 with heap:=h' }:=aS.quiet x5.good (λa ha=>ha▸hC5.2) (λa o ha e=>(hs'.2 a ha).trans e) rfl rfl (λa ha=>ha▸x2.good.freshStk hC)
  have x56:=((x'.weaken (Y:=mI env) λζ h=>h.elim).trans x2.good x5.z).trans x2.good ((x6.moreZ (Z':=λa=>Z a\/a=D\/a=C) λa ha=>an (an ha)).weaken λζ h=>h.elim)
  exact⟨I5,ρ5,aS.close G x2.weaken x56 (λa ha=>(zf a ha).elim (mH x2) (hz a)),O5.stepZ x6 (λζ h=>h.elim) (λa ha=>ha▸hCF),rfl⟩
end
end
end Mine
end
section
namespace Mine
noncomputable section
set_option tactic.hygienic true in
theorem Ht(normal:List Str)(f:Str × af->List (Str × af) × List (Str × af)->vN (ForInStep (List (Str × af) × List (Str × af))))
  (hf:∀k v sl ex,normal.contains k=true->sl.lookup k=none->f (k,v) (sl,ex)=b7 (.yield (sl++[(k,v)],ex))):∀(kw sl r ex:List (Str × af)),Hu normal kw sl=some r->(pn kw (sl,ex) f:vN _)=b7 (r,ex):=by
 intro kw
 induction kw with
 | nil=>
  intro sl r ex h
  cases h;rfl
 | cons xq kw ih=>
  obtain⟨k,v⟩:=xq
  intro sl r ex h
  rw [zN]at h
  split at h
  ·rename_i hc
   simp only [bd,cK]at hc
   rw [ey,hf k v sl ex hc.1 hc.2]
   exact ih _ r ex h
  ·cases h
theorem Io(f:Str × af->List (Str × af)->vN (ForInStep (List (Str × af))))
  (hf:∀k v sl,f (k,v) sl=if(sl.lookup k).isNone=true then b7 (.yield (sl++[(k,v)]))else b7 (.yield sl)):∀(ds sl:List (Str × af)),(pn ds sl f:vN _)=b7 (Jq ds sl):=by
 intro ds
 induction ds with
 | nil=>
  intro sl
  exact rfl
 | cons xq ds ih=>
  obtain⟨k,v⟩:=xq
  intro sl
  rw [ey,hf]
  rw [vi]
  split
  ·exact ih _
  ·exact ih _
theorem yZ{α:Type}{M:vO}{A:bD}{E:af->ag->Prop}{s:ag}{m:vN α}{a:α}{Q:α->ag->Prop}(h:m=b7 a)(hq:Q a s):ar M A m Q E s:=by
 rw [h];exact ab hq
noncomputable def rp(fd:FuncData)(dv pos:List af)(l:List (Str × af))(Q:List (Str × af)->ag->Prop)(s:ag):Prop:=match fd.params.vararg with
 | none=>Q l s
 | some va=>(pos.drop (fd.params.posonlyargs.map (·.arg)++fd.params.args.map (·.arg)).length).length<=mQ /\
   Q (l++[(va.arg,.ref s.heap.objs.size)]) { s with heap:=s.heap.push { cls:=.type "tuple",data:=.seq (pos.drop (fd.params.posonlyargs.map (·.arg)++fd.params.args.map (·.arg)).length).toArray } }
set_option tactic.hygienic true in
theorem sK{M:vO}{A:bD}{E:af->ag->Prop}{s:ag}{fd:FuncData}{pos dv:List af}{kw l:List (Str × af)}{Q:List (Str × af)->ag->Prop}
  (hk:fd.params.kwonlyargs=[])(hw:fd.params.kwarg=none)
  (hd:(fd.defaults = .none/\dv=[]) \/ ∃T o n,fd.defaults = .ref T/\s.heap.get? T=some o/\o.data = .seq dv.toArray n)
  (hb:bindG fd.params dv pos kw=some l)(hq:rp fd dv pos l Q s):ar M A (rH fd ⟨pos,kw⟩) Q E s:=by
 unfold bindG at hb
 dsimp only at hb
 cases h1:Hu (fd.params.args.map (·.arg)) kw ((fd.params.posonlyargs.map (·.arg)++fd.params.args.map (·.arg)).zip pos)with
 | none=>rw [h1]at hb;cases hb
 | some slots=>
 rw [h1]at hb
 replace hb:(if _ then _ else _)=some l:=hb
 split at hb
 ·cases hb
 rename_i hc
 simp only [Bool.not_eq_true,iz,Bool.and_eq_false_iff,decide_eq_false_iff_not,dj,Bool.not_eq_false']at hc
 obtain⟨⟨hc1,hc2⟩,hc3⟩:=hc
 have hb:=aV hb
 unfold rH
 dsimp only
 rw [hk,hw]
 refine aa (yZ (Ht _ _ (λk v sl ex g1 g2=>by simp only [g1,g2];rfl) kw _ slots [] h1) ?_)
 dsimp only
 generalize hN:fd.params.posonlyargs.map (·.arg)++fd.params.args.map (·.arg)=N at *
 have fin:∀o:Option (Array af),(o.getD #[]).toList=dv->∀t:Option (Array af)->vN (List (Str × af)),ar M A (t o) Q E s->ar M A (ir fd.defaults>>=t) Q E s\/True:=λζ ζ ζ ζ=>an trivial
 have hseq:∃o:Option (Array af),(o.getD #[]).toList=dv /\ ∀(t:Option (Array af)->vN (List (Str × af))),ar M A (t o) Q E s->ar M A (ir fd.defaults>>=t) Q E s:=by
  rcases hd with ⟨h,rfl⟩ | ⟨T,o,n,h,h2,h3⟩
  ·exact⟨none,rfl,λt ht=>by rw [h];exact ht⟩
  ·refine⟨some dv.toArray,by simp,λt ht=>?_⟩
   rw [h]
   exact aa (c0 h2 h3 ht)
 obtain⟨o,ho,hgo⟩:=hseq
 refine hgo _ ?_
 rw [ho]
 have hcond:¬(decide (pos.length>N.length)&&fd.params.vararg.isNone)=true:=by
  rcases hc1 with h | h
  ·rw [h];simp
  ·simp;omega
 rw [if_neg hcond]
 have hd0:dv.drop (dv.length-N.length)=dv:=by
  rw [show dv.length-N.length=0 by exact o7 hc2];rfl
 rw [hd0]
 have hm:¬(!(List.filter (λn=>(fF n slots).isNone) (List.take (N.length-dv.length) N)).isEmpty)=true:=by rw [hc3];decide
 rw [if_neg hm]
 refine aa (yZ (Io _ (λk v sl=>by rfl) _ slots) ?_)
 refine aa (ab ?_)
 rw [if_neg (by simp)]
 unfold rp at hq
 simp only [lw,aP]
 rw [hb]
 cases hva:fd.params.vararg with
 | none=>rw [hva]at hq;exact ab hq
 | some va=>
  rw [hva,hN]at hq
  exact aa (rD (ab hq.2) hq.1)
section
variable {H0:Bs} {w:bF} {n m:Nat} {sp:Spec} {I I' I'':dC} {ρ ρ' ρ'':dH} {R R' R'' R1 R2:List aO} {cx:Cx} {σ σ' σ1 σ2:bq} {env:d9} {A:bD} {E:af->ag->Prop} {s s' s'':ag} {e l r t a b:Expr} {v:PV} {f:Fl} {X Y Z:aB->Prop}
noncomputable def fW(I:dC)(ρ:dH):List (Str × PV)->List (Str × af)->Prop
 | [],l=>l=[]
 | (x,v)::r,l=>∃u q,l=(x,u)::q/\cq I ρ v u/\fW I ρ r q
theorem fW.append:∀{a b:List (Str × PV)} {a' b':List (Str × af)},fW I ρ a a'->fW I ρ b b'->fW I ρ (a++b) (a'++b'):=by
 intro a
 induction a with
 | nil=>
  intro b a' b' h h'
  cases h;exact h'
 | cons xq r ih=>
  obtain⟨x,v⟩:=xq
  intro b a' b' h h'
  obtain⟨u,q,rfl,h1,h2⟩:=h
  exact⟨u,q++b',rfl,h1,ih h2 h'⟩
theorem fW.zip:∀{ns:List Str} {vs:List PV} {us:List af},aY I ρ vs us->fW I ρ (ns.zip vs) (ns.zip us)
 | [],vs,us,h=>rfl
 | n::ns,[],us,h=>by cases h;rfl
 | n::ns,v::vs,us,h=>by
  obtain⟨u,q,rfl,h1,h2⟩:=h
  exact⟨u,_,rfl,h1,fW.zip h2⟩
theorem fW.lookup{x:Str}:∀{a:List (Str × PV)} {a':List (Str × af)},fW I ρ a a'->(a.lookup x=none/\a'.lookup x=none) \/ ∃v u,a.lookup x=some v/\a'.lookup x=some u/\cq I ρ v u:=by
 intro a
 induction a with
 | nil=>
  intro a' h
  cases h;exact av ⟨rfl,rfl⟩
 | cons xq r ih=>
  obtain⟨y,v⟩:=xq
  intro a' h
  obtain⟨u,q,rfl,h1,h2⟩:=h
  rw [a9,a9]
  cases x==y with
  | true=>exact an ⟨v,u,rfl,rfl,h1⟩
  | false=>exact ih h2
set_option tactic.hygienic true in
theorem fW.kw(normal:List Str):∀{a sl r:List (Str × PV)} {a' sl':List (Str × af)},fW I ρ a a'->fW I ρ sl sl'->Hu normal a sl=some r->∃r',Hu normal a' sl'=some r'/\fW I ρ r r':=by
 intro a
 induction a with
 | nil=>
  intro sl r a' sl' h h' e
  cases h;cases e;exact⟨sl',rfl,h'⟩
 | cons xq a ih=>
  obtain⟨k,v⟩:=xq
  intro sl r a' sl' h h' e
  obtain⟨u,q,rfl,h1,h2⟩:=h
  rw [zN]at e ⊢
  split at e
  ·rename_i hc
   have hc':(normal.contains k&&(sl'.lookup k).isNone)=true:=by
    simp only [bd,cK]at hc ⊢
    refine⟨hc.1,?_⟩
    rcases h'.lookup (x:=k)with ⟨_,g⟩ | ⟨v,u,g,_⟩
    ·exact g
    ·rw [hc.2]at g;cases g
   rw [if_pos hc']
   refine ih h2 (h'.append ?_) e
   exact⟨u,[],rfl,h1,rfl⟩
  ·cases e
theorem fW.df:∀{a sl:List (Str × PV)} {a' sl':List (Str × af)},fW I ρ a a'->fW I ρ sl sl'->fW I ρ (Jq a sl) (Jq a' sl'):=by
 intro a
 induction a with
 | nil=>
  intro sl a' sl' h h'
  cases h;exact h'
 | cons xq a ih=>
  obtain⟨k,v⟩:=xq
  intro sl a' sl' h h'
  obtain⟨u,q,rfl,h1,h2⟩:=h
  rw [vi,vi]
  rcases h'.lookup (x:=k)with ⟨g,g'⟩ | ⟨v',u',g,g',_⟩
  ·rw [g,g']
   simp only [Option.isNone_none,if_true]
   refine ih h2 (h'.append ?_)
   exact⟨u,[],rfl,h1,rfl⟩
  ·rw [g,g']
   simp only [Option.isNone_some,a0,if_false]
   exact ih h2 h'
theorem fW.pick{sl:List (Str × PV)}{sl':List (Str × af)}(h:fW I ρ sl sl'):∀ns:List Str,fW I ρ (ns.filterMap λn=>(sl.lookup n).map (n,·)) (ns.filterMap λn=>(sl'.lookup n).map (n,·)):=by
 intro ns
 induction ns with
 | nil=>
  rfl
 | cons k ns ih=>
  rw [gr,gr]
  rcases h.lookup (x:=k)with ⟨g,g'⟩ | ⟨v',u',g,g',g2⟩
  ·rw [g,g'];exact ih
  ·rw [g,g']
   exact⟨u',_,rfl,g2,ih⟩
set_option tactic.hygienic true in
theorem fW.bindG{ps:iA}{dv pos:List PV}{du pu:List af}{kw l:List (Str × PV)}{ku:List (Str × af)}(hd:aY I ρ dv du)(hp:aY I ρ pos pu)(hk:fW I ρ kw ku)(h:bindG ps dv pos kw=some l) :
  ∃l',bindG ps du pu ku=some l'/\fW I ρ l l':=by
 unfold Mine.bindG at h ⊢
 dsimp only at h ⊢
 generalize hN:ps.posonlyargs.map (·.arg)++ps.args.map (·.arg)=N at *
 have hz:fW I ρ (N.zip pos) (N.zip pu):=fW.zip hp
 cases h1:Hu (ps.args.map (·.arg)) kw (N.zip pos)with
 | none=>rw [h1]at h;cases h
 | some slots=>
 obtain⟨slots',h1',hs⟩:=hk.kw _ hz h1
 rw [h1]at h
 rw [h1']
 simp only [gj]at h ⊢
 rw [hd.length,hp.length]
 have hf:∀ns:List Str,ns.filter (λn=>(slots'.lookup n).isNone)=ns.filter (λn=>(slots.lookup n).isNone):=λns=>by
  refine sm λx ζ=>?_
  rcases hs.lookup (x:=x)with ⟨g,g'⟩ | ⟨v',u',g,g',_⟩<;>rw [g,g']<;>rfl
 rw [hf]
 split at h
 ·cases h
 ·rename_i hc
  rw [if_neg hc]
  cases h
  exact⟨_,rfl,fW.pick (fW.df (fW.zip hd) hs) N⟩
end
end
end Mine
end
section
namespace Mine
noncomputable section
noncomputable def Cy(P:dZ)(f:aB)(fi:IY):Prop:=∃(qual:Str) (dV pm:af) (cd:aB),(KK pw P).lookup f=some (eh fi.fd qual dV pm cd)/\(cd,qual)∈CQ /\
 ((dV = .none/\fi.dflt=[]) \/ ∃(T:aB) (its:List af) (k:Nat),dV = .ref T/\(KK pw P).lookup T=some ⟨.type "tuple",none,.seq its.toArray k,#[]⟩ /\ ∀I ρ,aY I ρ fi.dflt its)/\zY fi.fd=true
theorem K8:∃v r,[Value.int (-1) 1148]=v::r/\(∃t,v = .int (-1) t)/\r=[]:=⟨_,_,rfl,⟨_,rfl⟩,rfl⟩
theorem K6:∃v r,[dT false,dT true]=v::r/\v = .bool false /\ ∃v r_1,r=v::r_1/\v = .bool true/\r_1=[]:=⟨_,_,rfl,rfl,_,_,rfl,rfl,rfl⟩
theorem K7:∃v r,[Value.none,Value.none,dT false,dT false]=v::r/\v = .none /\ ∃v r_1,r=v::r_1/\v = .none /\ ∃v r,r_1=v::r/\v = .bool false /\ ∃v r_2,r=v::r_2/\v = .bool false/\r_2=[]:=⟨_,_,rfl,rfl,_,_,rfl,rfl,_,_,rfl,rfl,_,_,rfl,rfl,rfl⟩
theorem K9:∃v r,[iE "" 955,iE "\n" 956]=v::r/\(([]:LS).length<=SZ/\ja []=true /\ ∃t,v = .str ⟨bk []⟩ t) /\ ∃v r_1,r=v::r_1/\(([10]:LS).length<=SZ/\ja [10]=true /\ ∃t,v = .str ⟨bk [10]⟩ t)/\r_1=[]:=
 ⟨_,_,rfl,⟨by decide,by decide,955,∅⟩,_,_,rfl,⟨by decide,by decide,956,∅⟩,rfl⟩
theorem NJ(P:dZ):Cy P 507 ⟨br (bK pw 35 1),[.str [],.str [10]]⟩:=⟨"StringIO.__init__",(.ref 500),(.str "io" 571),506,∅,cZ.mp ∅,an ⟨500,[.str "" 955,.str "\n" 956],0,rfl,∅,λI ρ=>K9⟩,∅⟩
theorem NI(P:dZ):Cy P 683 ⟨br (bK pw 35 25),[.int (-1)]⟩:=⟨"StringIO.read",(.ref 676),(.str "io" 571),682,∅,cZ.mp ∅,an ⟨676,[.int (-1) 1148],0,rfl,∅,λI ρ=>K8⟩,∅⟩
theorem NH(P:dZ):Cy P 796 ⟨br (bK pw 46 0),[.none,.none,.bool false,.bool false]⟩:=⟨"shlex.__init__",(.ref 789),(.str "cpy313.shlex" 1288),795,∅,cZ.mp ∅,an ⟨789,[.none,.none,.bool false,.bool false],0,rfl,∅,λI ρ=>K7⟩,∅⟩
theorem NG(P:dZ):Cy P 884 ⟨br (aK pw 47),[.bool false,.bool true]⟩:=⟨"split",(.ref 877),(.str "cpy313.shlex" 1288),883,∅,cZ.mp ∅,an ⟨877,[.bool false,.bool true],0,rfl,∅,λI ρ=>K6⟩,∅⟩
structure FR where
 a:aB
 q:Str
 pm:af
 cd:aB
noncomputable def FT:List FR:=[⟨64,"median_low",(.str "cpy313.statistics" 331),63⟩,⟨71,"median_high",(.str "cpy313.statistics" 331),70⟩,⟨144,"fspath",(.str "os" 454),143⟩,⟨158,"_get_sep",(.str "cpy313.posixpath" 480),157⟩,⟨165,"join",(.str "cpy313.posixpath" 480),164⟩,⟨172,"splitroot",(.str "cpy313.posixpath" 480),171⟩,⟨179,"normpath",(.str "cpy313.posixpath" 480),178⟩,⟨184,"commonpath",(.str "cpy313.posixpath" 480),183⟩,⟨203,"_index",(.str "io" 571),202⟩,⟨514,"StringIO.__translated",(.str "io" 571),513⟩,⟨521,"StringIO.__check",(.str "io" 571),520⟩,⟨803,"shlex.punctuation_chars",(.str "cpy313.shlex" 1288),802⟩,⟨833,"shlex.get_token",(.str "cpy313.shlex" 1288),832⟩,⟨840,"shlex.read_token",(.str "cpy313.shlex" 1288),839⟩,⟨862,"shlex.__iter__",(.str "cpy313.shlex" 1288),861⟩,⟨869,"shlex.__next__",(.str "cpy313.shlex" 1288),868⟩,⟨892,"quote",(.str "cpy313.shlex" 1288),891⟩,⟨899,"_law_way",(.str "law_ik0231_01" 1448),898⟩,⟨906,"_law_vote",(.str "law_ik0231_01" 1448),905⟩,⟨911,"_law_line",(.str "law_ik0231_01" 1448),910⟩,⟨918,"_law_places",(.str "law_ik0231_01" 1448),917⟩,⟨925,"_law_names",(.str "law_ik0231_01" 1448),924⟩,⟨932,"_law_rows",(.str "law_ik0231_01" 1448),931⟩,⟨937,"_law_text",(.str "law_ik0231_01" 1448),936⟩,⟨942,"_law_front",(.str "law_ik0231_01" 1448),941⟩,⟨947,"_law_value",(.str "law_ik0231_01" 1448),946⟩,⟨952,"_law_met",(.str "law_ik0231_01" 1448),951⟩,⟨959,"_law_seen",(.str "law_ik0231_01" 1448),958⟩,⟨964,"law",(.str "law_ik0231_01" 1448),963⟩]
noncomputable def Va:IY:=⟨br (aK pw 5),[]⟩
theorem Qc(P:dZ):FT.map (λy=>(KK pw P).lookup y.a)=FT.map λy=>some (eh ((E6 pw y.a).getD Va).fd y.q .none y.pm y.cd):=∅
theorem Qb:(FT.all λy=>((E6 pw y.a).getD Va).dflt.isEmpty&&(zY ((E6 pw y.a).getD Va).fd&&CQ.contains (y.cd,y.q)))=true:=∅
theorem ND:((Qd pw).all λx=>(FT.map (·.a)).contains x.1||[507,683,796,884].contains x.1)=true:=∅
theorem rd(P:dZ){f:aB}{fi:IY}(h:E6 pw f=some fi):Cy P f fi:=by
 rcases gt.mp (bu.mp ND (f,fi) (uH (l:=Qd pw) h))with q | q
 ·obtain⟨y,hy,e⟩:=aH.mp (cZ.mp q)
  subst e
  have h1:=ow (Qc P) y hy
  obtain⟨h2,h3⟩:=aM.mp (bu.mp Qb y hy)
  obtain⟨h3,h4⟩:=aM.mp h3
  rw [h]at h1 h2 h3
  exact⟨y.q,.none,y.pm,y.cd,h1,cZ.mp h4,av ⟨rfl,eO.mp h2⟩,h3⟩
 ·have one:∀{g:aB} {gi:IY},E6 pw g=some gi->Cy P g gi->f=g->Cy P f fi:=λe k q=>by
   subst q
   exact aV (e.symm.trans h)▸k
  have q:=cZ.mp q
  rcases aw.mp q with q | q
  ·exact one ∅ (NJ P) q
  rcases aw.mp q with q | q
  ·exact one ∅ (NI P) q
  rcases aw.mp q with q | q
  ·exact one ∅ (NH P) q
  ·exact one ∅ (NG P) (aC.mp q)
end
end Mine
end
section
namespace Mine
noncomputable section
section
variable {H0:Bs} {w:bF} {n m:Nat} {sp:Spec} {I I' I'':dC} {ρ ρ' ρ'':dH} {R R' R'' R1 R2:List aO} {cx:Cx} {σ σ' σ1 σ2:bq} {env:d9} {A:bD} {E:af->ag->Prop} {s s' s'':ag} {e l r t a b:Expr} {v:PV} {f:Fl} {X Y Z:aB->Prop}
theorem fW.of:∀{kw:List (Str × PV)} {kvs:List (Str × af)},Lp I ρ kw kvs->fW I ρ kw kvs
 | [],kvs,⟨h1,h2⟩=>by
  simp only [lw,bQ]at h1
  exact h1
 | (x,v)::kw,kvs,⟨h1,h2⟩=>by
  cases kvs with
  | nil=>cases h1
  | cons p q=>
   obtain⟨y,u⟩:=p
   simp only [aN,dF]at h1
   obtain⟨rfl,h1⟩:=h1
   obtain⟨u',q',e,h3,h4⟩:=h2
   injection e with e1 e2
   subst e1
   exact⟨u,q,rfl,h3,fW.of ⟨h1,e2▸h4⟩⟩
theorem fW.le{a:List (Str × PV)}{a':List (Str × af)}(x:a8 H0 X I ρ s I' ρ' R' s')(h:fW I ρ a a'):fW I' ρ' a a':=by
 induction a generalizing a' with
 | nil=>exact h
 | cons p r ih=>
  obtain⟨y,v⟩:=p
  obtain⟨u,q,rfl,h1,h2⟩:=h
  exact⟨u,q,rfl,h1.le x,ih h2⟩
theorem fW.names:∀{a:List (Str × PV)} {a':List (Str × af)},fW I ρ a a'->a'.map (·.1)=a.map (·.1):=by
 intro a
 induction a with
 | nil=>
  intro a' h
  cases h;rfl
 | cons xq r ih=>
  obtain⟨x,v⟩:=xq
  intro a' h
  obtain⟨u,q,rfl,h1,h2⟩:=h
  rw [aN,aN,ih h2]
theorem Cm(kindOf:Str->Option d3)(x:Str):∀(bs:List (Str × af)) (m:Str->Option af),(bs.map (·.1)).Nodup->bindL kindOf bs m x=if kindOf x=some .local then(match bs.lookup x with | some v=>some v | none=>m x)else m x:=by
 intro bs
 induction bs with
 | nil=>
  intro m _
  unfold bindL;split<;>rfl
 | cons xq r ih=>
  obtain⟨k,v⟩:=xq
  intro m h
  rw [aN,Jy]at h
  unfold bindL
  rw [ih _ h.2,a9]
  by_cases hx:x=k
  ·subst hx
   have hn:r.lookup x=none:=by
    cases e:r.lookup x with
    | none=>rfl
    | some u=>exact absurd (dE (f:=(·.1)) (mem_of_lookup e)) h.1
   rw [hn]
   by_cases hk:kindOf x=some .local
   ·simp [hk]
   ·simp [hk]
  ·have hb:(x==k)=false:=beq_eq_false_iff_ne.mpr hx
   rw [hb]
   by_cases hk:kindOf x=some .local
   ·rw [if_pos hk,if_pos hk]
    cases r.lookup x with
    | some u=>rfl
    | none=>
     show(if kindOf k=some .local then λy=>if y=k then some v else m y else m) x=m x
     by_cases hk':kindOf k=some .local
     ·rw [if_pos hk'];exact if_neg hx
     ·rw [if_neg hk']
   ·rw [if_neg hk,if_neg hk]
    show(if kindOf k=some .local then λy=>if y=k then some v else m y else m) x=m x
    by_cases hk':kindOf k=some .local
    ·rw [if_pos hk'];exact if_neg hx
    ·rw [if_neg hk']
theorem Cn(kindOf:Str->Option d3)(x:Str):∀(bs:List (Str × af)) (m:Str->Option af),(bs.map (·.1)).Nodup->bindC kindOf bs m x=if kindOf x=some .local then m x else(match bs.lookup x with | some v=>some v | none=>m x):=by
 intro bs
 induction bs with
 | nil=>
  intro m _
  unfold bindC;split<;>rfl
 | cons xq r ih=>
  obtain⟨k,v⟩:=xq
  intro m h
  rw [aN,Jy]at h
  unfold bindC
  rw [ih _ h.2,a9]
  by_cases hx:x=k
  ·subst hx
   have hn:r.lookup x=none:=by
    cases e:r.lookup x with
    | none=>rfl
    | some u=>exact absurd (dE (f:=(·.1)) (mem_of_lookup e)) h.1
   rw [hn]
   by_cases hk:kindOf x=some .local
   ·simp [hk]
   ·simp [hk]
  ·have hb:(x==k)=false:=beq_eq_false_iff_ne.mpr hx
   rw [hb]
   by_cases hk:kindOf x=some .local
   ·rw [if_pos hk,if_pos hk]
    show(if kindOf k=some .local then m else λy=>if y=k then some v else m y) x=m x
    by_cases hk':kindOf k=some .local
    ·rw [if_pos hk']
    ·rw [if_neg hk'];exact if_neg hx
   ·rw [if_neg hk,if_neg hk]
    cases r.lookup x with
    | some u=>rfl
    | none=>
     show(if kindOf k=some .local then m else λy=>if y=k then some v else m y) x=m x
     by_cases hk':kindOf k=some .local
     ·rw [if_pos hk']
     ·rw [if_neg hk'];exact if_neg hx
set_option tactic.hygienic true in
theorem jy(x:Str):∀(names:List (Str × d3)) (k:Nat) (acc:List (Str × aB)),(x,pA)∈names\/(acc.lookup x).isSome=true->((pt k names acc).lookup x).isSome=true:=by
 intro names
 induction names with
 | nil=>
  intro k acc h
  rcases h with h | h
  ·cases h
  ·exact h
 | cons xq r ih=>
  obtain⟨y,j⟩:=xq
  intro k acc h
  unfold pt
  split
  ·rename_i hj
   refine ih _ _ ?_
   rcases h with h | h
   ·rcases aw.mp h with h | h
    ·right;cases h;simp
    ·exact av h
   ·right
    rw [a9]
    cases x==y<;>first | rfl | exact h
  ·rename_i hj
   refine ih _ _ ?_
   rcases h with h | h
   ·rcases aw.mp h with h | h
    ·cases h;exact absurd rfl hj
    ·exact av h
   ·exact an h
theorem GQ{α:Type}(sl:List (Str × α)):∀ns:List Str,((ns.filterMap λn=>(sl.lookup n).map (n,·)).map (·.1)).Sublist ns:=by
 intro ns
 induction ns with
 | nil=>
  exact xn _
 | cons k ns ih=>
  rw [gr]
  cases h:sl.lookup k with
  | none=>exact(ih).cons _
  | some v=>exact(ih).cons_cons _
theorem Fs{α:Type}{ps:iA}{dv pos:List α}{kw l:List (Str × α)}(h:bindG ps dv pos kw=some l):(l.map (·.1)).Sublist (ps.posonlyargs.map (·.arg)++ps.args.map (·.arg)):=by
 unfold bindG at h
 dsimp only at h
 cases h1:Hu (ps.args.map (·.arg)) kw ((ps.posonlyargs.map (·.arg)++ps.args.map (·.arg)).zip pos)with
 | none=>rw [h1]at h;cases h
 | some slots=>
 rw [h1]at h
 simp only [gj]at h
 split at h
 ·cases h
 ·cases h
  exact GQ _ _
structure Lq(d:FD):Prop where
 kind:d.scope.kind = .function
 gen:d.scope.isGenerator=false
 co:d.scope.isCoroutine=false
 dbg:d.scope.names.lookup ("__debug__":Str)=none
 nofree:∀x∈d.scope.names,x.2 ≠ .free
 uniq:∀x∈d.scope.names,d.scope.names.lookup x.1=some x.2
 kwo:d.params.kwonlyargs=[]
 kwa:d.params.kwarg=none
 par:∀a∈d.params.posonlyargs++d.params.args++d.params.vararg.toList,d.scope.names.lookup a.arg=some .local\/d.scope.names.lookup a.arg=some .cell
 nodup:((d.params.posonlyargs++d.params.args++d.params.vararg.toList).map (·.arg)).Nodup
theorem rX{d:FD}(h:zY d=true):Lq d:=by
 unfold zY at h
 simp only [bd,bu,bne_iff_ne,beq_iff_eq,fT,ne_eq,decide_eq_true_eq,eO,cK,cG]at h
 obtain⟨⟨⟨⟨⟨⟨⟨⟨h1,h2⟩,h3⟩,h4⟩,h5⟩,h6⟩,h7⟩,h8⟩,h9⟩:=h
 exact⟨h1,h2,h3,h4,λx hx=>(h5 x hx).1,λx hx=>(h5 x hx).2,h6,h7,h8,h9⟩
theorem vr{d:FD}(K:Lq d){σ0:bq}{binds:List (Str × af)}(hb:fW I ρ σ0 binds)(hn:(σ0.map (·.1)).Nodup)(hp:∀x∈σ0,d.scope.names.lookup x.1=some .local\/d.scope.names.lookup x.1=some .cell)
  {qual:Str}{fa:aB}{code:af}{s0 s1:ag}(G:Gd H0 I ρ R s0.heap)(henv:env=newEnv d.scope s0.heap.objs.size da (pt (s0.heap.objs.size+1) d.scope.names []) qual (some fa) code none jK)
  (x:InCallC s0 env.locals (bindL env.kindOf binds λζ=>none) env.cells (bindC env.kindOf binds λζ=>none) s1)
  (hlaw:d.scope.names.lookup ("met":Str)=some .cell->code = .ref 951/\qual=("_law_met.<locals>.":Str)):b4 I ρ ⟨d.scope.names,R.length⟩ σ0 env s1.heap:=by
 have ek:∀y,env.kindOf y=d.scope.names.lookup y:=λy=>by rw [henv];rfl
 have hn':(binds.map (·.1)).Nodup:=by rw [hb.names];exact hn
 have fresh:∀a,s0.heap.objs.size<=a->¬fL I ρ a:=λa ha=>bA G (by
  cases e:s0.heap.get? a with
  | none=>rfl
  | some o=>exact absurd (c8 e) (dj.mpr ha))
 have hL:env.locals=s0.heap.objs.size:=by rw [henv];rfl
 have hcs:env.cells=pt (s0.heap.objs.size+1) d.scope.names []:=by rw [henv];rfl
 have cl:∀y,d.scope.names.lookup y=some .cell->∃c,env.cells.lookup y=some c:=λy hy=>by
  rw [hcs]
  exact fX.mp (jy y _ _ _ (av (mem_of_lookup hy)))
 refine⟨by rw [henv];exact K.kind,by rw [henv];rfl,by rw [henv];rfl,λy hy=>?_,λy hy=>?_,λy hy=>by rw [henv];rfl,λy hy=>?_,λy k hy hk=>?_,⟨_,x.toInCall.ns,λy v hy=>?_⟩,λa ha=>?_,λy z a h1 h2=>?_,λa ha=>?_,?_,λhy=>by rw [henv];exact hlaw hy⟩
 ·rw [ek];simpa [gl] using hy
 ·rw [ek];exact hy
 ·rw [ek];exact hy
 ·rcases hk with rfl | rfl
  ·refine⟨av (by rw [ek];exact hy),?_⟩
   obtain⟨c,hc⟩:=cl y hy
   exact⟨c,_,hc,x.cell y c hc⟩
  ·exact absurd rfl (K.nofree _ (mem_of_lookup hy))
 ·have hm:=mem_of_lookup hy
  rcases hb.lookup (x:=y)with ⟨g,_⟩ | ⟨v',u,g,g',hu⟩
  ·rw [hy]at g;cases g
  ·rw [hy]at g
   cases g
   have hk:=hp _ hm
   refine⟨?_,?_⟩
   ·show(d.scope.names.lookup y==some .globalImplicit)=false
    rcases hk with hk | hk<;>(rw [hk];rfl)
   ·rcases hk with hk | hk
    ·left
     have hk':env.kindOf y=some .local:=by rw [ek];exact hk
     refine⟨hk',u,?_,hu⟩
     rw [Cm env.kindOf y binds _ hn',if_pos hk',g']
    ·right
     have hk':env.kindOf y=some .cell:=by rw [ek];exact hk
     obtain⟨c,hc⟩:=cl y hk
     refine⟨av hk',c,u,hc,?_,hu⟩
     have:=x.cell y c hc
     rw [Cn env.kindOf y binds _ hn',if_neg (by rw [hk'];decide),g']at this
     exact this
 ·rcases ha with rfl | ⟨y,hy⟩
  ·exact fresh _ (by rw [hL];exact aF _)
  ·have:=x.above y a (mem_of_lookup hy)
   exact fresh _ (by rw [hL]at this;exact bg this)
 ·exact name_of_addr x.apart (mem_of_lookup h1) (mem_of_lookup h2)
 ·rcases ha with rfl | ⟨y,hy⟩
  ·obtain⟨o,_,_,g,_⟩:=x.toInCall.ns
   rw [g];exact λh=>nomatch h
  ·obtain⟨o,g,_⟩:=x.cell y a hy
   rw [g];exact λh=>nomatch h
 ·rw [ek];exact K.dbg
theorem aY.drop:∀(k:Nat) {l:List PV} {xs:List af},aY I ρ l xs->aY I ρ (l.drop k) (xs.drop k)
 | 0,l,xs,h=>h
 | k+1,[],xs,h=>by cases h;rfl
 | k+1,p::l,xs,h=>by
  obtain⟨u,q,rfl,h1,h2⟩:=h
  exact aY.drop k h2
theorem cC.deeper{k:Nat}(h:cC H0 A (k+1))(env:d9){L:aB}(hL:env.frame=some L)(hk:env.scope.kind ≠ .module):cC ⟨H0.heap,L::H0.stk⟩ (A.deeper env) k:=by
 refine⟨h.1,by have:=h.2.1;show A.depth+1+_<=_;exact o8 this,by have:=h.2.2.1;show A.units+3+_<=_;exact o9 this,?_⟩
 obtain⟨l,h1,h2,h3⟩:=h.2.2.2
 refine⟨env::l,by show A.frames.map _=_;rw [h1];rfl,by rw [aN,aN,hL,h2],λe he=>?_⟩
 rcases aw.mp he with rfl | he
 ·exact hk
 ·exact h3 e he
theorem Gd.pop{h:fv}{L:aB}(G:Gd ⟨H0.heap,L::H0.stk⟩ I ρ R h):Gd H0 I ρ R h:=⟨G.imm,G.base,G.len,G.recs,G.dis,G.apart,λa ha=>G.stk a (am _ ha)⟩
theorem Gd.push{h:fv}{L:aB}(G:Gd H0 I ρ R h)(h1:¬fL I ρ L)(h2:sN h L):Gd ⟨H0.heap,L::H0.stk⟩ I ρ R h:=⟨G.imm,G.base,G.len,G.recs,G.dis,G.apart,λa ha=>by
 rcases aw.mp ha with rfl | ha
 ·exact⟨h1,h2⟩
 ·exact G.stk a ha⟩
theorem a8.back{L:aB}(G:Gd H0 I ρ R s.heap)(x02:a8 H0 eb I ρ s I' ρ' R s')(x3:a8 ⟨H0.heap,L::H0.stk⟩ (mI env) I' ρ' s' I'' ρ'' R'' s'')(hfr:∀b,kK env b->s.heap.get? b=none):a8 H0 eb I ρ s I'' ρ'' R'' s'':=by
 refine⟨λa o e=>x3.le a o (x02.le a o e),?_,λa ha=>?_,λa o hn e=>?_,λa ha=>x3.alive a (x02.alive a ha),x3.good.pop,x3.os.trans x02.os,x3.gens.trans x02.gens⟩
 ·obtain⟨d1,e1⟩:=x02.pre
  obtain⟨d2,e2⟩:=x3.pre
  exact⟨d1++d2,by rw [e2,e1,aQ]⟩
 ·rcases x3.new a ha with q | q
  ·exact x02.new a q
  ·right
   cases e:s.heap.get? a with
   | none=>rfl
   | some o=>exact absurd q (x02.alive a (by rw [e];exact λh=>nomatch h))
 ·obtain⟨o1,e2,l1⟩:=x02.keep a o hn e
  by_cases hi:I' a=none
  ·refine(λ⟨o2,h2,l2⟩=>⟨o2,h2,l1.trans l2⟩) (x3.keep a o1 (λq=>?_) e2)
   rcases q with q | q
   ·rcases x02.new a (an q)with (q | q) | q
    ·have:=x02.le a _ (bj.mp q).choose_spec
     rw [hi]at this;cases this
    ·exact hn (av q)
    ·rw [e]at q;cases q
   ·rw [hfr a q.f]at e;cases e
  ·obtain⟨o2,h1⟩:=bj.mp hi
   have:=x02.good.imm a o2 h1
   rw [e2]at this
   cases this
   exact⟨o1,x3.good.imm a o1 (x3.le a o1 h1),l1⟩
theorem Kh:((Qd pw).all λx=>x.1==952 || !(x.2.fd.scope.names.lookup ("met":Str)==some .cell))=true:=∅
theorem NF{f:aB}{fi:IY}(h:E6 pw f=some fi)(hl:fi.fd.scope.names.lookup ("met":Str)=some .cell):f=952:=by
 rcases gt.mp (bu.mp Kh (f,fi) (uH (l:=Qd pw) h))with q | q
 ·exact aJ q
 ·exact absurd (beq_iff_eq.mpr hl) (λe=>by rw [e]at q;cases q)
theorem Ho{P:dZ}{fi:IY}{qual:Str}{dV pm:af}{cd:aB}{f:aB}(h:E6 pw f=some fi)(g:(KK pw P).lookup f=some (eh fi.fd qual dV pm cd))(hl:fi.fd.scope.names.lookup ("met":Str)=some .cell):jY cd = .ref 951/\qual++".<locals>."=("_law_met.<locals>.":Str):=by
 have:=NF h hl
 subst this
 have e:(KK pw P).lookup 952=some (eh (br (aK pw 60)) "_law_met" .none (.str "law_ik0231_01" 1448) 951):=∅
 rw [e]at g
 injection g with g
 injection g with _ _ g _
 injection g with g
 injection g with _ q1 _ _ _ _ _ _ _ _ _ _ q2
 injection q2 with q2
 subst q1 q2
 exact⟨rfl,∅⟩
set_option backward.match.sparseCases true in
theorem uZ(B:dy w H0.heap){f:aB}{fi:IY}(hf:E6 pw f=some fi){pos:List PV}{kw:List (Str × PV)}{σ0:bq}(hb:vv fi.fd.params fi.dflt pos kw=some σ0){pvs:List af}{kvs:List (Str × af)}(hR:cC H0 A (n+2))(G:Gd H0 I ρ R s.heap)
  (hp:aY I ρ pos pvs)(hk:Lp I ρ kw kvs){RR:fS->ag->Prop}
  (hbody:∀(I1:dC) (ρ1:dH) (env:d9) (s2:ag),b4 I1 ρ1 ⟨fi.fd.scope.names,R.length⟩ σ0 env s2.heap->Gd ⟨H0.heap,env.locals::H0.stk⟩ I1 ρ1 R s2.heap->cC ⟨H0.heap,env.locals::H0.stk⟩ (A.deeper env) (n+1)->env.frame=some env.locals->(∀b,kK env b->s.heap.get? b=none) ->
   a8 H0 eb I ρ s I1 ρ1 R s2->ar (ay pw w) (A.deeper env) (execs fi.fd.body env) (λg s'=>RR (.ok (.ret (match g with | .ret v=>v | _=>.none))) s')
    (λe s'=>ar (ay pw w) (A.deeper env) (leaving env e) (λζ s''=>RR (.error e) s'') (λe' s''=>RR (.error e') s'') s') s2) :
  cB (ay pw w) A (.call (.ref f) ⟨pvs,kvs⟩) RR s:=by
 obtain⟨qual,dV,pm,cd,g1,g2,g3,g4⟩:=rd w.params hf
 have K:=rX g4
 have B':=G.baseAt B
 have ho:=B'.k _ _ g1
 have hcd:=B'.c _ g2
 unfold vv at hb
 cases hg:bindG fi.fd.params fi.dflt pos kw with
 | none=>rw [hg]at hb;cases hb
 | some l0=>
 rw [hg]at hb
 simp only [gj]at hb
 obtain⟨dv,hdv,hdd⟩:∃dv,aY I ρ fi.dflt dv/\((dV = .none/\dv=[]) \/ ∃T o k,dV = .ref T/\s.heap.get? T=some o/\o.data = .seq (bk dv) k):=by
  rcases g3 with ⟨h1,h2⟩ | ⟨T,its,k,h1,h2,h3⟩
  ·exact⟨[],by rw [h2];exact aY.nil,av ⟨h1,rfl⟩⟩
  ·exact⟨its,h3 I ρ,an ⟨T,_,k,h1,B'.k _ _ h2,rfl⟩⟩
 obtain⟨l1,hg1,hr1⟩:=fW.bindG hdv hp (fW.of hk) hg
 have hsub:=Fs hg
 have hd0:A.depth<AM:=by
  have:=hR.2.1
  show A.depth<1000
  exact UU this
 refine Jc hd0 ho rfl K.co K.gen rfl hcd ?_
 have main:∀(I1:dC) (ρ1:dH) (binds:List (Str × af)) (s1:ag),a8 H0 eb I ρ s I1 ρ1 R s1->fW I1 ρ1 σ0 binds->(σ0.map (·.1)).Nodup->(∀x∈σ0,fi.fd.scope.names.lookup x.1=some .local\/fi.fd.scope.names.lookup x.1=some .cell) ->
   ar (ay pw w) A.in1 (kg fi.fd.scope da [] binds (qual++".<locals>.") (some f) (.ref cd) none jK)
    (λenv s₂=>s₂.heap.NoLimit/\cB (ay pw w) A (.func fi.fd.body env) RR s₂) (λe s'=>RR (.error e) s') s1:=by
  intro I1 ρ1 binds s1 x1 hrel hnd hpar
  have G1:=x1.good
  have hkd:∀y∈binds,fi.fd.scope.names.lookup y.1=some .local\/(fi.fd.scope.names.lookup y.1=some .cell/\((pt (s1.heap.objs.size+1) fi.fd.scope.names []).lookup y.1).isSome=true):=λy hy=>by
   have hm:y.1∈σ0.map (·.1):=by rw [<-hrel.names];exact dE hy
   obtain⟨z,hz,hz'⟩:=aH.mp hm
   have:=hpar z hz
   rw [hz']at this
   rcases this with h | h
   ·exact av h
   ·exact an ⟨h,jy y.1 _ _ _ (av (mem_of_lookup h))⟩
  refine mM K.kind hkd λenv henv s2 x2=>?_
  have O2:=vr K hrel hnd hpar G1 henv x2 (Ho hf g1)
  have x12:a8 H0 eb I1 ρ1 s1 I1 ρ1 R s2:=by
   obtain⟨h',tk,e⟩:=x2.toInCall.same
   exact a8.quiet G1 nb (λa o ζ e=>x2.toInCall.keep a o e) (λζ h=>h.elim) (by rw [e]) (by rw [e])
  have x02:=x1.trans G x12
  have G2:=x12.good
  have hfm:env.frame=some env.locals:=by rw [henv];rfl
  have hkm:env.scope.kind ≠ .module:=by rw [henv];show fi.fd.scope.kind≠_;rw [K.kind];decide
  have hfr:∀b,kK env b->s.heap.get? b=none:=λb hb=>by
   have hle:s1.heap.objs.size<=b:=by
    rcases hb with rfl | ⟨y,hy⟩
    ·rw [henv];exact aF _
    ·have:=x2.above y b (mem_of_lookup hy)
     rw [henv]at this
     exact bg this
   cases e':s.heap.get? b with
   | none=>rfl
   | some o'=>
    exfalso
    refine x1.alive b (by rw [e'];exact λh=>nomatch h) ?_
    cases e'':s1.heap.get? b with
    | none=>rfl
    | some o''=>exact absurd (c8 e'') (dj.mpr hle)
  have hst:sN s2.heap env.locals:=by
   obtain⟨m,⟨o,es,ep,q1,q2,_⟩,_⟩:=O2.ns
   exact⟨o,es,ep,q1,q2⟩
  refine⟨(G2.baseAt B).lim,codeAny_func ?_⟩
  exact hbody I1 ρ1 env s2 O2 (G2.push (O2.sep _ (av rfl)) hst) (hR.deeper env hfm hkm) hfm hfr x02
 refine sK (dv:=dv) K.kwo K.kwa hdd hg1 ?_
 unfold rp
 have hN:∀x∈l0,∃a∈fi.fd.params.posonlyargs++fi.fd.params.args,a.arg=x.1:=λx hx=>by
  have:=hsub.subset (dE (f:=(·.1)) hx)
  rw [<-bV]at this
  obtain⟨a,h1,h2⟩:=aH.mp this
  exact⟨a,h1,h2⟩
 have hnd0:((fi.fd.params.posonlyargs.map (·.arg)++fi.fd.params.args.map (·.arg))++fi.fd.params.vararg.toList.map (·.arg)).Nodup:=by
  have:=K.nodup
  rwa [bV,bV]at this
 have hl0:(l0.map (·.1)).Nodup:=hsub.nodup (List.nodup_append.mp hnd0).1
 show match fi.fd.params.vararg with | none=>_ | some va=>_
 cases hva:fi.fd.params.vararg with
 | none=>
  rw [hva]at hb
  have hb:l0=σ0:=aV hb
  subst hb
  exact main I ρ l1 s (a8.self G nb) hr1 hl0 λx hx=>by
   obtain⟨a,h1,h2⟩:=hN x hx
   rw [<-h2]
   exact K.par a (e9 _ h1)
 | some va=>
  rw [hva]at hb
  cases hmt:mkT (pos.drop (fi.fd.params.posonlyargs.map (·.arg)++fi.fd.params.args.map (·.arg)).length)with
  | none=>simp only [hmt]at hb;cases hb
  | some tv=>
  simp only [hmt,iZ,gH]at hb
  subst hb
  obtain⟨hlen,rfl⟩:=om hmt
  have hdr:=aY.drop (fi.fd.params.posonlyargs.map (·.arg)++fi.fd.params.args.map (·.arg)).length hp
  refine⟨by rw [hdr.length];exact ga hlen,?_⟩
  obtain⟨I1,ρ1,x1,hu⟩:=js G hdr hlen s.toks
  obtain⟨d1,e1⟩:=x1.pre
  have hR1:=x1.good.len
  refine main I1 ρ1 _ _ x1 ((hr1.le x1).append ?_) ?_ λx hx=>?_
  ·exact⟨_,[],rfl,hu,rfl⟩
  ·rw [bV]
   rw [hva]at hnd0
   exact(List.Sublist.append hsub (xn _)).nodup hnd0
  ·rcases dp.mp hx with hx | hx
   ·obtain⟨a,h1,h2⟩:=hN x hx
    rw [<-h2]
    exact K.par a (e9 _ h1)
   ·rw [aC]at hx
    subst hx
    exact K.par va (cg _ (by rw [hva];exact aC.mpr rfl))
theorem J1(B:dy w H0.heap){k:Nat}(hall:∀L cx ss σ R,az (CA ⟨H0.heap,L::H0.stk⟩ w n cx ss σ R) (exs sp k cx ss σ R)):dB H0 w (n+2) (nF sp pw k):=by
 intro f pos kw R v R' h A E I ρ s pvs kvs hR G hp hk
 obtain⟨fi,hf,h⟩:=ig h
 obtain⟨σ0,hb,h⟩:=ig h
 obtain⟨fl,y9,he,h⟩:=gF h
 refine uZ B hf hb hR G hp hk λI1 ρ1 env s2 O2 G2 hR2 ζ hfr x02=>?_
 refine ao (hall _ _ _ _ _ _ he _ _ I1 ρ1 env s2 hR2 G2 O2) (λg s3 q=>?_) λζ ζ e=>e
 obtain⟨I3,ρ3,x3,O3,hfl⟩:=q
 have x3':=a8.back G x02 x3 hfr
 cases fl with
 | ret v'=>
  obtain⟨u,rfl,hu⟩:=hfl
  cases h
  exact⟨I3,ρ3,x3',hu⟩
 | next=>
  cases h
  exact fb hfl▸⟨I3,ρ3,x3',oh⟩
 | brk=>cases h
 | cont=>cases h
end
end
end Mine
end
section
open PySem PySem.W PyProof.Rows PySem.Spec
namespace Mine
noncomputable section
mutual
noncomputable def pd:PV->PyData
 | .int i=>.int i
 | .str s=>.str ⟨s.toArray⟩
 | .list l=>.list (Bu l)
 | .tup l=>.tuple (Bu l)
 | _=>.none
noncomputable def Bu:List PV->List PyData
 | []=>[]
 | x::r=>pd x::Bu r
end
section
variable {H0:Bs} {w:bF} {n m:Nat} {sp:Spec} {I I' I'':dC} {ρ ρ' ρ'':dH} {R R' R'' R1 R2:List aO} {cx:Cx} {σ σ' σ1 σ2:bq} {env:d9} {A:bD} {E:af->ag->Prop} {s s' s'':ag} {e l r t a b:Expr} {v:PV} {f:Fl} {X Y Z:aB->Prop}
mutual
theorem Bv:∀(k j:Nat) (a b:PV),uA k a=true->uA j b=true->PyData.eqv (pd a) (pd b)=yv a b
 | k,j,.none,b,_,h=>by cases b<;>first | rfl | (cases j<;>cases h)
 | k,j,.int i,b,_,h=>by cases b<;>first | rfl | (cases j<;>cases h)
 | k,j,.str x,b,_,h=>by
  cases b with
  | str y=>
   show((⟨x.toArray⟩:Str)==⟨y.toArray⟩)=(x==y)
   cases e:x==y with
   | true=>rw [aJ e];exact beq_self_eq_true _
   | false=>
    rw [beq_eq_false_iff_ne]at e ⊢
    intro q
    injection q with q
    exact e (by simpa using q)
  | _=>first | rfl | (cases j<;>cases h)
 | k+1,j,.list x,b,hk,h=>by
  cases b with
  | list y=>
   cases j with
   | zero=>cases h
   | succ j=>
    exact xM k j x y hk h
  | _=>first | rfl | (cases j<;>cases h)
 | k+1,j,.tup x,b,hk,h=>by
  cases b with
  | tup y=>
   cases j with
   | zero=>cases h
   | succ j=>
    exact xM k j x y hk h
  | _=>first | rfl | (cases j<;>cases h)
 | 0,j,.list x,b,hk,h=>by cases hk
 | 0,j,.tup x,b,hk,h=>by cases hk
 | k,j,.bool x,b,hk,h=>by cases k<;>cases hk
 | k,j,.val x,b,hk,h=>by cases k<;>cases hk
 | k,j,.obj x,b,hk,h=>by cases k<;>cases hk
theorem xM:∀(k j:Nat) (a b:List PV),ol k a=true->ol j b=true->PyData.eqvAll (Bu a) (Bu b)=mG a b
 | k,j,[],b,_,h=>by cases b<;>rfl
 | k,j,x::r,b,hk,h=>by
  cases b with
  | nil=>rfl
  | cons y q=>
   have hk:=eA hk
   have h:=eA h
   exact congr (congrArg and (Bv k j x y hk.1 h.1)) (xM k j r q hk.2 h.2)
end
mutual
theorem qN{h:fv}(G:Gd H0 I ρ R h):∀(k:Nat) (a:PV) (u:af),uA k a=true->cq I ρ a u->(∃as,Reads h u (pd a) as)/\(pd a).canLay0=true/\(pd a).depth<=k
 | k,.none,u,_,hu=>by
  cases hu
  exact⟨⟨_,Reads.none⟩,rfl,bo _⟩
 | k,.int i,u,_,hu=>by
  obtain⟨t,rfl⟩:=hu
  exact⟨⟨_,Reads.int i t⟩,rfl,bo _⟩
 | k,.str x,u,_,hu=>by
  obtain⟨_,hs,t,rfl⟩:=hu
  refine⟨⟨_,Reads.str _ t⟩,?_,bo _⟩
  show Lu ⟨x.toArray⟩=true
  unfold ja at hs
  unfold Lu
  simpa using hs
 | k+1,.list x,u,hk,hu=>by
  obtain⟨_,a,xs,n,rfl,ha,hr⟩:=hu
  obtain⟨⟨as,h1⟩,h2,h3⟩:=oS G k x xs hk hr
  refine⟨⟨_,reads_list_at (G.imm _ _ ha) rfl rfl (by simpa using h1)⟩,h2,?_⟩
  show kA (Bu x)+1<=k+1
  exact LI h3
 | k+1,.tup x,u,hk,hu=>by
  obtain⟨_,a,xs,n,rfl,ha,hr⟩:=hu
  obtain⟨⟨as,h1⟩,h2,h3⟩:=oS G k x xs hk hr
  refine⟨⟨_,reads_tuple_at (G.imm _ _ ha) rfl rfl (by simpa using h1)⟩,h2,?_⟩
  show kA (Bu x)+1<=k+1
  exact LI h3
 | 0,.list x,u,hk,hu=>by cases hk
 | 0,.tup x,u,hk,hu=>by cases hk
 | k,.bool x,u,hk,hu=>by cases k<;>cases hk
 | k,.val x,u,hk,hu=>by cases k<;>cases hk
 | k,.obj x,u,hk,hu=>by cases k<;>cases hk
theorem oS{h:fv}(G:Gd H0 I ρ R h):∀(k:Nat) (a:List PV) (u:List af),ol k a=true->aY I ρ a u->(∃as,ReadsAll h u (Bu a) as)/\DJ (Bu a)=true/\kA (Bu a)<=k
 | k,[],u,_,hu=>by
  cases hu
  exact⟨⟨_,ReadsAll.nil⟩,rfl,bo _⟩
 | k,x::r,u,hk,hu=>by
  obtain⟨v,q,rfl,h1,h2⟩:=hu
  have hk:=eA hk
  obtain⟨⟨as,g1⟩,g2,g3⟩:=qN G k x v hk.1 h1
  obtain⟨⟨bs,e1⟩,e2,e3⟩:=oS G k r q hk.2 h2
  refine⟨⟨_,ReadsAll.cons g1 e1⟩,?_,?_⟩
  ·show((pd x).canLay0&&DJ (Bu r))=true
   rw [g2,e2];rfl
  ·show max (pd x).depth (kA (Bu r))<=k
   exact WV g3 e3
end
theorem cC.u64{k:Nat}(h:cC H0 A k):A.units+64<cLine:=by
 have:=h.2.2.1
 show A.units+64<9900
 exact WU this
theorem LZ{k:Nat}(hR:cC H0 A k)(G:Gd H0 I ρ R s.heap){a b:PV}{x y:af}{c:Bool}(h:AF a b=some c)(ha:cq I ρ a x)(hb:cq I ρ b y){Q:af->ag->Prop} :
  (Q (.bool c) s->ar (ay pw w) A (po .Eq x y) Q E s)/\(Q (.bool (!c)) s->ar (ay pw w) A (po .NotEq x y) Q E s):=by
 unfold AF at h
 have hk:(uA 6 a&&uA 6 b)=true:=by
  cases e:uA 6 a&&uA 6 b with
  | true=>rfl
  | false=>rw [e]at h;cases h
 rw [if_pos hk]at h
 rw [bd]at hk
 cases h
 obtain⟨⟨as,r1⟩,c1,d1⟩:=qN G 6 a x hk.1 ha
 obtain⟨⟨bs,r2⟩,c2,d2⟩:=qN G 6 b y hk.2 hb
 have s1:rI (pd a)=true:=by unfold rI;rw [c1,yI];exact decide_eq_true (ah d1 (by decide))
 have s2:rI (pd b)=true:=by unfold rI;rw [c2,yI];exact decide_eq_true (ah d2 (by decide))
 have e:=Bv 6 6 a b hk.1 hk.2
 exact⟨λq=>eq_dataH r1 r2 s1 s2 hR.u64 (by rw [e];exact q),λq=>ne_dataH r1 r2 s1 s2 hR.u64 (by rw [e];exact q)⟩
end
end
end Mine
end
section
open PySem PySem.W PyProof.Rows PySem.Spec
namespace Mine
noncomputable section
noncomputable def vB:Prop:=∀(w:bF) (A:bD) (E:af->ag->Prop) (s:ag) (a:aB) (Q:Bool->ag->Prop),L3 s.heap a->(∀t,Q false { s with toks:=t })->ar (ay pw w) A (FP (.ref a)) Q E s
section
variable {H0:Bs} {w:bF} {n m:Nat} {sp:Spec} {I I' I'':dC} {ρ ρ' ρ'':dH} {R R' R'' R1 R2:List aO} {cx:Cx} {σ σ' σ1 σ2:bq} {env:d9} {A:bD} {E:af->ag->Prop} {s s' s'':ag} {e l r t a b:Expr} {v:PV} {f:Fl} {X Y Z:aB->Prop}
theorem rN(G:Gd H0 I ρ R s.heap){k:Nat}{r:aO}{u:af}(hr:R[k]? = some r)(hu:cq I ρ (.obj k) u):∃p,ρ[k]? = some p/\u = .ref p.1/\lr I ρ s.heap p r:=by
 obtain⟨p,hp,rfl⟩:=hu
 exact⟨p,hp,rfl,G.recs k p r hp hr⟩
theorem JM{k:Nat}(h:k<=SZ):(k:Int)<2 ^ 63:=by
 have:(SZ:Int)<2 ^ 63:=by decide
 exact WT h this
inductive vz(I:dC)(ρ:dH)(h:fv)(l:List PV)(u:af):Prop
 | mk (a:aB) (xs:List af) (k:Nat) (e:u = .ref a) (hr:aY I ρ l xs) (hl:l.length<=SZ) (ha:h.get? a=some (cF (bk xs) k)\/h.get? a=some (mw (bk xs) k)):vz I ρ h l u
set_option tactic.hygienic true in
theorem tE(G:Gd H0 I ρ R s.heap){b:PV}{u:af}(hb:cq I ρ b u):az (λl=>vz I ρ s.heap l u) (lK R b):=by
 cases b
 case list l=>exact az.some (hb.list_el λa xs n hl ha hr=>⟨a,xs,n,rfl,hr,hl,av (G.imm _ _ ha)⟩)
 case tup l=>exact az.some (hb.tup_el λa xs n hl ha hr=>⟨a,xs,n,rfl,hr,hl,an (G.imm _ _ ha)⟩)
 case obj k=>
  intro l h
  obtain⟨r,hr,h⟩:=je.mp (h:R[k]?.bind LN=some l)
  cases r with
  | lst l'=>
   obtain⟨p,hp,e,h1,h2,xs,n,h3,h4⟩:=rN G hr hb
   cases h
   exact⟨_,xs,n,e,h4,h1,av h3⟩
  | _=>cases h
 all_goals exact az.none
theorem qH(G:Gd H0 I ρ R s.heap){b:PV}{u:af}{l:List PV}(h:lK R b=some l)(hb:cq I ρ b u):vz I ρ s.heap l u:=tE G hb l h
theorem rJ(G:Gd H0 I ρ R s.heap){l:List PV}{u:af}(q:vz I ρ s.heap l u):ar (ay pw w) A (FP u) (ry H0 I ρ s (!l.isEmpty) R) E s:=by
 obtain⟨a,xs,k,rfl,hr,hl,ha⟩:=q
 have he:(!xs.toArray.isEmpty) = !l.isEmpty:=by
  cases xs with
  | nil=>exact hr.isNil▸rfl
  | cons x xs=>
   cases l with
   | nil=>exact absurd hr.length (by simp)
   | cons y l=>simp
 have hf:(xs.toArray.size:Int)<2 ^ 63:=by rw [aT,hr.length];exact JM hl
 rcases ha with ha | ha
 ·exact wpAny_truthy_list ⟨_,ha,rfl,k,rfl⟩ hf ⟨I,ρ,a8.toks G nb _,he⟩
 ·exact truthy_tuple ⟨_,ha,rfl,k,rfl⟩ hf ⟨I,ρ,a8.toks G nb _,he⟩
theorem za(DT:vB)(G:Gd H0 I ρ R s.heap){x:PV}{u:af}{c:Bool}(h:qc R x=some c)(hx:cq I ρ x u):ar (ay pw w) A (FP u) (ry H0 I ρ s c R) E s:=by
 cases x with
 | none=>cases h;exact hx.none_el (truthy_none (kP G))
 | bool b=>cases h;exact hx.bool_el (gk (kP G))
 | int i=>exact aV h▸hx.int_el λt=>P.truthy_int ((show(i != 0)=decide (i≠0) by by_cases q:i=0<;>simp [q])▸kP G)
 | str l=>
  refine aV h▸hx.str_el λt h1 ζ=>P.truthy_str (by rw [dX];have:=JM h1;exact Ui this) ⟨I,ρ,a8.toks G nb _,?_⟩
  rw [dX]
  cases l<;>first | rfl | (simp;omega)
 | list l=>exact aV h▸rJ G (tE G (b:=.list l) hx l rfl)
 | tup l=>exact aV h▸rJ G (tE G (b:=.tup l) hx l rfl)
 | val v=>cases h
 | obj k=>
  obtain⟨r,hr,h⟩:=je.mp (h:R[k]?.bind Gf=some c)
  cases r with
  | lst l=>exact aV h▸rJ G (tE G (b:=.obj k) hx l (je.mpr ⟨_,hr,rfl⟩))
  | deq=>
   obtain⟨p,hp,e,hok⟩:=rN G hr hx
   cases h
   exact e▸DT w A E s p.1 _ hok.2 λt=>⟨I,ρ,a8.toks G nb t,rfl⟩
  | _=>cases h
set_option tactic.hygienic true in
theorem LQ(G:Gd H0 I ρ R s.heap){a b:PV}{x y:af}(ha:cq I ρ a x)(hb:cq I ρ b y):az (λc=>xk x y=b7 c) (U6 a b):=by
 cases b
 case none=>
  refine hb.none_el ?_
  rw [isSame_none]
  cases a
  case none=>exact az.some (ha.none_el rfl)
  case bool p=>exact az.some (ha.bool_el rfl)
  case int p=>exact az.some (ha.int_el λt=>rfl)
  case str p=>exact az.some (ha.str_el λt ζ ζ=>rfl)
  case list p=>exact az.some (ha.list_el λζ ζ ζ ζ ζ ζ=>rfl)
  case obj p=>exact az.some (ha.obj_el λζ ζ=>rfl)
  all_goals exact az.none
 case bool q=>
  refine hb.bool_el ?_
  cases a
  case bool p=>exact az.some (ha.bool_el (by cases p<;>cases q<;>rfl))
  case str p=>exact az.some (ha.str_el λt ζ ζ=>rfl)
  all_goals exact az.none
 case val v=>
  refine lH (C:=λb o=>cq I ρ b y->az (λc=>xk x y=b7 c) o) (.val v) (λζ ζ=>az.none) (λT hb=>hb.val_el ?_) hb
  refine lH (C:=λa o=>cq I ρ a x->az (λc=>xk x (.type T)=b7 c) o) a (λζ ζ=>az.none) (λU ha=>ha.val_el (az.some ?_)) ha
  show(b7 (lE U==lE T):vN Bool)=_
  congr 1
  by_cases e:U=T
  ·subst e;rw [beq_self_eq_true,beq_self_eq_true]
  ·rw [beq_eq_false_iff_ne.mpr e,beq_eq_false_iff_ne]
   intro h
   injection h with h
   exact e h
 all_goals exact az.none
theorem Lk(a:PV)(ha:uA 6 a=true):∀l:List PV,l.all (uA 6)=true->((Bu l).any λy=>PyData.eqv y (pd a))=l.any λx=>yv x a:=by
 intro l
 induction l with
 | nil=>
  intro _
  exact rfl
 | cons z r ih=>
  intro h
  simp only [Mz,bd]at h
  simp only [Bu,qw]
  rw [ih h.2,Bv 6 6 z a h.1 ha]
theorem Kb:∀l:List PV,l.all (uA 6)=true->ol 6 l=true:=by
 intro l
 induction l with
 | nil=>
  intro _
  exact rfl
 | cons z r ih=>
  intro h
  exact aM.mpr ((aM.mp h).imp id (ih))
section
variable (w A E s)
noncomputable def Om(x y:af)(Q:af->ag->Prop)(c:Bool):Prop:=(Q (.bool c) s->ar (ay pw w) A (po .In x y) Q E s)/\(Q (.bool (!c)) s->ar (ay pw w) A (po .NotIn x y) Q E s)
end
theorem in_str{l:LS}{c1:Nat}{t u:tU}{Q:af->ag->Prop}:Om w A E s (.str (S [c1]) t) (.str (S l) u) Q (l.contains c1):=by
 have e:(l.contains c1)=_:=(show(decide (c1∈(S l).cps.toList))=l.contains c1 by show decide (c1∈l.toArray.toList)=_;rw [qq,kB])▸(StrLaws.found_one (S l) c1).symm
 exact e▸⟨λq=>P.in_str q,λq=>P.notIn_str q⟩
theorem Nt{k:Nat}(hR:cC H0 A k)(G:Gd H0 I ρ R s.heap){a:PV}{l:List PV}{x y:af}(h:(uA 6 a&&l.all (uA 6))=true)(ha:cq I ρ a x)(hb:vz I ρ s.heap l y){Q:af->ag->Prop}:Om w A E s x y Q (l.any λx=>yv x a):=by
 obtain⟨h1,h2⟩:=aM.mp h
 obtain⟨adr,xs,j,rfl,hr,hlen,hat⟩:=hb
 obtain⟨⟨as,r1⟩,c1,d1⟩:=qN G 6 a x h1 ha
 obtain⟨⟨bs,r2⟩,c2,d2⟩:=oS G 6 l xs (Kb l h2) hr
 have hu:A.units+1+yO (kA (Bu l)) (pd a).depth<cLine:=by
  have:=hR.u64
  exact WS d2 this
 rw [<-Lk a h1 l h2]
 rcases hat with hat | hat
 ·have rl:=reads_list_at hat rfl rfl (by simpa using r2)
  exact⟨λq=>SeqAt.in_list_reads rl r1 c2 c1 hu q,λq=>SeqAt.notIn_list_reads rl r1 c2 c1 hu q⟩
 ·have rl:=reads_tuple_at hat rfl rfl (by simpa using r2)
  exact⟨λq=>SeqAt.in_tuple_reads rl r1 c2 c1 hu q,λq=>SeqAt.notIn_tuple_reads rl r1 c2 c1 hu q⟩
theorem LR{k:Nat}(hR:cC H0 A k)(G:Gd H0 I ρ R s.heap){a b:PV}{x y:af}(ha:cq I ρ a x)(hb:cq I ρ b y){Q:af->ag->Prop}:az (Om w A E s x y Q) (Nu R a b):=
 az.optO (λζ=>m8 (C:=λb o=>cq I ρ b y->az (Om w A E s x y Q) o) b (λζ ζ=>az.none) (λl hb=>m8 (C:=λa o=>cq I ρ a x->az (Om w A E s x y Q) o) a (λζ ζ=>az.none)
   (λm ha=>fg (C:=λm o=>cq I ρ (.str m) x->az (Om w A E s x y Q) o) m (λζ ζ=>az.none) (λc ha=>ha.str_el λt ζ ζ=>hb.str_el λu ζ ζ=>az.some in_str) ha) ha) hb)
  λl hl=>az.grd λh=>az.some (Nt hR G h ha (qH G hl hb))
noncomputable def CB(H0:Bs)(w:bF)(A:bD)(E:af->ag->Prop)(I:dC)(ρ:dH)(R:List aO)(s:ag)(op:mX)(x y:af)(c:Bool):Prop:=ar (ay pw w) A (po op x y) (fM H0 I ρ s (.bool c) R) E s
theorem az.neg{P P':Bool->Prop}{o:Option Bool}(h:az P o)(k:∀c,P c->P' (!c)):az P' (o.map not):=match o,h with
 | Option.none,_=>az.none
 | Option.some c,h=>az.some (k c (h c rfl))
theorem tT{op:mX}{a b:PV}{x y:af}{f:Int->Int->Bool}(ha:cq I ρ a x)(hb:cq I ρ b y)(h:∀i j t u,CB H0 w A E I ρ R s op (.int i t) (.int j u) (f i j)):az (CB H0 w A E I ρ R s op x y) (IA a b f):=
 lQ (C:=λa o=>cq I ρ a x->az (CB H0 w A E I ρ R s op x y) o) a (λζ ζ=>az.none) (λi ha=>lQ (C:=λb o=>cq I ρ b y->az (CB H0 w A E I ρ R s op x y) o) b (λζ ζ=>az.none) (λj hb=>ha.int_el λt=>hb.int_el λu=>az.some (h i j t u)) hb) ha
theorem Vd{k:Nat}(hR:cC H0 A k)(G:Gd H0 I ρ R s.heap){op:mX}{a b:PV}{x y:af}(ha:cq I ρ a x)(hb:cq I ρ b y):az (CB H0 w A E I ρ R s op x y) (td R op a b):=by
 have fin:∀c:Bool,fM H0 I ρ s (PV.bool c) R (dT c) s:=λc=>ef G jq
 cases op with
 | Eq=>exact az.grd λζ c h=>(LZ hR G h ha hb).1 (fin c)
 | NotEq=>exact az.neg (P:=λc=>CB H0 w A E I ρ R s .NotEq x y (!c)) (λc h=>(LZ hR G h ha hb).2 (fin _)) λζ h=>h
 | Is=>
  refine(LQ G ha hb).mono λc e=>?_
  show ar _ A (do return dT (<-xk x y)) _ E s
  exact e.symm▸aa (ab (ab (fin c)))
 | IsNot=>
  refine az.neg (LQ G ha hb) λc e=>?_
  show ar _ A (do return dT (!(<-xk x y))) _ E s
  exact e.symm▸aa (ab (ab (fin _)))
 | In=>exact λc h=>(LR hR G ha hb c h).1 (fin c)
 | NotIn=>exact az.neg (P:=λc=>CB H0 w A E I ρ R s .NotIn x y (!c)) (λc h=>(LR hR G ha hb c h).2 (fin _)) λζ h=>h
 | Lt=>exact tT ha hb λi j t u=>P.lt_int (fin _)
 | LtE=>exact tT ha hb λi j t u=>P.le_int (fin _)
 | Gt=>exact tT ha hb λi j t u=>P.gt_int (fin _)
 | GtE=>exact tT ha hb λi j t u=>P.ge_int (fin _)
theorem Iz{k:Nat}(hR:cC H0 A k)(G:Gd H0 I ρ R s.heap){op:mX}{a b:PV}{x y:af}{c:Bool}(h:td R op a b=some c)(ha:cq I ρ a x)(hb:cq I ρ b y):ar (ay pw w) A (po op x y) (fM H0 I ρ s (.bool c) R) E s:=Vd hR G ha hb c h
end
end
end Mine
end
section
open PySem PySem.W PyProof.Rows PySem.Spec
namespace Mine
noncomputable section
section
variable {H0:Bs} {w:bF} {n m:Nat} {sp:Spec} {I I' I'':dC} {ρ ρ' ρ'':dH} {R R' R'' R1 R2:List aO} {cx:Cx} {σ σ' σ1 σ2:bq} {env:d9} {A:bD} {E:af->ag->Prop} {s s' s'':ag} {e l r t a b:Expr} {v:PV} {f:Fl} {X Y Z:aB->Prop}
theorem wr{value slice:Expr}{pos:dN}{Q:af->ag->Prop}
  (h:ar (ay pw w) A (ed value env) (λo s₁=>ar (ay pw w) A (ed slice env) (λi s₂=>∃T id,mO (.type T) "__getitem__"=b7 (some (.builtin id))/\s₂.TypeIs o T/\(∀r,iY value o r=b7 ()) /\
   (lz slice false o i=vH [o,i] (lv o i)\/lz slice false o i=vH [i,o] (lv o i))/\ar (ay pw w) A (lv o i) Q E s₂) E s₁) E s) :
  ar (ay pw w) A (ed (.Subscript value slice pos) env) Q E s:=by
 rw [eval_Subscript]
 refine aa (ao h (λo s₁ h₁=>aa (aW (ao h₁ (λi s₂ h₂=>aa (fu ?_)) λζ ζ x=>x))) λζ ζ x=>x)
 obtain⟨T,id,hl,hT,ht,hs,hg⟩:=h₂
 refine aa ?_
 rw [getitemInPython_of_ne hT.not_modules]
 refine aa (gh hT hl ?_)
 refine ab ?_
 have fin:∀vs,ar (ay pw w) A (vH vs (lv o i)) (λr s₃=>ar (ay pw w) A (iY value o r>>=λζ=>b7 r) Q E s₃) E s₂:=λvs=>
  wpAny_operating (ao hg (λr s₃ h₃=>aa (ci (ht r) (ab h₃))) λζ ζ x=>x)
 show ar _ A (lz slice false o i>>=_) _ _ _
 rcases hs with hs | hs
 ·rw [hs];exact aa (fin _)
 ·rw [hs];exact aa (fin _)
theorem aY.at{l:List PV}{xs:List af}:∀{i:Nat} {v:PV},aY I ρ l xs->l[i]? = some v->∃u,xs[i]? = some u/\cq I ρ v u:=by
 induction l generalizing xs with
 | nil=>intro i v h e;simp at e
 | cons p r ih=>
  intro i v h e
  obtain⟨u,q,rfl,h1,h2⟩:=h
  cases i with
  | zero=>simp only [List.getElem?_cons_zero,gH]at e;subst e;exact⟨u,rfl,h1⟩
  | succ i=>
   obtain⟨z,g1,g2⟩:=ih (i:=i) h2 (by simpa using e)
   exact⟨z,by simpa using g1,g2⟩
theorem Ep{α:Type}(l:List α)(i:Int):iB l i=(KC i l.length).bind (l[·]?):=by
 unfold iB KC
 by_cases h0:0<=i
 ·rw [if_pos h0,if_pos h0]
  by_cases h1:i<l.length
  ·rw [if_pos h1];rfl
  ·rw [if_neg h1,g9 (VB (md.mp h1))];rfl
 ·rw [if_neg h0,if_neg h0]
  by_cases h1:0<=i+l.length
  ·rw [if_pos h1,if_pos h1];rfl
  ·rw [if_neg h1,if_neg h1];rfl
theorem HG{i:Int}{n j:Nat}(h:KC i n=some j):(0<=i/\i<n/\i.toNat=j)\/(i<0/\0<=i+n/\(i+n).toNat=j):=by
 unfold KC at h
 by_cases h0:0<=i
 ·rw [if_pos h0]at h
  by_cases h1:i<n
  ·rw [if_pos h1]at h;exact av ⟨h0,h1,aV h⟩
  ·rw [if_neg h1]at h;cases h
 ·rw [if_neg h0]at h
  by_cases h1:0<=i+n
  ·rw [if_pos h1]at h;exact an ⟨Int.not_le.mp h0,h1,aV h⟩
  ·rw [if_neg h1]at h;cases h
theorem Kx(G:Gd H0 I ρ R s.heap){x v:PV}{i:Int}{u y:af}(h:wV R x i=some v)(hu:cq I ρ x u)(hy:cq I ρ (.int i) y) :
  (∃T id,mO (.type T) "__getitem__"=b7 (some (.builtin id))/\s.TypeIs u T)/\ar (ay pw w) A (lv u y) (fM H0 I ρ s v R) E s:=by
 obtain⟨t,rfl⟩:=hy
 obtain⟨l,hl,h⟩:=ig h
 rw [Ep]at h
 obtain⟨j,hj,h⟩:=je.mp h
 obtain⟨a,xs,k,rfl,hr,hlen,hat⟩:=qH G hl hu
 obtain⟨z,hz,hrz⟩:=hr.at h
 have hxl:=hr.length
 have hS':(l.length:Int)<=1000000:=VE (show l.length<=1000000 from hlen)
 have hz':xs.toArray[j]? = some z:=by rw [bU];exact hz
 have hj:=HG hj
 have hlo : -(2 ^ 63)<=i:=hj.elim (λq=>iM (by decide) q.1) λq=>iM (iM (by decide) (Int.neg_le_neg hS')) (VD q.2.1)
 have hhi:i<2 ^ 63:=hj.elim (λq=>F6 q.2.1 (iM hS' (by decide))) λq=>Int.lt_trans q.1 (by decide)
 rcases hat with hat | hat
 ·refine⟨⟨"list",_,slot_list_getitem.lookup,_,hat,rfl⟩,?_⟩
  rcases hj with ⟨h0,h1,rfl⟩ | ⟨h0,h1,rfl⟩
  ·exact wpAny_getItem_list ⟨_,hat,rfl,k,rfl⟩ h0 hhi hz' (ef G hrz)
  ·exact wpAny_getItem_list_neg ⟨_,hat,rfl,k,rfl⟩ h0 (by rw [aT,hxl];exact VD h1) hlo (by rw [aT,hxl];exact hz') (ef G hrz)
 ·refine⟨⟨"tuple",_,tV.lookup,_,hat,rfl⟩,P.getItem_tuple hat hlo hhi ?_ hz' (ef G hrz)⟩
  rw [aT,hxl]
  unfold seqIndex?
  rcases hj with ⟨h0,h1,rfl⟩ | ⟨h0,h1,rfl⟩
  ·simp only [if_neg (WR h0)]
   rw [if_pos (by simp;exact⟨h0,h1⟩)]
  ·simp only [if_pos h0]
   rw [if_pos (by simp;exact WQ h1 h0)]
noncomputable def oy(a:Option Int)(n:Nat):Nat:=(a.map (jU · n)).getD 0
noncomputable def v5(b:Option Int)(n:Nat):Nat:=(b.map (jU · n)).getD n
theorem Ch{i:Int}{n:Nat}(h:i<0):(jU i n:Int)=max 0 (i+n):=by
 unfold jU;rw [if_pos h];exact qx (Int.le_max_left 0 _)
theorem Cg{i:Int}{n:Nat}(h:¬i<0):(jU i n:Int)=yO i n:=by
 unfold jU;rw [if_neg h];exact qx (Int.le_min.mpr ⟨md.mp h,gS n⟩)
theorem G7{i:Int}{n:Nat}(h:i<0):i+n<=n:=iM (sW (DR h n)) (Int.le_of_eq (Int.zero_add n))
theorem Aj(i:Int)(n:Nat):jU i n<=n:=iL.mp (by
 by_cases h:i<0
 ·rw [Ch h];exact Int.max_le.mpr ⟨gS n,G7 h⟩
 ·rw [Cg h];exact Int.min_le_right _ _)
theorem Nd(a:Option Int)(n:Nat):oy a n<=n:=by cases a<;>first | exact bo _ | exact Aj _ _
theorem Nv(a:Option Int)(n:Nat):v5 a n<=n:=by cases a<;>first | exact aF _ | exact Aj _ _
theorem pf(i:Int)(n:Nat):max 0 (yO (if i<0 then i+n else i) (n:Int))=(jU i n:Int):=by
 by_cases h:i<0
 ·rw [if_pos h,Ch h,vP (G7 h)]
 ·rw [if_neg h,Cg h,JB (Int.le_min.mpr ⟨md.mp h,gS n⟩)]
theorem iq{α:Type}(l:List α)(a b:Option Int):dG l a b=(l.drop (oy a l.length)).take (v5 b l.length-oy a l.length):=by
 have e1:∀i:Int,l.take (r7 i l.length)=l.take (jU i l.length):=λi=>by
  unfold r7 jU
  split
  ·congr 1;exact VC
  ·rcases A3 i l.length with h | h
   ·rw [vP h]
   ·rw [JA h,fy,tq,nO (by exact VB h)]
 have e2:∀(t:List α) (i:Int),t.length<=l.length->t.drop (r7 i l.length)=t.drop (jU i l.length):=λt i ht=>by
  unfold r7 jU
  split
  ·congr 1;exact VC
  ·rcases A3 i l.length with h | h
   ·rw [vP h]
   ·rw [JA h,fy,fE ht,fE (by exact WP ht h)]
 have e:dG l a b=(l.take (v5 b l.length)).drop (oy a l.length):=by
  unfold dG v5 oy
  cases a<;>cases b<;>dsimp only [iZ,Option.map_none,sk,FF]
  ·rw [tq];rfl
  ·exact e1 _
  ·rw [tq];exact e2 _ _ (aF _)
  ·rw [<-e1];exact e2 _ _ (by rw [cD];exact WO)
 rw [e,pE]
theorem Fq(a b:Option Int)(n:Nat):sliceBounds a b none n=((oy a n:Int),(v5 b n:Int),1):=by
 unfold sliceBounds oy v5
 simp only [FF]
 have h1:(1:Int)>0:=by decide
 simp only [if_pos h1]
 refine sj ?_ (sj ?_ rfl)
 ·cases a with
  | none=>rfl
  | some i=>exact pf i n
 ·cases b with
  | none=>rfl
  | some i=>exact pf i n
theorem J8(xs:List af)(a b:Option Int):slicePick xs.toArray a b none=(dG xs a b).toArray:=by
 unfold slicePick
 rw [aT,Fq,iq]
 simp only
 rw [sliceRange_one,pick_run]
theorem aY.take:∀(k:Nat) {l:List PV} {xs:List af},aY I ρ l xs->aY I ρ (l.take k) (xs.take k)
 | 0,l,xs,h=>rfl
 | k+1,[],xs,h=>by cases h;rfl
 | k+1,p::l,xs,h=>by
  obtain⟨u,q,rfl,h1,h2⟩:=h
  exact⟨u,q.take k,rfl,h1,aY.take k h2⟩
theorem aY.slice{l:List PV}{xs:List af}(h:aY I ρ l xs)(a b:Option Int):aY I ρ (dG l a b) (dG xs a b):=by
 rw [iq,iq,h.length]
 exact aY.take _ (aY.drop _ h)
theorem jN{α:Type}(l:List α)(a b:Option Int):(dG l a b).length<=l.length:=by
 rw [iq,cD,cT];exact WN
theorem Bk{α:Type}(l:List α)(a b:Option Int):∀x∈dG l a b,x∈l:=λx h=>by
 rw [iq]at h
 exact iw (iv h)
open PySem.Builtin PySem.Builtin.Str in
theorem Bd(x:LS)(a b:Option Int):(strSliceIndices a b 1 x.length).filterMap (x.toArray[·]?)=dG x a b/\(strSliceIndices a b 1 x.length).length=v5 b x.length-oy a x.length:=by
 have e:strSliceIndices a b 1 x.length=sliceRange (oy a x.length) (v5 b x.length) 1:=by
  unfold strSliceIndices
  have h1:(1:Int)>0:=by decide
  simp only [if_pos h1]
  have e1:(match a with | none=>(0:Int) | some i=>max 0 (yO (if i<0 then i+(x.length:Int)else i) (x.length:Int)))=(oy a x.length:Int):=by
   cases a with
   | none=>rfl
   | some i=>exact pf i x.length
  have e2:(match b with | none=>(x.length:Int) | some i=>max 0 (yO (if i<0 then i+(x.length:Int)else i) (x.length:Int)))=(v5 b x.length:Int):=by
   cases b with
   | none=>rfl
   | some i=>exact pf i x.length
  rw [<-e1,<-e2]
  cases a<;>cases b<;>rfl
 rw [e,sliceRange_one]
 refine⟨?_,by rw [ae,hU]⟩
 rw [pick_run,iq]
theorem Og{c:Option Int}{v:af}(h:∃t:tU,v=(match c with | none=>Value.none | some i=>.int i t)):A1 v c:=by
 obtain⟨t,rfl⟩:=h
 cases c with
 | none=>exact IsPart.none
 | some i=>exact IsPart.int i t
theorem qF{v:af}{c:Option Int}{Q:Option Int->ag->Prop}(h:A1 v c)(hq:Q c s):ar (ay pw w) A (Builtin.Slice.slicePartIndex v) Q E s:=by
 cases h with
 | none=>exact slicePart_none hq
 | int i t=>exact slicePart_int hq
theorem Fv(a b:Option Int)(n:Nat):kq a b 1 (n:Int)=((oy a n:Int),(v5 b n:Int)):=by
 have cl:∀v:Int,(if v<0 then max (v+(n:Int)) 0 else yO v (n:Int))=(jU v n:Int):=λv=>by
  by_cases h:v<0
  ·rw [if_pos h,Ch h,Int.max_comm]
  ·rw [if_neg h,Cg h]
 unfold kq
 have h1:¬(1:Int)<0:=by decide
 simp only [if_neg h1]
 refine sj ?_ ?_
 ·cases a with
  | none=>rfl
  | some v=>exact cl v
 ·cases b with
  | none=>rfl
  | some v=>exact cl v
set_option tactic.hygienic true in
theorem En(a b:Option Int)(n:Nat):gV (oy a n:Int) (v5 b n:Int) 1=v5 b n-oy a n:=by
 unfold gV
 have h1:(1:Int)>0:=by decide
 simp only [if_pos h1]
 split
 ·rw [Int.ediv_one];exact WM
 ·next h=>exact(py (iL.mp (md.mp h))).symm
theorem pD{t sl:aB}{xs:List af}{k:Nat}{va vb:af}{ca cb:Option Int}{Q:af->ag->Prop}(ht:s.heap.get? t=some (mw xs.toArray k))(hs:s.heap.IsSliceOf sl va vb .none)(pa:A1 va ca)(pb:A1 vb cb)
  (h1:dG xs ca cb=xs->Q (.ref t) s)(h2:Q (.ref s.heap.objs.size) { s with heap:=s.heap.push { cls:=.type "tuple",data:=.seq (dG xs ca cb).toArray } })(hsz:xs.length<=mQ) :
  ar (ay pw w) A (lv (.ref t) (.ref sl)) Q E s:=by
 have htt:IsTup s.heap t xs.toArray:=⟨_,ht,rfl,k,rfl⟩
 obtain⟨os,hos,hcs,hds⟩:=id hs
 have hTs:s.TypeIs (.ref sl) "slice":=⟨os,hos,hcs⟩
 have hok:sizeOk (.seq (dG xs ca cb).toArray):=by
  show(dG xs ca cb).toArray.size<=mQ
  rw [aT]
  exact ah (jN xs ca cb) hsz
 have happ:∀{A':bD} {Q':Int × Int × Nat->ag->Prop} {E':af->ag->Prop},Q' ((oy ca xs.length:Int),1,v5 cb xs.length-oy ca xs.length) s->ar (ay pw w) A' (qy (.ref sl) (b7 ((xs.toArray.size:Nat):Int))) Q' E' s:=by
  intro A' Q' E' hq
  unfold qy Builtin.Slice.sliceFields
  refine aa (aa (rE hos hds (x:=va) rfl (aa (rE hos hds (x:=vb) rfl (aa (rE hos hds (x:=.none) rfl (ab ?_)))))))
  refine aa (slicePart_none ?_)
  show ar _ _ (if((1:Int)==0)=true then _ else _) _ _ s
  rw [if_neg (by decide)]
  refine aa (qF pa (aa (qF pb (aa (ab ?_)))))
  show ar _ _ (match kq ca cb 1 ((xs.toArray.size:Nat):Int)with | (lo,hi)=>b7 (lo,(1:Int),gV lo hi 1)) _ _ s
  rw [aT,Fv]
  show ar _ _ (b7 ((oy ca xs.length:Int),(1:Int),gV (oy ca xs.length:Int) (v5 cb xs.length:Int) 1)) _ _ s
  rw [En]
  exact ab hq
 have hpick:((cM (v5 cb xs.length-oy ca xs.length)).filterMap λ(k:Nat)=>xs.toArray[((oy ca xs.length:Int)+(k:Int)*1).toNat]?)=dG xs ca cb:=by
  have e:(λ(k:Nat)=>xs.toArray[((oy ca xs.length:Int)+(k:Int)*1).toNat]?)=λk=>xs.toArray[oy ca xs.length+k]? := by
   funext k
   have:((oy ca xs.length:Int)+(k:Int)*1).toNat=oy ca xs.length+k:=by exact WL
   rw [this]
  rw [e]
  have q:=pick_run xs.toArray (oy ca xs.length) (v5 cb xs.length-oy ca xs.length)
  rw [List.filterMap_map]at q
  rw [iq]
  exact q
 unfold lv
 try with_reducible refine aW ?_
 first | refine aa (ab ?_) | skip
 refine aa (wpAny_sequenceKey htt.typeIs (by decide) ?_)
 refine aa (gM (name:=et "__getitem__") htt.typeIs slot_tuple_getitem
  (em slot_tuple_getitem htt.typeIs entry_tuple_getitem ?_ (args_tuple_getitem _ _)))
 show ar _ _ (Builtin.Tuple.tupleItemsOf (.ref t)>>=_) _ _ s
 refine aa (tupleItemsOf_ htt ?_)
 refine aa (kc hTs ?_)
 rw [if_pos (by decide)]
 refine aa (happ ?_)
 show ar _ _ (if((oy ca xs.length:Int)==0&&(1:Int)==1&&(v5 cb xs.length-oy ca xs.length)==xs.toArray.size)=true then _ else _) _ _ s
 have made:∀{A':bD},ar (ay pw w) A' (do let r <-ia ((cM (v5 cb xs.length-oy ca xs.length)).filterMap λ(k:Nat)=>xs.toArray[((oy ca xs.length:Int)+(k:Int)*1).toNat]?).toArray;ret r)
   (λfin s'=>∃v,fin = .done (.ret v)/\ar (ay pw w) A (b7 v) Q E s') E s:=by
  intro A'
  rw [hpick]
  exact aa (m:=ia _) (cf (ab ⟨_,rfl,ab h2⟩) hok)
 by_cases hc:((oy ca xs.length:Int)==0&&(1:Int)==1&&(v5 cb xs.length-oy ca xs.length)==xs.toArray.size)=true
 ·rw [if_pos hc]
  have hw:dG xs ca cb=xs:=by
   simp only [bd,beq_iff_eq,aT]at hc
   rw [iq]
   have h0:oy ca xs.length=0:=tZ hc.1.1
   have h1:v5 cb xs.length-oy ca xs.length=xs.length:=hc.2
   rw [h0,jG]
   exact nO (ah (aA h1.symm) (fA _ _))
  refine aa (m:=Builtin.Tuple.tupleIsExact _) (aa (kc htt.typeIs (ab ?_)))
  exact aa (iX (ab ⟨_,rfl,ab (h1 hw)⟩))
 ·rw [if_neg hc]
  exact made
end
noncomputable def IZ(H0:Bs)(w:bF)(n:Nat)(cx:Cx)(e:Option Expr)(σ:bq)(R:List aO)(i:Option Int)(R':List aO):Prop:=
 ∀(A:bD) (E:af->ag->Prop) (I:dC) (ρ:dH) (env:d9) (s:ag),cC H0 A (n+1)->Gd H0 I ρ R s.heap->b4 I ρ cx σ env s.heap ->
  ar (ay pw w) A (evalPart e env) (λu s'=>∃I' ρ',a8 H0 eb I ρ s I' ρ' R' s'/\A1 u i) E s
section
variable {H0:Bs} {w:bF} {n m:Nat} {sp:Spec} {I I' I'':dC} {ρ ρ' ρ'':dH} {R R' R'' R1 R2 R3:List aO} {cx:Cx} {σ σ' σ1 σ2:bq} {env:d9} {A:bD} {E:af->ag->Prop} {s s' s'':ag} {e l r t:Expr} {v:PV} {f:Fl} {X Y Z:aB->Prop}
theorem HZ:IZ H0 w n cx none σ R none R:=λA E I ρ env s hR G O=>ab ⟨I,ρ,a8.self G nb,IsPart.none⟩
theorem HY{i:Int}(h:dM H0 w n cx e σ R (.int i) R1):IZ H0 w n cx (some e) σ R (some i) R1:=by
 intro A E I ρ env s hR G O
 rw [evalPart_some]
 refine h.then hR G O λI1 ρ1 u s1 x1 hu O1 G1=>?_
 obtain⟨t,rfl⟩:=hu
 exact⟨I1,ρ1,x1,IsPart.int i t⟩
theorem xy{ve:Expr}{x:PV}{u:af}(h:(cL ve||ml x)=true)(hu:cq I ρ x u)(r:af):iY ve u r=b7 ():=by
 rw [fT]at h
 rcases h with h | h
 ·cases ve<;>first | rfl | cases h
 ·cases x with
  | str l=>
   obtain⟨_,_,t,rfl⟩:=hu
   cases ve<;>rfl
  | _=>cases h
set_option tactic.hygienic true in
theorem D0{x:LS}{t:tU}{sl:aB}{va vb:af}{ca cb:Option Int}{Q:af->ag->Prop}(hs:s.heap.IsSliceOf sl va vb .none)(pa:A1 va ca)(pb:A1 vb cb)(hx:x.length<=SZ)
  (h:∀t' k,Q (.str (S (dG x ca cb)) t') { s with toks:=k }):ar (ay pw w) A (lv (.str (S x) t) (.ref sl)) Q E s:=by
 obtain⟨l,hl,hl'⟩:∃l:Option (Int × tU),va=partValue l/\l.map (·.1)=ca:=by
  cases pa with
  | none=>exact⟨none,rfl,rfl⟩
  | int i t=>exact⟨some (i,t),rfl,rfl⟩
 obtain⟨q,hq,hq'⟩:∃l:Option (Int × tU),vb=partValue l/\l.map (·.1)=cb:=by
  cases pb with
  | none=>exact⟨none,rfl,rfl⟩
  | int i t=>exact⟨some (i,t),rfl,rfl⟩
 obtain⟨o,h1,h2,h3⟩:=hs
 refine wpAny_getItem_str_slice (l:=l) (u:=q) (st:=none) ⟨o,h1,h2,by rw [h3,hl,hq];rfl⟩ rfl ?_
 unfold sliceMade slicePicked
 have hp:=Bd x ca cb
 rw [hl',hq',dX]
 show Made.post (if((1:Int)==1&&(_:List Nat).length==x.length)=true then _ else _) Q s
 have e1:=hp.1
 have e2:=hp.2
 split
 ·rename_i hc
  simp only [bd,beq_iff_eq]at hc
  have hw:dG x ca cb=x:=by
   have:=hc.2
   rw [iq]
   have e3:v5 cb x.length-oy ca x.length=x.length:=e2.symm.trans this
   have h0:oy ca x.length=0:=by have g1:=Nv cb x.length;have g2:=Nd ca x.length;exact WK e3 g1 g2
   rw [h0,jG]
   exact nO (by exact WJ e3)
  have:=h t s.toks
  rw [hw]at this
  exact this
 ·refine⟨?_,?_⟩
  ·show(FX _).length<=mQ
   have:(S (dG x ca cb)).length<=mQ:=by rw [dX];exact ga (ah (jN x ca cb) hx)
   rw [<-e1]at this
   exact this
  ·have:=h s.toks (s.toks+1)
   rw [<-e1]at this
   exact this
theorem H3{ve:Expr}{x:PV}{a b:Option Expr}{i j:Option Int}{p pos:dN}(h1:dM H0 w n cx ve σ R x R1)(hg:(cL ve||ml x)=true)(h2:IZ H0 w n cx a σ R1 i R2)(h3:IZ H0 w n cx b σ R2 j R3)(hv:Gu x i j=some v) :
  dM H0 w n cx (.Subscript ve (.Slice a b none p) pos) σ R v R3:=by
 intro A E I ρ env s hR G O
 refine wr (h1.then hR G O λI1 ρ1 u s1 x1 hu O1 G1=>wpAny_Slice (ao (h2 A E I1 ρ1 env s1 hR G1 O1) (λva s2 q2=>?_) λζ ζ e=>e))
 obtain⟨I2,ρ2,x2,pa⟩:=q2
 have O2:=O1.step x2
 refine ao (h3 A E I2 ρ2 env s2 hR x2.good O2) (λvb s3 q3=>?_) λζ ζ e=>e
 obtain⟨I3,ρ3,x3,pb⟩:=q3
 rw [evalPart_none]
 refine ab ?_
 have x13:=(x1.trans G x2).trans G x3
 have hu3:=(hu.le x2).le x3
 generalize hs4:({ s3 with heap:=s3.heap.push { cls:=.type "slice",data:=.fields #[va,vb,.none] } }:ag)=s4
 have x4:a8 H0 eb I3 ρ3 s3 I3 ρ3 R3 s4:=by
  rw [<-hs4]
  exact a8.quiet x3.good nb (λa o ζ e=>au _ e) (λζ h=>h.elim) rfl rfl
 have hsl:s4.heap.IsSliceOf s3.heap.objs.size va vb .none:=by rw [<-hs4];exact Heap.IsSliceOf.new ..
 have G4:=x4.good
 have x14:=x13.trans G x4
 have fin:∀{u':af} {s5:ag},fM H0 I3 ρ3 s4 v R3 u' s5->fM H0 I ρ s v R3 u' s5:=λq=>fM.mono_ G x14 q
 cases x with
 | str xx=>
  cases hv
  have hu4:=hu3
  obtain⟨g1,g2,t,rfl⟩:=hu4
  refine⟨"str",_,PySem.F.slot_str_getitem.lookup,kT _ _ t,xy hg hu3,an rfl,?_⟩
  exact D0 hsl pa pb g1 λt' k=>fin (qO G4 (ah (jN _ _ _) g1) (xG (Bk _ _ _) g2) k)
 | list xx=>
  cases hv
  have hu4:=hu3
  obtain⟨g1,ad,xs,k,rfl,g2,g3⟩:=hu4
  have hat:=G4.imm _ _ g2
  refine⟨"list",_,list_getitem_lookup,⟨_,hat,rfl⟩,xy hg hu3,an rfl,?_⟩
  refine wpAny_getItem_list_slice ⟨_,hat,rfl,k,rfl⟩ hsl pa pb .none (by simp) ?_ (by rw [aT,g3.length];exact ga g1)
  rw [J8]
  exact fin (iP G4 (g3.slice i j) (ah (jN _ _ _) g1) _)
 | tup xx=>
  cases hv
  have hu4:=hu3
  obtain⟨g1,ad,xs,k,rfl,g2,g3⟩:=hu4
  have hat:=G4.imm _ _ g2
  refine⟨"tuple",_,tV.lookup,⟨_,hat,rfl⟩,xy hg hu3,an rfl,?_⟩
  refine pD hat hsl pa pb (λhw=>?_) ?_ (by rw [g3.length];exact ga g1)
  ·refine fin (ef G4 ?_)
   have:=g3.slice i j
   rw [hw]at this
   exact⟨ah (jN _ _ _) g1,ad,xs,k,rfl,g2,this⟩
  ·exact fin (js G4 (g3.slice i j) (ah (jN _ _ _) g1) _)
 | _=>cases hv
theorem KX{ve ie:Expr}{x:PV}{i:Int}{pos:dN}(h1:dM H0 w n cx ve σ R x R1)(hg:(cL ve||ml x)=true)(h2:dM H0 w n cx ie σ R1 (.int i) R2)(hv:wV R2 x i=some v)
  (hs:∀o i,lz ie false o i=vH [o,i] (lv o i)):dM H0 w n cx (.Subscript ve ie pos) σ R v R2:=by
 intro A E I ρ env s hR G O
 refine wr (h1.then hR G O λI1 ρ1 u s1 x1 hu O1 G1=>h2.then hR G1 O1 λI2 ρ2 y s2 x2 hy O2 G2=>?_)
 have hu2:=hu.le x2
 obtain⟨⟨T,id,hl,hT⟩,hget⟩:=Kx (w:=w) (A:=A) (E:=E) G2 hv hu2 hy
 exact⟨T,id,hl,hT,xy hg hu2,av (hs _ _),ao hget (λu s' q=>fM.mono_ G (x1.trans G x2) q) λζ ζ e=>e⟩
end
end
end Mine
end
section
namespace Mine
theorem fe(c:Nat):∀l:LS,aL c l≠[]:=by
 intro l
 induction l with
 | nil=>
  simp [aL]
 | cons x r ih=>
  rw [b9]
  split
  ·simp
  ·split<;>simp
set_option tactic.hygienic true in
theorem ML(c:Nat):∀l:LS,ce [c] (aL c l)=l:=by
 intro l
 induction l with
 | nil=>
  exact rfl
 | cons x r ih=>
  have ih:=ih
  rw [b9]
  split
  ·rename_i h
   subst h
   cases e:aL x r with
   | nil=>exact absurd e (fe x r)
   | cons h t=>
    rw [e]at ih
    show []++[x]++ce [x] (h::t)=x::r
    rw [ih];rfl
  ·cases e:aL c r with
   | nil=>exact absurd e (fe c r)
   | cons h t=>
    rw [e]at ih
    simp only
    cases t with
    | nil=>
     show x::h=x::r
     have:h=r:=ih
     rw [this]
    | cons h2 t2=>
     show(x::h)++[c]++ce [c] (h2::t2)=x::r
     have:h++[c]++ce [c] (h2::t2)=r:=ih
     rw [<-this];simp
set_option tactic.hygienic true in
theorem LF(c:Nat):∀(l:LS),∀p∈aL c l,c ∉ p:=by
 intro l
 induction l with
 | nil=>
  intro p h
  simp [aL]at h;subst h;simp
 | cons x r ih=>
  intro p h
  have ih:=ih
  rw [b9]at h
  split at h
  ·rcases aw.mp h with h | h
   ·subst h;simp
   ·exact ih p h
  ·rename_i hx
   cases e:aL c r with
   | nil=>exact absurd e (fe c r)
   | cons h1 t=>
    rw [e]at h ih
    simp only at h
    rcases aw.mp h with h | h
    ·subst h
     intro q
     rcases aw.mp q with q | q
     ·exact hx q.symm
     ·exact ih h1 aj q
    ·exact ih p (am _ h)
theorem pG(c:Nat):∀(ps:List LS),ps≠[]->(∀p∈ps,c ∉ p)->aL c (ce [c] ps)=ps
 | [],h,_=>absurd rfl h
 | [p],_,hf=>by
  have hp:=hf p aj
  show aL c p=[p]
  clear hf
  induction p with
  | nil=>rfl
  | cons x r ih=>
   simp only [aw,not_or]at hp
   rw [b9]
   rw [if_neg (λe=>hp.1 e.symm),ih (by simp) hp.2]
 | p::q::t,_,hf=>by
  have ih:=pG c (q::t) (by simp) λz hz=>hf z (am _ hz)
  have hp:=hf p aj
  show aL c (p++[c]++ce [c] (q::t))=_
  clear hf
  induction p with
  | nil=>
   show aL c (c::ce [c] (q::t))=_
   rw [b9]
   rw [if_pos rfl,ih]
  | cons x r ih2=>
   simp only [aw,not_or]at hp
   have:=ih2 (by simp) hp.2
   show aL c (x::(r++[c]++ce [c] (q::t)))=_
   rw [b9]
   rw [if_neg (λe=>hp.1 e.symm),this]
set_option tactic.hygienic true in
theorem Bq(c:Nat)(b:LS):∀l:LS,dO c b l=ce b (aL c l):=by
 intro l
 induction l with
 | nil=>
  exact rfl
 | cons x r ih=>
  have ih:=ih
  rw [b9]
  unfold dO at *
  rw [jF]
  split
  ·rename_i h
   subst h
   cases e:aL x r with
   | nil=>exact absurd e (fe x r)
   | cons h t=>
    rw [ih,e]
    rfl
  ·rename_i hx
   cases e:aL c r with
   | nil=>exact absurd e (fe c r)
   | cons h t=>
    rw [ih,e]
    simp only
    cases t with
    | nil=>rfl
    | cons h2 t2=>rfl
theorem xh(a b:LS):(⟨a.toArray⟩:Str)++⟨b.toArray⟩=⟨(a++b).toArray⟩:=by
 show FX (a.toArray++b.toArray)=FX (a++b).toArray
 simp
theorem xS(sep:LS):∀ps:List LS,Str.join ⟨sep.toArray⟩ (ps.map λp=>⟨p.toArray⟩)=⟨(ce sep ps).toArray⟩
 | []=>rfl
 | [p]=>rfl
 | p::q::t=>by
  have ih:=xS sep (q::t)
  show(⟨p.toArray⟩:Str)++⟨sep.toArray⟩++Str.join ⟨sep.toArray⟩ ((q::t).map λp=>⟨p.toArray⟩)=⟨(p++sep++ce sep (q::t)).toArray⟩
  rw [ih,xh,xh]
theorem Mc{a b:LS}(h:(⟨a.toArray⟩:Str)=⟨b.toArray⟩):a=b:=by
 injection h with h
 simpa using h
theorem xC(c:Nat)(x:LS):AA ⟨x.toArray⟩ ⟨#[c]⟩=(aL c x).map λp=>⟨p.toArray⟩:=by
 have hj:=StrLaws.join_split ⟨x.toArray⟩ ⟨#[c]⟩
 have hf:=StrLaws.split_free ⟨x.toArray⟩ c
 have hp:=split_pos ⟨x.toArray⟩ ⟨#[c]⟩
 generalize AA ⟨x.toArray⟩ ⟨#[c]⟩=T at *
 have e:T=(T.map λp=>p.cps.toList).map λp=>(⟨p.toArray⟩:Str):=by
  rw [aI]
  symm
  rw [bf (g:=id) (λa ζ=>by cases a;simp)]
  exact mv _
 rw [e]at hj
 have hs:(⟨#[c]⟩:Str)=⟨([c]:LS).toArray⟩:=rfl
 rw [hs,xS]at hj
 have hx:=Mc hj
 rw [e,<-hx,pG c _ (by intro h;have:=congrArg bX h;simp at this;rw [this]at hp;simp at hp) (λp hp=>by
  obtain⟨q,hq,rfl⟩:=aH.mp hp
  exact hf q hq)]
end Mine
end
section
open PySem PySem.W PyProof.Rows PySem.Spec
namespace Mine
noncomputable section
section
variable {H0:Bs} {w:bF} {n m:Nat} {sp:Spec} {I I' I'':dC} {ρ ρ' ρ'':dH} {R R' R'' R1 R2 R3:List aO} {cx:Cx} {σ σ' σ1 σ2:bq} {env:d9} {A:bD} {E:af->ag->Prop} {s s' s'':ag} {e l r t o:Expr} {v:PV} {f:Fl} {X Y Z:aB->Prop}
open PySem.Builtin PySem.Builtin.Str in
theorem Ov(x p:LS)(i:Nat):subAt (S x) (S p) i=((x.drop i).take p.length==p):=by
 rw [StrLaws.subAt_eq,dX]
open PySem.Builtin PySem.Builtin.Str in
theorem GJ:∀(ps:List LS) (k:Nat),(∀p∈ps,p.length<=SZ/\ja p=true)->aY I ρ (ps.map PV.str) (strsFrom k (ps.map S)):=by
 intro ps
 induction ps with
 | nil=>
  intro k _
  rfl
 | cons p ps ih=>
  intro k h
  exact⟨_,_,rfl,oQ (h p aj).1 (h p aj).2,ih _ λq hq=>h q (am _ hq)⟩
theorem D2(c:Nat)(x:LS):∀p∈aL c x,∀z∈p,z∈x:=by
 induction x with
 | nil=>intro p hp z hz;simp [aL]at hp;subst hp;cases hz
 | cons y r ih=>
  intro p hp z hz
  rw [b9]at hp
  split at hp
  ·rcases aw.mp hp with h | h
   ·subst h;cases hz
   ·exact am _ (ih p h z hz)
  ·cases e:aL c r with
   | nil=>exact absurd e (fe c r)
   | cons h1 t=>
    rw [e]at hp ih
    simp only at hp
    rcases aw.mp hp with h | h
    ·subst h
     rcases aw.mp hz with h | h
     ·subst h;exact aj
     ·exact am _ (ih h1 aj z h)
    ·exact am _ (ih p (am _ h) z hz)
theorem Bf(c:Nat)(x:LS):∀p∈aL c x,p.length<=x.length:=by
 induction x with
 | nil=>intro p hp;simp [aL]at hp;subst hp;exact aF _
 | cons y r ih=>
  intro p hp
  rw [b9]at hp
  split at hp
  ·rcases aw.mp hp with h | h
   ·subst h;exact bo _
   ·have:=ih p h;simp only [aq];exact Oc this
  ·cases e:aL c r with
   | nil=>exact absurd e (fe c r)
   | cons h1 t=>
    rw [e]at hp ih
    simp only at hp
    rcases aw.mp hp with h | h
    ·subst h
     have:=ih h1 aj
     simp only [aq];exact LI this
    ·have:=ih p (am _ h);simp only [aq];exact Oc this
theorem E7{apos pos:dN}{x p:LS}(h1:dM H0 w n cx o σ R (.str x) R1)(h2:dM H0 w n cx e σ R1 (.str p) R2)(hbase:∀env:d9,fJ o "startswith" env (ed o env)=ed o env)(hs:∀env:d9,bS [e] env=[(false,ed e env)])(hline:(apos.endLine==pos.line)=true) :
  dM H0 w n cx (.Call (.Attribute o "startswith" apos) [e] [] pos) σ R (.bool (decide (p.length<=x.length)&&(x.take p.length==p))) R2:=by
 intro A E I ρ env s hR G O
 refine pY (hbase env) (hs env) hline (h1.then hR G O λI1 ρ1 u s1 x1 hu O1 G1=>hu.str_el λt ζ ζ=>SB.startswith (h2.then hR G1 O1 λI2 ρ2 y s2 x2 hy O2 G2=>hy.str_el λt2 ζ ζ=>⟨_,_,rfl,I2,ρ2,x1.trans G x2,?_⟩))
 show _=dT _
 unfold Txt.startswith
 rw [Ov,dX,dX,dU,jG]
theorem KY{apos pos:dN}{x p:LS}(h1:dM H0 w n cx o σ R (.str x) R1)(h2:dM H0 w n cx e σ R1 (.str p) R2)(hbase:∀env:d9,fJ o "endswith" env (ed o env)=ed o env)(hs:∀env:d9,bS [e] env=[(false,ed e env)])(hline:(apos.endLine==pos.line)=true) :
  dM H0 w n cx (.Call (.Attribute o "endswith" apos) [e] [] pos) σ R (.bool (decide (p.length<=x.length)&&((x.drop (x.length-p.length)).take p.length==p))) R2:=by
 intro A E I ρ env s hR G O
 refine pY (hbase env) (hs env) hline (h1.then hR G O λI1 ρ1 u s1 x1 hu O1 G1=>hu.str_el λt ζ ζ=>SB.endswith (h2.then hR G1 O1 λI2 ρ2 y s2 x2 hy O2 G2=>hy.str_el λt2 ζ ζ=>⟨_,_,rfl,I2,ρ2,x1.trans G x2,?_⟩))
 show _=dT _
 unfold Txt.endswith
 rw [Ov,dX,dX,dU]
theorem D1{c:Nat}{x:LS}(h:AA (S x) (S [c])=[S x]):aL c x=[x]:=by
 have h3:(aL c x).map S=[S x]:=(xC c x).symm.trans h
 cases e5:aL c x with
 | nil=>exact absurd e5 (fe c x)
 | cons a q=>
  rw [e5]at h3
  obtain⟨q1,q2⟩:=jH h3
  rw [bQ.mp q2,Mc q1]
open PySem.Builtin PySem.Builtin.Str in
theorem z7{apos pos:dN}{x:LS}{c:Nat}(h1:dM H0 w n cx o σ R (.str x) R1)(h2:dM H0 w n cx e σ R1 (.str [c]) R2)(hl:((aL c x).map PV.str).length<=SZ)(hbase:∀env:d9,fJ o "split" env (ed o env)=ed o env)(hs:∀env:d9,bS [e] env=[(false,ed e env)])(hline:(apos.endLine==pos.line)=true) :
  dM H0 w n cx (.Call (.Attribute o "split" apos) [e] [] pos) σ R (.list ((aL c x).map .str)) R2:=by
 intro A E I ρ env s hR G O
 refine pY (hbase env) (hs env) hline (h1.then hR G O λI1 ρ1 u s1 x1 hu O1 G1=>hu.str_el λt g1 g2=>?_)
 refine⟨"str",_,mW,xl,PySem.F.type_str_split,kT _ _ _,(λζ e=>nomatch e),method1_meets xl PySem.F.entry_str_split (h2.then hR G1 O1 λI2 ρ2 y s2 x2 hy O2 G2=>hy.str_el λt2 ζ ζ=>⟨kT _ _ _,PySem.F.args_str_split_2 _ _,?_⟩)⟩
 have x12:=x1.trans G x2
 have one:∀tk,AA (S x) (S [c])=[S x]->fM H0 I ρ s (.list ((aL c x).map PV.str)) R2 (.ref s2.heap.objs.size) { s2 with heap:=s2.heap.push { cls:=.type "list",data:=.seq [iE (S x) t].toArray },toks:=tk }:=λtk he=>
  D1 he▸fM.mono_ G x12 (iP G2 (aY.cons (oQ g1 g2) aY.nil) (show 1<=SZ by decide) tk)
 have y1:((S [c]).length==0)=false:=rfl
 cases q1:(decide ((S x).length<(S [c]).length)||decide (strKind (S x)<strKind (S [c])))with
 | true=>exact⟨_,meets_str_split_cannot_occur (S x) (S [c]) t t2 q1,one _ (if_pos q1)⟩
 | false=>
  have q1':=λh=>bc (q1.symm.trans h)
  cases q2:(occurrences (S x) (S [c]) 0 (S x).length ((S x).length+1)).isEmpty with
  | true=>exact⟨_,meets_str_split_not_found (S x) (S [c]) t t2 q1 y1 q2,one _ ((if_neg q1').trans (if_pos q2))⟩
  | false=>
   have hT2:partsBetween (S x) (occurrences (S x) (S [c]) 0 (S x).length ((S x).length+1)) (S [c]).length=(aL c x).map S:=((if_neg q1').trans (if_neg λh=>bc (q2.symm.trans h))).symm.trans (xC c x)
   refine⟨_,meets_str_split_sep (S x) (S [c]) t t2 q1 y1 q2 (by rw [dX];exact ga g1) (by rw [hT2,ae];exact ga (ae (f:=PV.str)▸hl)),?_⟩
   rw [hT2]
   exact fM.mono_ G x12 (iP G2 (GJ _ _ λp hp=>⟨ah (Bf c x p hp) g1,xG (D2 c x p hp) g2⟩) hl _)
theorem H5{name:Str}{apos pos:dN}{x:LS}{v:PV}(h1:dM H0 w n cx o σ R (.str x) R1)(h2:dM H0 w n cx e σ R1 v R2)
  (hbase:∀a,∀env:d9,fJ o a env (ed o env)=ed o env)(hs:∀env:d9,bS [e] env=[(false,ed e env)])(hline:(apos.endLine==pos.line)=true) :
  az (λr=>dM H0 w n cx (.Call (.Attribute o name apos) [e] [] pos) σ R r R2) (xB x name [v]):=
 m8 (C:=λv y=>dM H0 w n cx e σ R1 v R2->az (λr=>dM H0 w n cx (.Call (.Attribute o name apos) [e] [] pos) σ R r R2) y) v (λζ ζ=>az.none) (λp h2=>az.bif (λq=>aJ q▸az.some (E7 h1 h2 (hbase _) hs hline)) λζ=>az.bif (λq=>aJ q▸az.some (KY h1 h2 (hbase _) hs hline)) λζ=>
  az.grd λq=>aJ q▸fg (C:=λp y=>dM H0 w n cx e σ R1 (.str p) R2->az (λr=>dM H0 w n cx (.Call (.Attribute o "split" apos) [e] [] pos) σ R r R2) y) p (λζ ζ=>az.none) (λc h2=>az.mkL λhl=>z7 h1 h2 hl (hbase _) hs hline) h2) h2
theorem xA:∀{l:List PV} {xs:List af} {ss:List LS},aY I ρ l xs->ft l=some ss->∃lt:List (Str × tU),xs=ba lt/\lt.map (·.1)=ss.map S/\(∀p∈ss,p.length<=SZ/\ja p=true):=by
 intro l
 induction l with
 | nil=>
  intro xs ss h e
  cases h
  have:ss=[]:=by simpa [ft] using e.symm
  subst this
  exact⟨[],rfl,rfl,λp hp=>nomatch hp⟩
 | cons p l ih=>
  intro xs ss h e
  obtain⟨u,q,rfl,h1,h2⟩:=h
  unfold ft at e
  rw [gw]at e
  cases p with
  | str x=>
   obtain⟨g1,g2,t,rfl⟩:=h1
   cases hq:l.mapM pO with
   | none=>rw [hq]at e;cases e
   | some qs=>
    rw [hq]at e
    have e:ss=x::qs:=by simpa [pO] using e.symm
    subst e
    obtain⟨lt,k1,k2,k3⟩:=ih h2 hq
    refine⟨(S x,t)::lt,by rw [k1];rfl,by simp [k2],λp hp=>?_⟩
    rcases aw.mp hp with hp | hp
    ·subst hp;exact⟨g1,g2⟩
    ·exact k3 p hp
  | _=>cases e
theorem zo(sep:LS)(hs:ja sep=true):∀ps:List LS,(∀p∈ps,ja p=true)->ja (ce sep ps)=true
 | [],_=>rfl
 | [p],h=>h p aj
 | p::q::t,h=>by
  show ja (p++sep++ce sep (q::t))=true
  exact la (la (h p aj) hs) (zo sep hs (q::t) λz hz=>h z (am _ hz))
theorem Fc{k:Nat}{l0 l1:List PV}{apos pos:dN}(h1:dM H0 w n cx o σ R (.obj k) R1)(hk1:R1[k]? = some (.lst l0))(h2:dM H0 w n cx e σ R1 v R2)(hk:R2[k]? = some (.lst l1))(hl:l1.length<SZ)
  (hbase:∀env:d9,fJ o "append" env (ed o env)=ed o env)(hs:∀env:d9,bS [e] env=[(false,ed e env)])(hline:(apos.endLine==pos.line)=true) :
  dM H0 w n cx (.Call (.Attribute o "append" apos) [e] [] pos) σ R .none (R2.set k (.lst (l1++[v]))):=by
 intro A E I ρ env s hR G O
 refine pY (hbase env) (hs env) hline (h1.then hR G O λI1 ρ1 u s1 x1 hu O1 G1=>?_)
 obtain⟨p,hp,rfl,_,hp2,xs0,n0,hat0,_⟩:=rN G1 hk1 hu
 refine⟨"list",_,wk,slot_list_append,type_list_append,⟨_,hat0,rfl⟩,(λa ha=>by cases ha;exact⟨_,hat0,rfl⟩),
  seqMethod1_meets slot_list_append entry_list_append (h2.then hR G1 O1 λI2 ρ2 y s2 x2 hy O2 G2=>?_)⟩
 obtain⟨d,hd⟩:=x2.pre
 have hp':ρ2[k]? = some p:=by
  rw [hd,eF (eE.mp hp).1];exact hp
 obtain⟨g1,g2,xs,n1,g3,g4⟩:=G2.recs k p _ hp' hk
 have hxl:=g4.length
 refine⟨⟨_,g3,rfl⟩,args_list_append _ _,_,list_append p.1 xs.toArray n1 y (by rw [aT,hxl];exact ga g1),g3,?_⟩
 have hup:=IsL.update g3 (λx=>x.push y)
 have e1:xs.toArray.push y=(xs++[y]).toArray:=by simp
 have x3:a8 H0 eb I2 ρ2 s2 I2 ρ2 (R2.set k (.lst (l1++[v]))) { s2 with heap:=s2.heap.update p.1 (bC λx=>x.push y),toks:=s2.toks }:=by
  refine a8.write G2 hp' hk (λh=>nomatch h) (λb o hb ζ e=>(aD s2.heap _ (di hb)).trans e) ?_ ?_ rfl rfl
  ·obtain⟨n9,hup9⟩:∃n9,(s2.heap.update p.1 (bC λx=>x.push y)).get? p.1=some (cF (xs++[y]).toArray n9):=⟨_,by rw [<-e1];exact hup⟩
   refine⟨by rw [ai,oK];exact hl,g2,xs++[y],n9,hup9,g4.append ?_⟩
   exact⟨y,[],rfl,hy,rfl⟩
  ·have:(s2.heap.update p.1 (bC λx=>x.push y)).get? p.1≠none:=by rw [hup];exact λh=>nomatch h
   exact⟨this,by rw [g2];exact this⟩
 exact⟨I2,ρ2,(x1.trans G x2).trans G x3,oh⟩
theorem NW{k:Nat}{l1:List PV}{apos pos:dN}(h1:dM H0 w n cx o σ R (.obj k) R1)(hk:R1[k]? = some (.lst l1))(hv:l1.getLast? = some v)
  (hbase:∀env:d9,fJ o "pop" env (ed o env)=ed o env)(hline:(apos.endLine==pos.line)=true) :
  dM H0 w n cx (.Call (.Attribute o "pop" apos) [] [] pos) σ R v (R1.set k (.lst l1.dropLast)):=by
 intro A E I ρ env s hR G O
 refine Call_method0 (hbase env) hline (h1.then hR G O λI1 ρ1 u s1 x1 hu O1 G1=>?_)
 obtain⟨p,hp,rfl,g1,g2,xs,n1,g3,g4⟩:=rN G1 hk hu
 have hxl:=g4.length
 have hne:l1≠[]:=λh=>by rw [h]at hv;cases hv
 have hpos:0<l1.length:=b5.mpr hne
 have hlast:l1[l1.length-1]? = some v:=by rw [<-List.getLast?_eq_getElem?];exact hv
 obtain⟨y,hy,hry⟩:=g4.at hlast
 refine⟨"list",_,wk,PySem.F.slot_list_pop,PySem.F.type_list_pop,⟨_,g3,rfl⟩,(λa ha=>by cases ha;exact⟨_,g3,rfl⟩),
  P.pop_list g3 (y:=y) (by rw [aT,hxl,bU];exact hy) ?_ (by rw [aT,hxl];exact ga g1)⟩
 have hup:=IsL.update g3 (λys=>ys.eraseIdxIfInBounds (xs.toArray.size-1))
 have e1:xs.toArray.eraseIdxIfInBounds (xs.toArray.size-1)=xs.dropLast.toArray:=by
  rw [aT,List.eraseIdxIfInBounds_toArray]
  congr 1
  exact List.eraseIdx_length_sub_one
 obtain⟨n9,hup9⟩:∃n9,(s1.heap.update p.1 (bC λys=>ys.eraseIdxIfInBounds (xs.toArray.size-1))).get? p.1=some (cF xs.dropLast.toArray n9):=⟨_,by rw [<-e1];exact hup⟩
 have hdl:aY I1 ρ1 l1.dropLast xs.dropLast:=by
  rw [hG,hG,hxl]
  exact aY.take _ g4
 have x3:a8 H0 eb I1 ρ1 s1 I1 ρ1 (R1.set k (.lst l1.dropLast)) { s1 with heap:=s1.heap.update p.1 (bC λys=>ys.eraseIdxIfInBounds (xs.toArray.size-1)) }:=by
  refine a8.write G1 hp hk (λh=>nomatch h) (λb o hb ζ e=>(aD s1.heap _ (di hb)).trans e) ?_ ?_ rfl rfl
  ·exact⟨by rw [CM];exact WI g1,g2,xs.dropLast,n9,hup9,hdl⟩
  ·have:(s1.heap.update p.1 (bC λys=>ys.eraseIdxIfInBounds (xs.toArray.size-1))).get? p.1≠none:=by rw [hup9];exact λh=>nomatch h
   exact⟨this,by rw [g2];exact this⟩
 exact⟨I1,ρ1,x1.trans G x3,hry⟩
theorem KW{x:LS}{l:List PV}{ss:List LS}{apos pos:dN}(h1:dM H0 w n cx o σ R (.str x) R1)(h2:dM H0 w n cx e σ R1 v R2)(hl:lK R2 v=some l)(hss:ft l=some ss)
  (hsz:(ss.map bX).sum+ss.length*x.length<=SZ)(hsz2:(ce x ss).length<=SZ)
  (hbase:∀env:d9,fJ o "join" env (ed o env)=ed o env)(hs:∀env:d9,bS [e] env=[(false,ed e env)])(hline:(apos.endLine==pos.line)=true) :
  dM H0 w n cx (.Call (.Attribute o "join" apos) [e] [] pos) σ R (.str (ce x ss)) R2:=by
 intro A E I ρ env s hR G O
 refine pY (hbase env) (hs env) hline (h1.then hR G O λI1 ρ1 u s1 x1 hu O1 G1=>?_)
 obtain⟨g1,g2,t,rfl⟩:=hu
 refine⟨"str",_,mW,yG,PySem.F.type_str_join,kT _ _ _,(λζ e=>nomatch e),method1_meets yG PySem.F.entry_str_join (h2.then hR G1 O1 λI2 ρ2 y s2 x2 hy O2 G2=>?_)⟩
 obtain⟨a,xs,k,rfl,hr,hlen,hat⟩:=qH G2 hl hy
 obtain⟨lt,rfl,k2,k3⟩:=xA hr hss
 have hjl:wp ((lt.map (·.1)).toArray.foldl (· + ·.length+(S x).length) 0)=false:=by
  rw [k2,StrLaws.joinTotal,aI,ae,dX]
  have:(List.map (Str.length∘S) ss)=ss.map bX:=bf λp ζ=>dX p
  rw [this]
  unfold wp
  exact decide_eq_false (dj.mpr (ga hsz))
 have hpost:(joinMade (S x) lt).post (λv s'=>wants (fM H0 I ρ s (.str (ce x ss)) R2) E (.ok (.ret v)) s') s2:=by
  refine post_join lt ⟨joinFit_length hjl,λt' k=>?_⟩
  have e1:Txt.join (S x) (lt.map (·.1))=S (ce x ss):=by
   unfold Txt.join
   rw [StrLaws.glued_eq_join,k2]
   exact xS x ss
  rw [e1]
  exact fM.mono_ G (x1.trans G x2) (qO G2 hsz2 (zo x g2 ss λp hp=>(k3 p hp).2) k)
 rcases hat with hat | hat
 ·exact⟨kT _ _ _,wl _ _,_,meets_str_join_list (S x) t a lt hjl,⟨_,hat,rfl,k,rfl⟩,hpost⟩
 ·exact⟨kT _ _ _,wl _ _,_,meets_str_join_tuple (S x) t a lt hjl,⟨_,k,hat,rfl,rfl⟩,hpost⟩
end
end
end Mine
end
section
open PySem PySem.W PyProof.Rows PySem.Spec
namespace Mine
noncomputable section
theorem KL(P:dZ):(Qg.all λx=>kj (KK pw P) (.ref x.1) x.2==some none&&(hasDictIn (KK pw P) x.1&&(plainGet (KK pw P) x.1 "x"&&(kj (KK pw P) (.ref x.1) "__setattr__"==some (some (.builtin "object.__setattr__"))&&(plainOver (KK pw P) x.1&&takerIn (KK pw P) x.1 x.2==some none)))))=true:=∅
theorem oV(P:dZ){C:aB}{a:Str}(h:ta C a=true):kj (KK pw P) (.ref C) a=some none/\hasDictIn (KK pw P) C=true/\plainGet (KK pw P) C "x"=true/\kj (KK pw P) (.ref C) "__setattr__"=some (some (.builtin "object.__setattr__"))/\plainOver (KK pw P) C=true /\
  takerIn (KK pw P) C a=some none:=by
 have h:=bu.mp (KL P) (C,a) (cZ.mp h)
 simp only [bd,beq_iff_eq]at h
 exact h
section
variable {H0:Bs} {w:bF} {n m:Nat} {sp:Spec} {I I' I'':dC} {ρ ρ' ρ'':dH} {R R' R'' R1 R2 R3:List aO} {cx:Cx} {σ σ' σ1 σ2:bq} {env:d9} {A:bD} {E:af->ag->Prop} {s s' s'':ag} {e l r t o:Expr} {v:PV} {f:Fl} {X Y Z:aB->Prop}
theorem sz:∀{fs:List (Str × PV)} {es:List kY},oG I ρ fs es->es.any (·.refKey)=false:=by
 intro fs
 induction fs with
 | nil=>
  intro es h
  cases h;rfl
 | cons xq r ih=>
  obtain⟨x,p⟩:=xq
  intro es h
  obtain⟨hs,t,v,es',rfl,h1,h2⟩:=h
  rw [qw,ih h2]
  rfl
theorem wC{a:Str}:∀{fs:List (Str × PV)} {es:List kY},oG I ρ fs es->(∀v,fs.lookup a=some v->∃e,es.find? (·.key.isStr a)=some e/\cq I ρ v e.val)/\(fs.lookup a=none->es.find? (·.key.isStr a)=none):=by
 intro fs
 induction fs with
 | nil=>
  intro es h
  cases h;exact⟨(λv e=>nomatch e),λζ=>rfl⟩
 | cons xq r ih=>
  obtain⟨x,p⟩:=xq
  intro es h
  obtain⟨hs,t,u,es',rfl,h1,h2⟩:=h
  obtain⟨i1,i2⟩:=ih h2
  have hk:(iE x t).isStr a=(x==a):=rfl
  constructor
  ·intro v e
   rw [a9]at e
   rw [Jz]
   show ∃e,(match (iE x t).isStr a with | true=>some _ | false=>_)=some e/\_
   rw [hk]
   by_cases hx:a=x
   ·subst hx
    rw [beq_self_eq_true]at e ⊢
    cases e
    exact⟨_,rfl,h1⟩
   ·rw [beq_eq_false_iff_ne.mpr hx]at e
    rw [beq_eq_false_iff_ne.mpr (di hx)]
    exact i1 v e
  ·intro e
   rw [a9]at e
   rw [Jz]
   show(match (iE x t).isStr a with | true=>some _ | false=>_)=none
   rw [hk]
   by_cases hx:a=x
   ·subst hx
    rw [beq_self_eq_true]at e
    cases e
   ·rw [beq_eq_false_iff_ne.mpr hx]at e
    rw [beq_eq_false_iff_ne.mpr (di hx)]
    exact i2 e
theorem zv{a:Str}{fs:List (Str × PV)}{es:List kY}{v:PV}(h:oG I ρ fs es)(hv:fs.lookup a=some v):∃u,getL a es=some (some u)/\cq I ρ v u:=by
 obtain⟨e,h1,h2⟩:=(wC (a:=a) h).1 v hv
 refine⟨e.val,?_,h2⟩
 unfold getL
 rw [h1]
theorem nk(G:Gd H0 I ρ R s.heap){k:Nat}{C:aB}{fs:List (Str × PV)}{u:af}(hr:R[k]? = some (.inst C fs))(hu:cq I ρ (.obj k) u) :
  ∃p es j,ρ[k]? = some p/\u = .ref p.1/\p.2≠p.1/\fs.length<=900/\InstAt s.heap p.1 (nK C p.2) C (some (AP es j))/\s.heap.get? p.2=some (AP es j)/\oG I ρ fs es:=by
 obtain⟨p,hp,rfl,h1,h2,h3,es,j,h4,h5⟩:=rN G hr hu
 exact⟨p,es,j,hp,rfl,h1,h3,⟨h2,rfl,rfl,h4⟩,h4,h5⟩
theorem qe{v:PV}{u:af}(h:cq I ρ v u)(hv:∀x,v ≠ .val x):handedIn u=true:=by
 cases v with
 | none=>cases h;rfl
 | bool b=>cases h;rfl
 | int i=>obtain⟨t,rfl⟩:=h;rfl
 | str l=>obtain⟨_,_,t,rfl⟩:=h;rfl
 | list l=>obtain⟨_,a,_,_,rfl,_⟩:=h;rfl
 | tup l=>obtain⟨_,a,_,_,rfl,_⟩:=h;rfl
 | val x=>exact absurd rfl (hv x)
 | obj k=>obtain⟨p,_,rfl⟩:=h;rfl
theorem Aa(B:dy w H0.heap){k:Nat}{C:aB}{fs:List (Str × PV)}{a:Str}{pos:dN}(h1:dM H0 w n cx o σ R (.obj k) R1)(hr:R1[k]? = some (.inst C fs))(hf:ta C a=true)(hv:fs.lookup a=some v)(hnv:∀x,v ≠ .val x)
  (he:∀env:d9,ed (.Attribute o a pos) env=(do
   let x <-ed o env
   nI pos.atName
   let r <-kh [x] (vK x a true)
   iY o x r
   b7 r)):dM H0 w n cx (.Attribute o a pos) σ R v R1:=by
 intro A E I ρ env s hR G O
 refine Attribute_any_ (h1.then hR G O λI1 ρ1 u s1 x1 hu O1 G1=>?_) (he env)
 obtain⟨p,es,j,hp,rfl,_,_,Ia,_,hF⟩:=nk G1 hr hu
 obtain⟨y,hy,hry⟩:=zv hF hv
 obtain⟨f1,f2,f3,f4,f5,f6⟩:=oV w.params hf
 refine get_value (G1.baseAt B).k Ia (yD f3).1 (findObj_own f2 f1 rfl (by rw [yE];exact hy)) (qe hry hnv) ?_
 exact fM.mono_ G x1 (oi G1 hry _)
end
end
end Mine
end
section
open PySem PySem.W PyProof.Rows PySem.Spec
namespace Mine
noncomputable section
section
variable {H0:Bs} {w:bF} {n m:Nat} {sp:Spec} {I I' I'':dC} {ρ ρ' ρ'':dH} {R R' R'' R1 R2 R3:List aO} {cx:Cx} {σ σ' σ1 σ2:bq} {env:d9} {A:bD} {E:af->ag->Prop} {s s' s'':ag} {e l r t o:Expr} {v:PV} {f:Fl} {X Y Z:aB->Prop}
noncomputable def BH(h:fv)(L dx:aB):List (aB × jf):=(cM h.objs.size).filterMap λa=>if a=L\/a=dx then none else(h.get? a).map (a,·)
theorem uO{h:fv}{L dx:aB}{p:aB × jf}(hp:p∈BH h L dx):h.get? p.1=some p.2/\p.1≠L/\p.1≠dx:=by
 obtain⟨a,_,ha⟩:=FI.mp hp
 by_cases hc:a=L\/a=dx
 ·rw [if_pos hc]at ha;cases ha
 ·rw [if_neg hc]at ha
  cases hg:h.get? a with
  | none=>rw [hg]at ha;cases ha
  | some o=>
   rw [hg]at ha
   cases ha
   exact⟨hg,λq=>hc (av q),λq=>hc (an q)⟩
theorem BD{h:fv}{L dx a:aB}{o:jf}(hg:h.get? a=some o)(h1:a≠L)(h2:a≠dx):(a,o)∈BH h L dx:=
 FI.mpr ⟨a,iu.mpr (c8 hg),by rw [if_neg (by rintro (q | q);exact h1 q;exact h2 q),hg];rfl⟩
theorem GL{a:Str}{hsh:Int}{t:tU}{u:af}{v:PV}(hu:cq I ρ v u):∀{fs:List (Str × PV)} {es:List kY},oG I ρ fs es->oG I ρ (iF fs a v) (putL a hsh (.str a t) u es):=by
 intro fs
 induction fs with
 | nil=>
  intro es h
  cases h
  show oG I ρ [(a,v)] [⟨hsh,.str a t,u⟩]
  exact⟨hsh,t,u,[],rfl,hu,rfl⟩
 | cons xq r ih=>
  obtain⟨x,p⟩:=xq
  intro es h
  obtain⟨hs,t',z,es',rfl,h1,h2⟩:=h
  have hk:(iE x t').isStr a=(x==a):=rfl
  rw [n8];unfold putL
  show oG I ρ (if(x==a)=true then _ else _) (if(iE x t').isStr a=true then _ else _)
  rw [hk]
  by_cases hx:x=a
  ·subst hx
   rw [if_pos (beq_self_eq_true _),if_pos (beq_self_eq_true _)]
   exact⟨hs,t',u,es',rfl,hu,h2⟩
  ·have hb:¬(x==a)=true:=by rw [beq_eq_false_iff_ne.mpr hx];decide
   rw [if_neg hb,if_neg hb]
   exact⟨hs,t',z,_,rfl,h1,ih h2⟩
theorem GM:∀{fs:List (Str × PV)} {es:List kY},oG I ρ fs es->es.length=fs.length:=by
 intro fs
 induction fs with
 | nil=>
  intro es h
  cases h;rfl
 | cons xq r ih=>
  obtain⟨x,p⟩:=xq
  intro es h
  obtain⟨hs,t',z,es',rfl,h1,h2⟩:=h
  rw [aq,aq,ih h2]
theorem uq(fs:List (Str × PV))(a:Str)(v:PV):(iF fs a v).length<=fs.length+1:=by
 induction fs with
 | nil=>exact aF _
 | cons p r ih=>
  obtain⟨x,q⟩:=p
  rw [n8]
  split
  ·simp
  ·simp only [aq];exact VA ih
theorem Gx(B:dy w H0.heap)(G:Gd H0 I ρ R s.heap)(O:b4 I ρ cx σ env s.heap){k:Nat}{C:aB}{fs:List (Str × PV)}{a:Str}{x u:af}(hr:R[k]? = some (.inst C fs))(hx:cq I ρ (.obj k) x)(hf:ta C a=true)(hl:fs.length<900)(hu:cq I ρ v u) :
  ar (ay pw w) A (setAttr x a u) (vA H0 I ρ s env cx σ (R.set k (.inst C (iF fs a v)))) E s:=by
 obtain⟨p,es,j,hp,rfl,hne,_,Ia,hd,hF⟩:=nk G hr hx
 obtain⟨f1,f2,f3,f4,f5,f6⟩:=oV w.params hf
 obtain⟨m,hns,hbs⟩:=O.ns
 have hLo:¬fL I ρ env.locals:=O.sep _ (av rfl)
 have hLd:p.2≠env.locals:=λq=>hLo (an ⟨p,be hp,an q.symm⟩)
 let h₀:fv:={ s.heap with objs := #[] }
 have e0:∀b o,h₀.get? b=some o->False:=λb o e=>by
  have:=c8 e
  exact absurd this (ji _)
 have en:∀b,h₀.get? b=none:=λb=>by
  cases e:h₀.get? b with
  | none=>rfl
  | some o=>exact(e0 b o e).elim
 have F:Fr h₀ env.locals s.heap m:=⟨hns,λb o e=>(e0 b o e).elim,bo _⟩
 have N:News h₀ env.locals s.heap ([]++(p.2,AP es j)::BH s.heap env.locals p.2):=λq hq=>by
  rcases aw.mp hq with rfl | hq
  ·exact⟨hd,hLd,en _⟩
  ·obtain⟨g1,g2,g3⟩:=uO hq
   exact⟨g1,g2,en _⟩
 have hgl:(lookIn a (AP es j)).isSome=true:=by
  rw [yE]
  unfold getL
  rw [sz hF]
  cases es.find? (·.key.isStr a)<;>rfl
 have hput:=GL (a:=a) (hsh:=oH w.params a) (t:=s.toks+1) hu hF
 have hlen:(putL a (oH w.params a) (.str a (s.toks+1)) u es).length<=900:=by
  rw [GM hput]
  have:=uq fs a v
  exact Vz hl this
 refine set_plain (G.baseAt B).k Ia f4 (osa_dict (s:={ s with toks:=s.toks+1 }) F N (G.baseAt B).k Ia rfl f5 f6 f2 hgl (λζ h=>nomatch h) (λq hq=>(uO hq).2.2) (by rw [putName_dict]) rfl (ah hlen (by decide)) λh' F' N'=>?_)
 have hd':h'.get? p.2=some (AP (putL a (oH w.params a) (.str a (s.toks+1)) u es) (putN a es j)):=(N' _ (aj)).1
 have keep:∀b o,b≠env.locals->b≠p.2->s.heap.get? b=some o->h'.get? b=some o:=λb o h1 h2 e=>(N' _ (am _ (BD e h1 h2))).1
 have hns':=F'.ns
 have hLal:h'.get? env.locals≠none:=by
  obtain⟨o,_,_,g,_⟩:=hns'
  rw [g];exact λh=>nomatch h
 have hp1L:p.1≠env.locals:=λq=>hLo (an ⟨p,be hp,av q.symm⟩)
 have hx1:h'.get? p.1=some (nK C p.2):=keep _ _ hp1L (di hne) Ia.at_
 obtain⟨d1,d2⟩:=G.dis k p _ hp hr (λh=>nomatch h)
 have own_ne:∀b,fL I ρ b->b≠env.locals:=λb hb q=>hLo (q▸hb)
 generalize hs':({ s with heap:=h',toks:=s.toks+1+1 }:ag)=s'
 have hh:s'.heap=h':=by rw [<-hs']
 have x:a8 H0 (mI env) I ρ s I ρ (R.set k (.inst C (iF fs a v))) s':=by
  refine⟨λζ ζ e=>e,⟨[],(aP _).symm⟩,λb h=>av h,λb o hn e=>?_,λb hb=>?_,⟨λb o e=>?_,G.base,by rw [vE];exact G.len,λi q r1 h1 h2=>?_,λi q r1 h1 h2 h3=>?_,G.apart,λb hb=>?_⟩,by rw [<-hs'],by rw [<-hs']⟩
  ·rw [hh]
   exact⟨o,keep b o (λq=>hn (an (av q))) (λq=>hn (av ⟨p,be hp,an q⟩)) e,kJ.refl o⟩
  ·rw [hh]
   by_cases h1:b=env.locals
   ·rw [h1];exact hLal
   ·by_cases h2:b=p.2
    ·rw [h2,hd'];exact λh=>nomatch h
    ·obtain⟨o,e⟩:=bj.mp hb
     rw [keep b o h1 h2 e];exact λh=>nomatch h
  ·rw [hh]
   refine keep b o (own_ne b (av (by rw [e];exact λh=>nomatch h))) (λq=>?_) (G.imm b o e)
   subst q
   rw [d2]at e;cases e
  ·rw [hh]
   rcases oU h2 with ⟨rfl,rfl⟩ | ⟨hne2,h2⟩
   ·rw [hp]at h1
    cases h1
    refine⟨hne,hx1,?_,_,_,hd',hput⟩
    have:=uq fs a v
    exact Vz hl this
   ·have hap:=G.apart i k q p h1 hp hne2
    have hq:=be h1
    have:=lr.mono (I':=I) (δ:=[]) (hp':=h') (λζ ζ e=>e) (λb o hb e=>keep b o (own_ne b (an ⟨q,hq,hb⟩)) (λz=>by
     subst z
     rcases hb with hb | hb
     ·exact hap.2.1 hb.symm
     ·exact hap.2.2.2 hb.symm) e) (G.recs i q r1 h1 h2)
    rwa [aP]at this
  ·rcases oU h2 with ⟨rfl,rfl⟩ | ⟨hne2,h2⟩
   ·rw [hp]at h1;cases h1;exact⟨d1,d2⟩
   ·exact G.dis i q r1 h1 h2 h3
  ·obtain⟨g1,ob,es',ep,g2,g3⟩:=G.stk b hb
   refine⟨g1,?_⟩
   rw [hh]
   by_cases hbL:b=env.locals
   ·obtain⟨o,es'',ep',q1,q2,_⟩:=hns'
    exact⟨o,es'',ep',by rw [hbL];exact q1,q2⟩
   ·exact⟨ob,es',ep,keep b ob hbL (λq=>g1 (an ⟨p,be hp,an q⟩)) g2,g3⟩
 have cellKeep:∀y c v0,env.cells.lookup y=some c->s.heap.IsCell c v0->s'.heap.IsCell c v0:=λy c v0 hy ⟨o,g1,g2⟩=>by
  refine⟨o,?_,g2⟩
  rw [hh]
  refine keep c o (λq=>?_) (λq=>?_) g1
  ·obtain⟨o1,e1,n1,q1,q2,_⟩:=hns
   rw [q,q1]at g1
   cases g1
   rw [q2]at g2;cases g2
  ·exact O.sep c (an ⟨y,hy⟩) (an ⟨p,be hp,an q⟩)
 refine⟨I,ρ,x,O.kf,O.gle,O.ble,O.glo,O.loc,O.fn,O.cek,λy kk hy hkk=>?_,⟨m,by rw [hh];exact hns',λy pv hy=>?_⟩,O.sep,O.apart,λb hb=>x.alive b (O.alive b hb),O.dbg,O.law⟩
 ·obtain⟨g1,c,v0,g2,g3⟩:=O.cel y kk hy hkk
  exact⟨g1,c,v0,g2,cellKeep y c v0 g2 g3⟩
 ·obtain⟨g1,g2⟩:=hbs y pv hy
  refine⟨g1,?_⟩
  rcases g2 with ⟨g2,u',g3,g4⟩ | ⟨g2,c,u',g3,g4,g5⟩
  ·exact av ⟨g2,u',g3,g4⟩
  ·exact an ⟨g2,c,u',g3,cellKeep y c _ g3 g4,g5⟩
theorem B1(B:dy w H0.heap){k:Nat}{C:aB}{fs:List (Str × PV)}{a:Str}{ap pos:dN}(h1:dM H0 w n cx e σ R v R1)(h2:dM H0 w n cx o σ R1 (.obj k) R2)(hr:R2[k]? = some (.inst C fs))(hf:ta C a=true)(hl:fs.length<900)
  (h3:∀env:d9,tj [.Attribute o a ap] e pos.line env=b7 false)(h4:∀env:d9,tm [.Attribute o a ap] e env=b7 none) :
  yN H0 w n cx (.Assign [.Attribute o a ap] e pos) σ R .next σ (R2.set k (.inst C (iF fs a v))):=by
 intro A E I ρ env s hR G O
 refine sQ (h1.then hR G O λI1 ρ1 u s1 x1 hu O1 G1=>?_) (h3 env) (h4 env)
 show ar _ A (assignAll u [iD (.Attribute o a ap) env]) _ _ s1
 show ar _ A (iD (.Attribute o a ap) env u) _ _ s1
 rw [arm_assign_Attribute]
 refine aa (aW (h2.then hR G1 O1 λI2 ρ2 y s2 x2 hy O2 G2=>aa (fu (aa (aW ?_)))))
 refine ao (Gx B G2 O2 hr hy hf hl (hu.le x2)) (λζ s3 q=>?_) λζ ζ e=>e
 obtain⟨I3,ρ3,x3,O3⟩:=q
 intro Γ p hΓ
 rw [Sem.wp_release]
 exact⟨I3,ρ3,((x1.trans G x2).weaken).trans G x3,O3,rfl⟩
theorem K1(B:dy w H0.heap)(hsp:dB H0 w n sp){g:Str}{fa:aB}{np pos:dN}{es:List Expr}{vs:List PV}(hg:gl cx g=true)(hgv:eZ g=some (.ref fa))(h1:qm H0 w n cx es σ R vs R1)(hc:sp fa vs [] R1=some (v,R2))
  (hfn:∀P,∃o fd,(KK pw P).lookup fa=some o/\o.data = .func fd)(hev:∀env:d9,∃x rest,hO pos (bS es env)=(false,x)::rest):dM H0 w n cx (.Call (.Name g np) es [] pos) σ R v R2:=by
 intro A E I ρ env s hR G O
 refine fk (db (cz B G O hg hgv ?_) (c9 O (O.glo g hg)))
 obtain⟨ob,fd,hl,hd⟩:=hfn w.params
 have fin:∀(us:List af) (s1:ag),Av H0 I ρ s vs R1 us s1->(s1.heap.get? fa=some ob/\ob.data = .func fd)/\ar (ay pw w) A (call (.ref fa) ([]++us) []) (fM H0 I ρ s v R2) E s1:=by
  rintro us s1 ⟨I1,ρ1,x1,hu⟩
  refine⟨⟨(x1.good.baseAt B).k _ _ hl,hd⟩,?_⟩
  refine fj (gm (hsp fa vs [] R1 v R2 hc A E I1 ρ1 s1 us [] (hR.le (cX n)) x1.good hu ⟨rfl,by exact aY.nil⟩) (λr s' q=>?_))
  rcases r with e | (u' | _ | _ | _)<;>first | exact q | exact fM.mono_ G x1 q
 have hh:=h1 A E I ρ env pos s hR G O
 obtain⟨x,rest,hx⟩:=hev env
 rw [hx]
 rw [hx]at hh
 refine rG (o:=ob) (fd:=fd) (evalArgs_kw rfl (ao hh (λus s1 q=>?_) λζ ζ e=>e))
 refine nH ?_
 exact fin us s1 q
section
variable (H0 w A E I ρ R s)
noncomputable def Lr(op:cy)(x y:af)(v:PV):Prop:=ar (ay pw w) A (inplaceOp op x y) (fM H0 I ρ s v R) E s
end
set_option tactic.hygienic true in
theorem Lj(G:Gd H0 I ρ R s.heap){op:cy}{i j:Int}{t u:tU}:az (Lr H0 w I ρ R A E s op (.int i t) (.int j u)) (Qv op i j):=by
 cases op
 case Add=>exact az.some (AutoIntOps.iadd_0 (iW G _))
 case Sub=>exact az.some (AutoIntOps.isub_0 (iW G _))
 all_goals exact az.none
set_option tactic.hygienic true in
theorem Vm(G:Gd H0 I ρ R s.heap){op:cy}{a b:PV}{x y:af}(ha:cq I ρ a x):cq I ρ b y->az (Lr H0 w I ρ R A E s op x y) (rt op a b):=by
 cases a
 case int i=>exact lQ (C:=λb o=>cq I ρ b y->az (Lr H0 w I ρ R A E s op x y) o) b (λζ ζ=>az.none) λj hb=>ha.int_el λt=>hb.int_el λu=>Lj G
 case str i=>exact λhb=>az.grd λh=>q8 h (m8 (C:=λb o=>cq I ρ b y->az (Lr H0 w I ρ R A E s .Add x y) o) b (λζ ζ=>az.none) (λj hb=>az.mkS λhl=>ha.str_el λt l1 q1=>hb.str_el λu l2 q2=>
  SB.iadd (λt' k=>At i j▸qO G hl (la q1 q2) _) (by rw [dX,dX];exact ah (cr l1 l2) zh)) hb)
 all_goals exact λζ=>az.none
theorem II(G:Gd H0 I ρ R s.heap){op:cy}{a b v:PV}{x y:af}(h:rt op a b=some v)(ha:cq I ρ a x)(hb:cq I ρ b y):ar (ay pw w) A (inplaceOp op x y) (fM H0 I ρ s v R) E s:=Vm G ha hb v h
theorem B4{x:Str}{xp pos:dN}{op:cy}{a b:PV}(hx:σ.lookup x=some a)(h1:dM H0 w n cx e σ R b R1)(hv:rt op a b=some v)(hs:qG cx σ x v=some σ') :
  yN H0 w n cx (.AugAssign (.Name x xp) op e pos) σ R .next σ' R1:=by
 intro A E I ρ env s hR G O
 refine wpAny_AugAssign_Name (uK O hx λold ho=>h1.then hR G O λI1 ρ1 u s1 x1 hu O1 G1=>ao (II G1 hv (ho.le x1) hu) (λy s2 q=>?_) λζ ζ e=>e)
 obtain⟨I2,ρ2,x2,hy⟩:=q
 have O2:=O1.step x2
 refine ao (ug x2.good O2 hs hy) (λζ s3 q=>?_) λζ ζ e=>e
 obtain⟨I3,ρ3,x3,O3⟩:=q
 exact⟨I3,ρ3,((x1.trans G x2).weaken).trans G x3,O3,rfl⟩
theorem KU{i:Int}{pos:dN}(h1:dM H0 w n cx e σ R (.int i) R1):dM H0 w n cx (.UnaryOp .USub e pos) σ R (.int (-i)) R1:=by
 intro A E I ρ env s hR G O
 refine wpAny_UnaryOp (h1.then hR G O λI1 ρ1 u s1 x1 hu O1 G1=>?_)
 obtain⟨t,rfl⟩:=hu
 exact neg_int (fM.mono_ G x1 (iW G1 _))
theorem Nz(B:dy w H0.heap)(G:Gd H0 I ρ R s.heap){k:Nat}{C:aB}{fs:List (Str × PV)}{a:Str}{x:af}(hr:R[k]? = some (.inst C fs))(hx:cq I ρ (.obj k) x)(hf:ta C a=true)(hv:fs.lookup a=some v)(hnv:∀x,v ≠ .val x){b:Bool} :
  ar (ay pw w) A (vK x a b) (fM H0 I ρ s v R) E s:=by
 obtain⟨p,es,j,hp,rfl,_,_,Ia,_,hF⟩:=nk G hr hx
 obtain⟨y,hy,hry⟩:=zv hF hv
 obtain⟨f1,f2,f3,f4,f5,f6⟩:=oV w.params hf
 exact get_value (G.baseAt B).k Ia (yD f3).1 (findObj_own f2 f1 rfl (by rw [yE];exact hy)) (qe hry hnv) (oi G hry _)
theorem B5(B:dy w H0.heap){a:Str}{tp pos:dN}{op:cy}{k:Nat}{C:aB}{fs fs':List (Str × PV)}{x b:PV}(h1:dM H0 w n cx o σ R (.obj k) R1)(hr:R1[k]? = some (.inst C fs))(hf:ta C a=true)(hx:fs.lookup a=some x)
  (h2:dM H0 w n cx e σ R1 b R2)(hr2:R2[k]? = some (.inst C fs'))(hl:fs'.length<900)(hv:rt op x b=some v) :
  yN H0 w n cx (.AugAssign (.Attribute o a tp) op e pos) σ R .next σ (R2.set k (.inst C (iF fs' a v))):=by
 intro A E I ρ env s hR G O
 have hnv:∀z,x ≠ .val z:=λz hz=>by subst hz;cases hv
 refine wpAny_AugAssign_AttributeAny (h1.then hR G O λI1 ρ1 u s1 x1 hu O1 G1=>ao (Nz B G1 hr hu hf hx hnv) (λold s2 q=>?_) λζ ζ e=>e)
 obtain⟨I2,ρ2,x2,ho⟩:=q
 have O2:=O1.step x2
 refine h2.then hR x2.good O2 λI3 ρ3 y s3 x3 hy O3 G3=>ao (II G3 hv (ho.le x3) hy) (λz s4 q=>?_) λζ ζ e=>e
 obtain⟨I4,ρ4,x4,hz⟩:=q
 have O4:=O3.step x4
 refine ao (Gx B x4.good O4 hr2 (((hu.le x2).le x3).le x4) hf hl hz) (λζ s5 q=>?_) λζ ζ e=>e
 obtain⟨I5,ρ5,x5,O5⟩:=q
 exact⟨I5,ρ5,((((x1.trans G x2).trans G x3).trans G x4).weaken).trans G x5,O5,rfl⟩
end
end
end Mine
end
section
open PySem PySem.W PyProof.Rows PySem.Spec
namespace Mine
noncomputable section
section
variable {H0:Bs} {w:bF} {n m:Nat} {sp:Spec} {I I' I'':dC} {ρ ρ' ρ'':dH} {R R' R'' R1 R2 R3:List aO} {cx:Cx} {σ σ' σ1 σ2:bq} {env:d9} {A:bD} {E:af->ag->Prop} {s s' s'':ag} {e l r t o tgt:Expr} {v:PV} {f:Fl} {X Y Z:aB->Prop}
theorem Hy{ls:List PV}(h1:dM H0 w n cx e σ R (.list ls) R1)(hf:∀(env:d9) x,ki e env x=b7 x):FN H0 w n cx tgt e σ R ls σ R1:=by
 refine⟨hf,λA E I ρ env s hR G O=>h1.then hR G O λI1 ρ1 u s1 x1 hu O1 G1=>?_⟩
 refine ao (wU hR.1 (tgt:=tgt) G1 hu) (λit s2 q=>?_) λζ ζ e=>e
 obtain⟨Z,St,its,st,x2,hz⟩:=q
 exact⟨I1,ρ1,Z,St,its,st,x1.trans G x2,O1.step x2,λa ha=>by
  cases e:s.heap.get? a with
  | none=>rfl
  | some q=>exact absurd (hz a ha) (x1.alive a (by rw [e];exact λh=>nomatch h))⟩
theorem Kv{ls:List PV}(h1:dM H0 w n cx e σ R (.tup ls) R1)(hf:∀(env:d9) x,ki e env x=b7 x):FN H0 w n cx tgt e σ R ls σ R1:=by
 refine⟨hf,λA E I ρ env s hR G O=>h1.then hR G O λI1 ρ1 u s1 x1 hu O1 G1=>?_⟩
 refine ao (HA hR.1 (tgt:=tgt) G1 hu) (λit s2 q=>?_) λζ ζ e=>e
 obtain⟨Z,St,its,st,x2,hz⟩:=q
 exact⟨I1,ρ1,Z,St,its,st,x1.trans G x2,O1.step x2,λa ha=>by
  cases e:s.heap.get? a with
  | none=>rfl
  | some q=>exact absurd (hz a ha) (x1.alive a (by rw [e];exact λh=>nomatch h))⟩
theorem Kw{k:Nat}{ls:List PV}(h1:dM H0 w n cx e σ R (.obj k) R)(hr:R[k]? = some (.lst ls))(hf:∀(env:d9) x,ki e env x=b7 x):FN H0 w n cx tgt e σ R ls (rb k σ R).1 (rb k σ R).2:=by
 refine⟨hf,λA E I ρ env s hR G O=>h1.then hR G O λI1 ρ1 u s1 x1 hu O1 G1=>?_⟩
 obtain⟨p,hp,rfl,_⟩:=rN G1 hr hu
 obtain⟨I2,x2,O2,hl⟩:=Do (X:=eb) (k:=k) G1 O1
 refine ao (wU hR.1 (tgt:=tgt) x2.good (hl ls p hr hp)) (λit s2 q=>?_) λζ ζ e=>e
 obtain⟨Z,St,its,st,x3,hz⟩:=q
 exact⟨I2,ρ1,Z,St,its,st,(x1.trans G x2).trans G x3,O2.step x3,λa ha=>by
  cases e:s.heap.get? a with
  | none=>rfl
  | some q=>exact absurd (hz a ha) (x1.alive a (by rw [e];exact λh=>nomatch h))⟩
end
end
end Mine
end
section
open PySem PySem.W PyProof.Rows PySem.Spec
namespace Mine
noncomputable section
theorem J7(P:dZ):(kj (KK pw P) (.ref 872) "punctuation_chars"==some (some (.ref 804))&&specialIn (KK pw P) (.ref 804) "__get__"==some (some (.builtin "property.__get__"))&&takesIn (KK pw P) (.ref 804)==some true&&(recIn (KK pw P) 804 "property").map (·.head?)==some (some (.ref 803))&&(clsIn (KK pw P) 872).isSome)=true:=∅
section
variable {H0:Bs} {w:bF} {n m:Nat} {sp:Spec} {I I' I'':dC} {ρ ρ' ρ'':dH} {R R' R'' R1 R2 R3:List aO} {cx:Cx} {σ σ' σ1 σ2:bq} {env:d9} {A:bD} {E:af->ag->Prop} {s s' s'':ag} {e l r t o tgt:Expr} {v:PV} {f:Fl} {X Y Z:aB->Prop}
theorem KV(B:dy w H0.heap)(hsp:dB H0 w n sp){k:Nat}{fs:List (Str × PV)}{pos:dN}(h1:dM H0 w n cx o σ R (.obj k) R1)(hr:R1[k]? = some (.inst 872 fs))(hc:sp 803 [.obj k] [] R1=some (v,R2))(hnv:∀x,v ≠ .val x)
  (he:∀env:d9,ed (.Attribute o "punctuation_chars" pos) env=(do
   let x <-ed o env
   nI pos.atName
   let r <-kh [x] (vK x "punctuation_chars" true)
   iY o x r
   b7 r)):dM H0 w n cx (.Attribute o "punctuation_chars" pos) σ R v R2:=by
 intro A E I ρ env s hR G O
 refine Attribute_any_ (h1.then hR G O λI1 ρ1 u s1 x1 hu O1 G1=>?_) (he env)
 have hu0:=hu
 obtain⟨p,es,j,hp,rfl,_,_,Ia,_,hF⟩:=nk G1 hr hu
 have hK:=J7 w.params
 simp only [bd,beq_iff_eq]at hK
 obtain⟨⟨⟨⟨k1,k2⟩,k3⟩,k4⟩,k5⟩:=hK
 have hg:=yD (oV w.params (C:=872) (a:="token") ∅).2.2.1
 obtain⟨rest,hrec⟩:∃rest,recIn (KK pw w.params) 804 "property"=some (.ref 803::rest):=by
  cases hq:recIn (KK pw w.params) 804 "property" with
  | none=>rw [hq]at k4;cases k4
  | some l=>
   rw [hq]at k4
   cases l with
   | nil=>cases k4
   | cons a q=>
    have:a = .ref 803:=by simpa using k4
    exact⟨q,by rw [this]⟩
 have X1:=(G1.baseAt B).k
 have x2:a8 H0 eb I1 ρ1 s1 I1 ρ1 R1 { s1 with toks:=s1.toks+1 }:=a8.toks G1 nb _
 refine get_bind X1 Ia hg.1 (findObj_data k5 k1 k2 k3) hg.2 (fj (prop_get (s:={ s1 with toks:=s1.toks+1 }) X1 hrec ?_))
 have hR':cC H0 A.in1 n:=hR.in1
 refine gm (hsp 803 [.obj k] [] R1 v R2 hc _ (λe s'=>ar (ay pw w) A (noteIf true (.ref p.1) (.str "punctuation_chars" s1.toks) e) (λζ s''=>E e s'') E s') I1 ρ1 _ [.ref p.1] [] hR' x2.good ?_ ⟨rfl,aY.nil⟩) (λr s' q=>?_)
 ·exact aY.cons hu0 aY.nil
 ·rcases r with e | (_ | _ | _ | u')<;>first | exact q | skip
  obtain⟨I3,ρ3,x3,hu3⟩:=q
  show ar (ay pw w) A (handedOut u') _ _ _
  rw [handedOut_of (qe hu3 hnv)]
  exact ab ⟨I3,ρ3,(x1.trans G x2).trans G x3,hu3⟩
end
end
end Mine
end
section
open PySem PySem.W PyProof.Rows PySem.Spec
namespace Mine
noncomputable section
theorem wI{C fa:aB}{a:Str}(h:C8 C a=some fa):(C,a,fa)∈C7:=by
 obtain⟨⟨y1,y2,y3⟩,hy,e⟩:=ig h
 have hq:=List.find?_some hy
 obtain⟨q1,q2⟩:=eA hq
 cases aJ q1
 cases aJ q2
 cases e
 exact List.mem_of_find?_eq_some hy
theorem BB(P:dZ):(C7.all λx=>kj (KK pw P) (.ref x.1) x.2.1==some (some (.ref x.2.2))&&AJ (KK pw P) (.ref x.2.2)==some (.type "function")&&plainGet (KK pw P) x.1 "x")=true:=∅
section
variable {H0:Bs} {w:bF} {n m:Nat} {sp:Spec} {I I' I'':dC} {ρ ρ' ρ'':dH} {R R' R'' R1 R2 R3:List aO} {cx:Cx} {σ σ' σ1 σ2:bq} {env:d9} {A:bD} {E:af->ag->Prop} {s s' s'':ag} {e l r t o tgt:Expr} {v:PV} {f:Fl} {X Y Z:aB->Prop}
theorem z9(B:dy w H0.heap)(hsp:dB H0 w n sp){k:Nat}{C fa:aB}{fs:List (Str × PV)}{a:Str}{apos pos:dN}{es:List Expr}{vs:List PV}(h1:dM H0 w n cx o σ R (.obj k) R1)(hr:R1[k]? = some (.inst C fs))(hm:C8 C a=some fa)(hno:fs.lookup a=none)
  (h2:qm H0 w n cx es σ R1 vs R2)(hc:sp fa (.obj k::vs) [] R2=some (v,R3))(hfn:∀P,∃ob fd,(KK pw P).lookup fa=some ob/\ob.data = .func fd)
  (hbase:∀env:d9,fJ o a env (ed o env)=ed o env)(hform:∀env:d9,mS (es.length+0) (hO pos (bS es env)) []=true)(hline:(apos.endLine==pos.line)=true)
  (hev:∀env:d9,(hO pos (bS es env)=[]/\es=[]) \/ ∃x rest,hO pos (bS es env)=(false,x)::rest)(hnil:es=[]->vs=[]/\R2=R1) :
  dM H0 w n cx (.Call (.Attribute o a apos) es [] pos) σ R v R3:=by
 intro A E I ρ env s hR G O
 rw [arm_eval_Call,hbase env]
 refine aa (h1.then hR G O λI1 ρ1 u s1 x1 hu O1 G1=>aa (fu ?_))
 have hu0:=hu
 obtain⟨p,es',j,hp,rfl,_,_,Ia,_,hF⟩:=nk G1 hr hu
 have hK:=bu.mp (BB w.params) _ (wI hm)
 simp only [bd,beq_iff_eq]at hK
 obtain⟨⟨k1,k2⟩,k3⟩:=hK
 have hg:=yD k3
 have hget:getL a es'=some none:=by
  unfold getL
  rw [(wC (a:=a) hF).2 hno,sz hF]
  rfl
 have hpos:lu true o env apos pos=b7 pos:=by unfold lu;simp [hline]
 obtain⟨ob,fd,hl,hd⟩:=hfn w.params
 unfold methodCall
 show ar _ A (do
  let (f,first) <-kh [jY p.1] (calleeOf (mS (es.length+0) (hO pos (bS es env)) []) o env (.ref p.1) a)
  let callPos <-lu (mS (es.length+0) (hO pos (bS es env)) []) o env apos pos
  Jt callPos f first (hO pos (bS es env)) []) _ E s1
 rw [hform env]
 refine aa (aW (method_fn (G1.baseAt B).k Ia hg.1 hg.2 k1 k2 (by show(lookIn a (AP es' j)).map _=_;rw [yE,hget];rfl) ?_))
 refine aa (ci hpos ?_)
 have fin:∀(us:List af) (s2:ag),Av H0 I1 ρ1 s1 vs R2 us s2->(s2.heap.get? fa=some ob/\ob.data = .func fd)/\ar (ay pw w) A (call (.ref fa) ([.ref p.1]++us) []) (fM H0 I ρ s v R3) E s2:=by
  rintro us s2 ⟨I2,ρ2,x2,hus⟩
  refine⟨⟨(x2.good.baseAt B).k _ _ hl,hd⟩,fj (gm (hsp fa (.obj k::vs) [] R2 v R3 hc A E I2 ρ2 s2 (.ref p.1::us) [] (hR.le (cX n)) x2.good ?_ ⟨rfl,by exact aY.nil⟩) (λr s' q=>?_))⟩
  ·exact⟨_,us,rfl,hu0.le x2,hus⟩
  ·rcases r with e | (u' | _ | _ | _)<;>first | exact q | exact fM.mono_ G (x1.trans G x2) q
 have hh:=h2 A E I1 ρ1 env pos s1 hR G1 O1
 rcases hev env with ⟨hx,he⟩ | ⟨x,rest,hx⟩
 ·rw [hx]
  obtain⟨rfl,rfl⟩:=hnil he
  refine rG (o:=ob) (fd:=fd) (CE ?_)
  exact fin [] s1 ⟨I1,ρ1,a8.self G1 nb,aY.nil⟩
 ·rw [hx]
  rw [hx]at hh
  refine rG (o:=ob) (fd:=fd) (evalArgs_kw rfl (ao hh (λus s2 q=>?_) λζ ζ e=>e))
  exact nH (fin us s2 q)
end
end
end Mine
end
section
open PySem PySem.W PyProof.Rows PySem.Spec
namespace Mine
noncomputable section
section
variable {H0:Bs} {w:bF} {n m:Nat} {sp:Spec} {I I' I'':dC} {ρ ρ' ρ'':dH} {R R' R'' R1 R2 R3:List aO} {cx:Cx} {σ σ' σ1 σ2:bq} {env:d9} {A:bD} {E:af->ag->Prop} {s s' s'':ag} {e l r t o tgt:Expr} {v:PV} {f:Fl} {X Y Z:aB->Prop}
theorem N7(G:Gd H0 I ρ R s.heap){i:Int}{u:af}(hu:cq I ρ (.int i) u):ar (ay pw w) A (call (.builtin "abs") [u]) (fM H0 I ρ s (.int i.natAbs) R) E s:=by
 obtain⟨t,rfl⟩:=hu
 refine call_abs_int λu tk=>?_
 have:(if i<0 then-i else i)=(i.natAbs:Int):=by
  by_cases h:i<0
  ·rw [if_pos h,Int.ofNat_natAbs_of_nonpos (sW h)]
  ·rw [if_neg h,DQ (md.mp h)]
 rw [this]
 exact iW G _
theorem BG(G:Gd H0 I ρ R s.heap){x:PV}{k:Nat}{u:af}(hu:cq I ρ x u)(h:qX R x=some k):ar (ay pw w) A (call (.builtin "len") [u]) (fM H0 I ρ s (.int k) R) E s:=by
 have seq:∀l,lK R x=some l->l.length=k->ar (ay pw w) A (call (.builtin "len") [u]) (fM H0 I ρ s (.int k) R) E s:=by
  intro l hl hk
  obtain⟨a,xs,j,rfl,hr,hlen,hat⟩:=qH G hl hu
  have hx:(xs.toArray.size:Int)=(k:Int):=by rw [aT,hr.length,hk]
  have hf:(xs.toArray.size:Int)<2 ^ 63:=by rw [aT,hr.length];exact JM hlen
  rcases hat with hat | hat
  ·exact PyProof.Rows.len_list ⟨_,hat,rfl,j,rfl⟩ hf (by rw [hx];exact iW G _)
  ·exact P.len_tuple hat (by exact Ui hf) (by rw [hx];exact iW G _)
 cases x with
 | str l=>
  obtain⟨g1,g2,t,rfl⟩:=hu
  cases h
  refine P.len_str (by rw [dX];have:=JM g1;exact Ui this) ?_
  rw [dX]
  exact iW G _
 | list l=>exact seq l rfl (by cases h;rfl)
 | tup l=>exact seq l rfl (by cases h;rfl)
 | obj j=>
  replace h:(lK R (.obj j)).map bX=some k:=h
  cases hq:lK R (.obj j)with
  | none=>rw [hq]at h;cases h
  | some l=>rw [hq]at h;cases h;exact seq l hq rfl
 | _=>cases h
theorem Vb(B:dy w H0.heap){g:Str}{id:String}{np pos:dN}{x:PV}(hg:gl cx g=true)(hgv:eZ g=some (.builtin id))(h1:dM H0 w n cx e σ R x R1)(hs:∀env:d9,bS [e] env=[(false,ed e env)])
  (hb:∀(A:bD) (E:af->ag->Prop) I ρ s u,cC H0 A n->Gd H0 I ρ R1 s.heap->cq I ρ x u->ar (ay pw w) A (call (.builtin id) [u]) (fM H0 I ρ s v R1) E s):dM H0 w n cx (.Call (.Name g np) [e] [] pos) σ R v R1:=by
 intro A E I ρ env s hR G O
 refine mY (hs env) (db (cz B G O hg hgv ?_) (c9 O (O.glo g hg)))
 exact callWith_builtin1 (h1.then hR G O λI1 ρ1 u s1 x1 hu O1 G1=>ao (hb A E I1 ρ1 s1 u (hR.le (cX n)) G1 hu) (λu' s' q=>fM.mono_ G x1 q) λζ ζ e=>e)
theorem NU(B:dy w H0.heap){g:Str}{T:String}{np pos:dN}{x:PV}(hg:gl cx g=true)(hgv:eZ g=some (.type T))(h1:dM H0 w n cx e σ R x R1)(hs:∀env:d9,bS [e] env=[(false,ed e env)])
  (hb:∀(A:bD) (E:af->ag->Prop) I ρ s u,cC H0 A n->Gd H0 I ρ R1 s.heap->cq I ρ x u->ar (ay pw w) A (call (.type T) [u]) (fM H0 I ρ s v R1) E s):dM H0 w n cx (.Call (.Name g np) [e] [] pos) σ R v R1:=by
 intro A E I ρ env s hR G O
 refine mY (hs env) (db (cz B G O hg hgv ?_) (c9 O (O.glo g hg)))
 exact callWith_type1 (h1.then hR G O λI1 ρ1 u s1 x1 hu O1 G1=>ao (hb A E I1 ρ1 s1 u (hR.le (cX n)) G1 hu) (λu' s' q=>fM.mono_ G x1 q) λζ ζ e=>e)
theorem sG(B:dy w H0.heap){g:Str}{id:String}{np pos:dN}{es:List Expr}{vs:List PV}(hg:gl cx g=true)(hgv:eZ g=some (.builtin id))(h1:qm H0 w n cx es σ R vs R1)
  (hev:∀env:d9,(hO pos (bS es env)).any (·.1)=false /\ ∃x rest,hO pos (bS es env)=(false,x)::rest)
  (hb:∀(A:bD) (E:af->ag->Prop) I ρ s us,cC H0 A n->Gd H0 I ρ R1 s.heap->aY I ρ vs us->ar (ay pw w) A (call (.builtin id) us) (fM H0 I ρ s v R1) E s):dM H0 w n cx (.Call (.Name g np) es [] pos) σ R v R1:=by
 intro A E I ρ env s hR G O
 refine fk (db (cz B G O hg hgv ?_) (c9 O (O.glo g hg)))
 obtain⟨h2,x,rest,hx⟩:=hev env
 have hh:=h1 A E I ρ env pos s hR G O
 rw [hx]at hh h2 ⊢
 refine yX h2 (ko (ao hh (λus s1 q=>?_) λζ ζ e=>e))
 obtain⟨I1,ρ1,x1,hu⟩:=q
 exact ao (hb A E I1 ρ1 s1 us (hR.le (cX n)) x1.good hu) (λu' s' q=>fM.mono_ G x1 q) λζ ζ e=>e
theorem Nr(G:Gd H0 I ρ R s.heap){i:Int}{u:af}(hu:cq I ρ (.int i) u):ar (ay pw w) A (call (.type "int") [u]) (fM H0 I ρ s (.int i) R) E s:=by
 obtain⟨t,rfl⟩:=hu
 exact call_int_int (ef G tF)
theorem Nq(G:Gd H0 I ρ R s.heap){x:PV}{T:String}{b:Bool}{u y:af}(hT:T="str"\/T="bytes"\/T="tuple")(h:BI x T=some b)(hu:cq I ρ x u)(hy:cq I ρ (.val (.type T)) y) :
  ar (ay pw w) A (call (.builtin "isinstance") [u,y]) (fM H0 I ρ s (.bool b) R) E s:=by
 cases hy
 have o0:∀c:Bool,fM H0 I ρ s (.bool c) R (.bool c) s:=λc=>ef G jq
 have o1:∀(c:Bool) t,fM H0 I ρ s (.bool c) R (.bool c) { s with toks:=t }:=λc t=>oi G jq t
 cases x with
 | str l=>
  obtain⟨_,_,t,rfl⟩:=hu
  rcases hT with rfl | rfl | rfl<;>cases h
  ·exact IsiPair.str_str (o0 _)
  ·exact IsiPair.str_bytes (o1 _ _)
  ·exact IsiPair.str_tuple (o1 _ _)
 | tup l=>
  obtain⟨_,a,xs,k,rfl,ha,_⟩:=hu
  have hat:=G.imm _ _ ha
  rcases hT with rfl | rfl | rfl<;>cases h
  ·exact IsiPair.tuple_str hat rfl (o1 _ _)
  ·exact IsiPair.tuple_bytes hat rfl (o1 _ _)
  ·exact IsiPair.tuple_tuple hat rfl (o0 _)
 | list l=>
  obtain⟨_,a,xs,k,rfl,ha,_⟩:=hu
  have hat:=G.imm _ _ ha
  rcases hT with rfl | rfl | rfl<;>cases h
  ·exact IsiPair.list_str hat rfl (o1 _ _)
  ·exact IsiPair.list_bytes hat rfl (o1 _ _)
  ·exact IsiPair.list_tuple hat rfl (o1 _ _)
 | _=>cases h
theorem y6(G:Gd H0 I ρ R s.heap){i:Int}{u:af}(hu:cq I ρ (.int i) u):ar (ay pw w) A (call (.type "type") [u]) (fM H0 I ρ s (.val (.type "int")) R) E s:=by
 obtain⟨t,rfl⟩:=hu
 exact call_type_of (typeIs_int _ _ _) (by decide) (ef G rfl)
theorem y5(G:Gd H0 I ρ R s.heap){l:LS}{u:af}(hu:cq I ρ (.str l) u):ar (ay pw w) A (call (.type "type") [u]) (fM H0 I ρ s (.val (.type "str")) R) E s:=by
 obtain⟨_,_,t,rfl⟩:=hu
 exact call_type_of (kT _ _ _) (by decide) (ef G rfl)
end
end
end Mine
end
section
open PySem PySem.W PyProof.Rows PySem.Spec
namespace Mine
noncomputable section
section
variable {H0:Bs} {w:bF} {n m:Nat} {I:dC} {ρ:dH} {R:List aO} {A:bD} {E:af->ag->Prop} {s:ag}
theorem qZ:kU (.type "str") (.type "str")=b7 true:=∅
theorem xU:kU (.type "tuple") (.type "tuple")=b7 true:=∅
theorem uQ:FV (.type "str")=b7 true:=∅
theorem Of{k:af}{dep:Int}{tk:tU}{Q:mU->ag->Prop}(hk:k = .int dep tk)(hq:Q (.done (.ret (.bool true))) s) :
  ar (ay pw w) A (Builtin.«issubclass.nested» ⟨[.type "str",.type "str",k],[]⟩) Q E s:=by
 subst hk
 have h1:=qZ
 have h2:=uQ
 have hm:Mk (.type "str")=b7 (.type "type"):=∅
 unfold Builtin.«issubclass.nested»
 dsimp only
 refine aa (ci hm ?_)
 rw [if_pos (by decide)]
 refine aa ?_
 refine aa (ci (a:=true) ?_ (ab (ab hq)))
 kernel_rfl
end
end
end Mine
end
section
open PySem PySem.W PyProof.Rows PySem.Spec
namespace Mine
noncomputable section
section
variable {H0:Bs} {w:bF} {n m:Nat} {sp:Spec} {I I' I'':dC} {ρ ρ' ρ'':dH} {R R' R'' R1 R2 R3:List aO} {cx:Cx} {σ σ' σ1 σ2:bq} {env:d9} {A:bD} {E:af->ag->Prop} {s s' s'':ag} {e l r t o tgt:Expr} {v:PV} {f:Fl} {X Y Z:aB->Prop}
theorem Hv:builtinKind "issubclass.nested"=none:=by decide+kernel
theorem Em:plainId "issubclass.nested"=true:=by decide+kernel
theorem IM(a b c:af):l6 "issubclass.nested" ⟨[a,b,c],[]⟩:=by unfold l6;kernel_rfl
theorem EB{dep:Int}{tk:tU}:AX (Builtin.«issubclass.nested» ⟨[.type "str",.type "str",.int dep tk],[]⟩) (λζ R s=>R (.ok (.ret (.bool true))) s):=by
 intro prog w A R s hs
 have h1:=qZ
 have h2:=uQ
 have hm:Mk (.type "str")=b7 (.type "type"):=∅
 unfold Builtin.«issubclass.nested»
 dsimp only
 refine aa (ci hm ?_)
 rw [if_pos (by decide)]
 refine aa ?_
 refine aa (ci (a:=true) ?_ (ab (ab hs)))
 kernel_rfl
theorem ER{prog:eC}{a:aB}{k:Nat}{Q:mU->ag->Prop}(ha:s.heap.get? a=some (mw #[.type "str",.type "bytes"] k))(hq:Q (.done (.ret (.bool true))) s) :
  ar (ay prog w) A (Builtin.«issubclass.nested» ⟨[.type "str",.ref a,gz 0],[]⟩) Q E s:=by
 have hT:s.TypeIs (.ref a) "tuple":=⟨_,ha,rfl⟩
 unfold Builtin.«issubclass.nested»
 show ar _ A (Mk (.ref a)>>=_) _ _ _
 refine aa (kc hT ?_)
 rw [if_neg (by decide)]
 refine aa (m:=LB (.ref a)) (aa (kc hT ?_))
 rw [if_neg (by decide)]
 refine ab ?_
 refine aa (kQ hT xU ?_)
 rw [if_pos rfl]
 show ar _ A (if(0:Int)≥LC then _ else _) _ _ _
 rw [if_neg (by decide)]
 show ar _ A (ir (.ref a)>>=_) _ _ _
 refine aa (c0 ha rfl ?_)
 refine aa ?_
 rw [<-lF]
 show ar _ A (pn [lE "str",lE "bytes"] _ _) _ _ _
 rw [ey]
 refine aa (aa (call_function_meets Hv Em PySem.F.entry_issubclass_nested (IM _ _ _) EB ?_))
 dsimp only [wants]
 refine aa (gk ?_)
 rw [if_pos rfl]
 exact aa (ab (ab (ab (ab hq))))
theorem HB(G:Gd H0 I ρ R s.heap){u:af}(hu:cq I ρ (.tup [.val (.type "str"),.val (.type "bytes")]) u):ar (ay pw w) A (call (.builtin "issubclass") [.type "str",u]) (fM H0 I ρ s (.bool true) R) E s:=by
 obtain⟨_,a,xs,k,rfl,ha,v1,r1,rfl,rfl,v2,r2,rfl,rfl,rfl⟩:=hu
 have hg:=G.imm _ _ ha
 have g:AX (Builtin.«issubclass» ⟨[.type "str",.ref a],[]⟩) (λζ R s=>s.heap.get? a=some (mw #[.type "str",.type "bytes"] k)/\R (.ok (.ret (.bool true))) s):=
  λζ ζ ζ ζ ζ hs=>issubclass_outer (ER hs.1 hs.2)
 exact call_issubclass g ⟨hg,ef G jq⟩
theorem H4{a b:Expr}{pos:dN}{x:PV}(DT:vB)(h1:dM H0 w n cx a σ R x R1){c:Bool}(hc:qc R1 x=some c)(h2:if c then v=x/\R2=R1 else dM H0 w n cx b σ R1 v R2):dM H0 w n cx (.BoolOp .Or [a,b] pos) σ R v R2:=by
 intro A E I ρ env s hR G O
 refine BoolOp_or (h1.then hR G O λI1 ρ1 u s1 x1 hu O1 G1=>ao (za DT G1 hc hu) (λd s2 q=>?_) λζ ζ e=>e)
 obtain⟨I2,ρ2,x2,rfl⟩:=q
 cases d with
 | true=>
  obtain⟨rfl,rfl⟩:=h2
  exact⟨I2,ρ2,x1.trans G x2,hu.le x2⟩
 | false=>
  exact BoolOp_one (ao (h2 A E I2 ρ2 env s2 hR x2.good (O1.step x2)) (λu' s' q=>fM.mono_ G (x1.trans G x2) q) λζ ζ e=>e)
theorem MP(k:Nat)(b x:LS):Txt.replace (S x) ⟨#[k]⟩ (S b)=S (dO k b x):=by
 rw [StrLaws.replace_one,xC,xS,Bq]
theorem B7{a c b x:Str}{px p0 p1 p2 apos pos bpos:dN}{k0 k1 k2 k:Nat}{y:LS}(hx:σ.lookup x=some (.str y))(hc:ls c=[k])(hb:(ls b).length<=14)(hne:(c==b)=false)(ha:ja (ls a)=true)(hbs:ja (ls b)=true)(hal:(ls a).length<=SZ)
  (hline:(apos.endLine==pos.line)=true)(hv:mkS (ls a++dO k (ls b) y)=some v) :
  dM H0 w n cx (.BinOp (.Constant (.str a) k0 p0) .Add (.Call (.Attribute (.Name x px) "replace" apos) [.Constant (.str c) k1 p1,.Constant (.str b) k2 p2] [] pos) bpos) σ R v R:=by
 intro A E I ρ env s hR G O
 obtain⟨kk,hk⟩:=zy O hx
 refine wpAny_BinOp (mN (Call_method2 rfl rfl hline (db (uK (s:={ s with toks:=s.toks+1 }) O hx λu hu=>?_) (c9 O hk))))
 obtain⟨g1,g2,t,rfl⟩:=hu
 refine⟨"str",_,mW,PySem.F.slot_str_replace,PySem.F.type_str_replace,kT _ _ _,(λζ e=>nomatch e),?_⟩
 refine yX rfl (ko (fI (mN (fI (mN (hH ?_))))))
 show ar (ay pw w) A (call (.builtin "str.replace") [.str (S y) t,.str c (s.toks+1),.str b (s.toks+1+1)] []) _ E { s with toks:=s.toks+1+1+1 }
 refine SC.replaceW (tW _) (tW _) (dW (dz _)) hne (by rw [dX];exact ah g1 (by decide)) (by rw [<-wg b,dX];exact hb) (λt' j=>?_)
 have e1:Txt.replace (S y) c b=S (dO k (ls b) y):=by
  have ec:c=⟨#[k]⟩:=by rw [<-wg c,hc]
  rw [<-MP,wg,ec]
 rw [e1]
 have hl:=(oo hv).1
 have hb2:yu .Add (.str (ls a)) (.str (dO k (ls b) y))=some v:=hv
 have st:a8 H0 eb I ρ s I ρ R { s with toks:=j }:=a8.toks G nb _
 refine ao (Am (s:={ s with toks:=j }) st.good hb2 ?_ (oQ (ah (by rw [ai];exact gX _ _) hl) ?_)) (λu' s' q=>fM.mono_ G st q) λζ ζ e=>e
 ·have:=oQ (I:=I) (ρ:=ρ) (t:=s.toks) hal ha
  rwa [wg]at this
 ·refine xG (b:=y++ls b) (λz hz=>?_) (la g2 hbs)
  unfold dO at hz
  obtain⟨q,hq,hz⟩:=tr.mp hz
  split at hz
  ·exact cg _ hz
  ·rw [aC.mp hz];exact e9 _ hq
theorem Nw(tgt:Expr)(it:af)(i:Int)(t:tU):c6 tgt it (.int i t)=b7 ():=by
 rcases BW tgt with e | ⟨_,e⟩
 ·exact e _ _
 ·exact(e _ _).trans (by cases it<;>rfl)
theorem zw(N:Int)(i:Nat){x:PV}{r:List PV}(h:x::r=(iG N).drop i):i<N.toNat/\x = .int (i:Int)/\r=(iG N).drop (i+1):=by
 have hi:i<(iG N).length:=by
  rcases eX i (iG N).length with h1 | h1
  ·exact h1
  ·rw [fE h1]at h;cases h
 rw [bY hi]at h
 injection h with h1 h2
 have hl:(iG N).length=N.toNat:=by unfold iG;simp
 refine⟨by exact Vy hi hl,?_,h2⟩
 have h3:(iG N)[i]? = some (.int (i:Int)):=by
  unfold iG
  rw [jE,List.getElem?_range (by exact Vy hi hl)]
  rfl
 rw [bR hi,<-h1]at h3
 exact aV h3
theorem BL(hh:A.handled=none){tgt:Expr}{rr:aB}{N:Int}{t0 t1 t2:tU}(G:Gd H0 I ρ R s.heap)(hr:IsRange s.heap rr 0 N 1 t0 t1 t2)(hlo : -1000000<=N)(hhi:N<=1000000) :
  ar (ay pw w) A (mR (.ref rr)) (λit s'=>∃Z St,IU H0 w A tgt it Z St/\St (iG N) I ρ s'/\a8 H0 eb I ρ s I ρ R s' /\ ∀a,Z a->s.heap.get? a=none) E s:=by
 refine wpAny_pyIter_range hr (small_one (by decide) (by decide) (iM (by decide) hlo) (F7 hhi (by decide))) ?_
 generalize hJ:s.heap.objs.size=J
 have hJn:s.heap.get? J=none:=hJ▸cu _
 have hsz:sq 0 N 1=(N.toNat:Int):=by
  rw [rangeSize_one]
  by_cases h:0<N
  ·rw [if_pos h,qx (sW h),Int.sub_zero]
  ·rw [if_neg h,FJ (md.mp h)];rfl
 refine⟨λa=>a=J,λl I ρ s=>∃i:Nat,IsRangeIter s.heap J (i:Int) ((N.toNat:Int)-(i:Int)) 1/\l=(iG N).drop i/\i<=N.toNat /\ ¬fL I ρ J,⟨?_,?_,?_,λl I ρ s Q E ⟨i,h1,_⟩ hq=>wpAny_pyIter_rangeiter h1 hq,?_⟩,?_,?_,λa ha=>ha▸hJn⟩
 ·rintro l I ρ s ⟨i,h1,h3,h4,h5⟩ a rfl
  exact⟨h5,by rw [show s.heap.get? a=_ from h1];exact λh=>nomatch h⟩
 ·rintro l I ρ R s I' ρ' R' s' X0 Z0 G ⟨i,h1,h3,h4,h5⟩ x hz
  obtain⟨z1,z2⟩:=hz J rfl
  refine⟨i,x.kept h1 (bL rfl) (λq=>h5 (an q)) z1 z2,h3,h4,λq=>?_⟩
  ·rcases x.new J q with q | q | q
   ·exact h5 q
   ·rw [show s.heap.get? J=_ from h1]at q;cases q
   ·exact z2 q
 ·rintro x r I ρ R s E G ⟨i,h1,h3,h4,h5⟩
  obtain⟨h6,rfl,rfl⟩:=zw N i h3
  refine wpAny_pyNext_range_item h1 (by exact WH h6) λh' hit' hs'=>?_
  refine⟨_,rfl,ci (Nw tgt _ _ _) ⟨I,ρ,aS.quiet G (λa ha=>ha▸h5) (λa o ha e=>(hs'.2 a ha).trans e) rfl rfl (λa ha=>ha▸G.notStk h1 (bL rfl)),tF,i+1,?_,rfl,h6,h5⟩⟩
  have e1:((i+1:Nat):Int)=(i:Int)+1:=by exact WG
  have e2:(N.toNat:Int)-((i+1:Nat):Int)=(N.toNat:Int)-(i:Int)-1:=by exact WF
  rw [e1,<-e1,e2,e1]
  exact hit'
 ·rintro I ρ R s E G ⟨i,h1,h3,h4,h5⟩
  have hl:(iG N).length=N.toNat:=by unfold iG;simp
  have hi:N.toNat<=i:=by
   rw [<-hl]
   exact CN.mp h3.symm
  refine wpAny_pyNext_range_end hh h1 (by exact WE hi) λh' he=>?_
  exact⟨rfl,I,ρ,aS.quiet G (λa ha=>ha▸h5) (λa o ha e=>he a o ha e) rfl rfl (λa ha=>ha▸G.notStk h1 (bL rfl))⟩
 ·refine⟨0,?_,rfl,bo _,bA G hJn⟩
  have e2:((N.toNat:Int)-((0:Nat):Int))=sq 0 N 1:=by rw [hsz];simp
  rw [e2,<-hJ]
  exact aU _ rfl
 ·exact a8.quiet G nb (λa o ζ e=>au _ e) (λa ha=>ha.elim) rfl rfl
theorem EO(B:dy w H0.heap){g:Str}{np pos:dN}{N:Int}(hg:gl cx g=true)(hgv:eZ g=some (.type "range"))(h1:dM H0 w n cx e σ R (.int N) R1)(hlo : -1000000<=N)(hhi:N<=1000000)
  (hs:∀env:d9,bS [e] env=[(false,ed e env)]):FN H0 w n cx tgt (.Call (.Name g np) [e] [] pos) σ R (iG N) σ R1:=by
 refine⟨λenv x=>rfl,λA E I ρ env s hR G O=>?_⟩
 refine mY (hs env) (db (cz B G O hg hgv ?_) (c9 O (O.glo g hg)))
 refine callWith_type1 (h1.then hR G O λI1 ρ1 u s1 x1 hu O1 G1=>?_)
 obtain⟨t,rfl⟩:=hu
 refine call_range_1 ?_
 have st:a8 H0 eb I1 ρ1 s1 I1 ρ1 R1 { s1 with heap:=s1.heap.push { cls:=.type "range",data:=.fields #[.int 0 s1.toks,.int N t,.int 1 (s1.toks+1)] },toks:=s1.toks+1+1 }:=
  a8.quiet G1 nb (λa o ζ e=>au _ e) (λa ha=>ha.elim) rfl rfl
 refine ao (BL hR.1 (tgt:=tgt) st.good (IsRange.new ..) hlo hhi) (λit s2 q=>?_) λζ ζ e=>e
 obtain⟨Z,St,its,st',x2,hz⟩:=q
 exact⟨I1,ρ1,Z,St,its,st',(x1.trans G st).trans G x2,(O1.step st).step x2,λa ha=>by
  cases e:s.heap.get? a with
  | none=>rfl
  | some q=>exact absurd (hz a ha) (st.alive a (x1.alive a (by rw [e];exact λh=>nomatch h)))⟩
theorem aS.addfresh(x:aS H0 X Z I ρ s I' ρ' R' s'){D:aB}{o:jf}(hz:s.heap.get? D=none)(hd:s'.heap.get? D=some o)(hn:¬fL I' ρ' D)(hs:D ∉ H0.stk):aS H0 X Z I ρ s (jV I' D o) ρ' R' s':=by
 have hI:I' D=none:=by
  cases e:I' D with
  | none=>rfl
  | some o=>exact absurd (av (by rw [e];exact λh=>nomatch h)) hn
 refine⟨λa o' e=>nt hI a o' (x.le a o' e),x.pre,λa h=>?_,x.keep,x.alive,x.good.addfact hd hn hs,x.os,x.gens⟩
 by_cases ha:a=D
 ·subst ha;exact an (av hz)
 ·rcases h with h | h
  ·unfold jV at h
   rw [if_neg ha]at h
   exact x.new a (av h)
  ·exact x.new a (an h)
inductive Ih(J K ax:aB)(xs:List af)(k:Nat)(l:List PV)(I:dC)(ρ:dH)(s:ag):Prop
 | mk (i:Nat) (old:af) (r:List PV) (o:jf) (e:l=mC i r) (pK:Pv I ρ s K { cls:=.type "enumerate",dict:=none,data:=.fields #[.none,.bool false,.ref J,gz (i:Int),.none,old],slots := #[] }) (pJ:Pv I ρ s J o) (c:o.cls = .type "list_iterator") (d:o.data = .fields #[.ref ax,.int i 0]) (h:I ax=some (cF xs.toArray k)) (r':aY I ρ r (xs.drop i)):Ih J K ax xs k l I ρ s
theorem EQ(hh:A.handled=none){tgt:Expr}(htg:fB tgt=true){l:List PV}{ax J K:aB}{xs:List af}{k:Nat}(G:Gd H0 I ρ R s.heap)(hax:I ax=some (cF xs.toArray k))(hr:aY I ρ l xs)
  (hK:IsEnum s.heap K J 0 .none)(hJ:s.heap.IsListIter J ax 0)(hJo:¬fL I ρ J)(hKo:¬fL I ρ K)(hne:K≠J) :
  ar (ay pw w) A (mR (.ref K)) (λit s'=>s'=s /\ ∃St,IU H0 w A tgt it (λa=>a=J\/a=K) St/\St (mC 0 l) I ρ s') E s:=by
 refine wpAny_pyIter_enum hK ?_
 obtain⟨oJ,eJ,cJ,dJ⟩:=hJ
 refine⟨rfl,Ih J K ax xs k,⟨λl I ρ s h=>?_,λl I ρ R s I' ρ' R' s' X0 Z0 G h x hz=>?_,λx rest I ρ R s E G h=>?_,λl I ρ s Q E h hq=>?_,λI ρ R s E G h=>?_⟩,0,.none,l,oJ,rfl,⟨hK,bL rfl,hKo⟩,⟨eJ,bL dJ,hJo⟩,cJ,dJ,hax,hr⟩
 ·obtain⟨i,old,r,o,h0,pK,pJ,c,d,h3,h4⟩:=h
  exact Ob (P:=λa=>¬fL I ρ a/\s.heap.get? a≠none) pJ.own pK.own
 ·obtain⟨i,old,r,o,h0,pK,pJ,c,d,h3,h4⟩:=h
  exact⟨i,old,r,o,h0,pK.keep x (hz K (an rfl)),pJ.keep x (hz J (av rfl)),c,d,x.le _ _ h3,h4.leZ x⟩
 ·obtain⟨i,old,r,o,h0,pK,pJ,c,d,h3,h4⟩:=h
  cases r with
  | nil=>cases h0
  | cons y r=>
   injection h0 with h0 h0'
   subst h0;subst h0'
   obtain⟨v,h7,h8,h9⟩:=h4.get rfl
   have hT:s.heap.get? s.heap.objs.size=none:=cu _
   refine wpAny_pyNext_enum_item pK.at_ ⟨o,pJ.at_,c,d⟩ ⟨_,G.imm _ _ h3,rfl,k,rfl⟩ (x:=v) (by rw [bU];exact h7) hne λh' ho hit' htup hsz hk=>?_
   refine⟨_,rfl,?_⟩
   cases tgt with
   | Tuple elts x1 tp=>
    refine wpAny_letOwnedTupleGo_enum ho λh'' he' hs'=>?_
    have hTK:s.heap.objs.size≠K:=λq=>pK.own.2 (q▸hT)
    have hTo:¬fL I ρ s.heap.objs.size:=bA G hT
    have htup':h''.get? s.heap.objs.size=some (mw #[.int (i:Int) s.toks,v] 0):=(hs'.2 _ hTK).trans htup
    have q0:aS H0 eb (λa=>a=J\/a=K) I ρ s I ρ R { s with heap:=h'',toks:=s.toks+1 }:=aS.quiet G (Ob (P:=λa=>¬fL I ρ a) pJ.no pK.no)
     (λa o ha e=>(hs'.2 a (λq=>ha (an q))).trans (hk a o (λq=>ha (an q)) (λq=>ha (av q)) e)) rfl rfl (Ob (P:=λa=>a ∉ H0.stk) (pJ.stk G) (pK.stk G))
    have q1:=q0.addfresh hT htup' hTo (G.freshStk hT)
    have no:∀a,s.heap.get? a≠none->¬fL I ρ a->¬fL (jV I s.heap.objs.size (mw #[.int (i:Int) s.toks,v] 0)) ρ a:=λa ha hn q=>q.elim (λq=>q ((if_neg λ(hb:a=s.heap.objs.size)=>ha (hb.symm▸hT)).trans (kG hn))) λq=>hn (an q)
    obtain⟨o',e1,c',d'⟩:=hit'.extBut hs'.extBut (di hne)
    exact⟨_,ρ,q1,⟨by show 2<=SZ;decide,_,[.int (i:Int) s.toks,v],0,rfl,if_pos rfl,aY.cons ⟨_,rfl⟩ (aY.cons (h8.leZ q1) aY.nil)⟩,i+1,v,r,o',rfl,⟨he',bL rfl,no K pK.own.2 pK.no⟩,⟨e1,bL d',no J pJ.own.2 pJ.no⟩,c',d',q1.le _ _ h3,h9.leZ q1⟩
   | _=>cases htg
 ·obtain⟨i,old,r,o,h0,pK,_⟩:=h
  exact wpAny_pyIter_enum pK.at_ hq
 ·obtain⟨i,old,r,o,h0,pK,pJ,c,d,h3,h4⟩:=h
  cases r with
  | cons y r=>cases h0
  | nil=>
   refine wpAny_pyNext_enum_end hh pK.at_ ⟨o,pJ.at_,c,d⟩ ⟨_,G.imm _ _ h3,rfl,k,rfl⟩ h4.none_ λh' he=>?_
   exact⟨rfl,I,ρ,aS.quiet G (Ob (P:=λa=>¬fL I ρ a) pJ.no pK.no) (λa o ha e=>he a o (λq=>ha (av q)) e) rfl rfl (Ob (P:=λa=>a ∉ H0.stk) (pJ.stk G) (pK.stk G))⟩
theorem Hz(B:dy w H0.heap)(htg:fB tgt=true){g:Str}{np pos:dN}{l:List PV}(hg:gl cx g=true)(hgv:eZ g=some (.type "enumerate"))(h1:dM H0 w n cx e σ R (.list l) R1)
  (hs:∀env:d9,bS [e] env=[(false,ed e env)]):FN H0 w n cx tgt (.Call (.Name g np) [e] [] pos) σ R (mC 0 l) σ R1:=by
 refine⟨λenv x=>rfl,λA E I ρ env s hR G O=>?_⟩
 refine mY (hs env) (db (cz B G O hg hgv ?_) (c9 O (O.glo g hg)))
 refine callWith_type1 (h1.then hR G O λI1 ρ1 u s1 x1 hu O1 G1=>?_)
 obtain⟨hl,ax,xs,k,rfl,hax,hr⟩:=hu
 refine call_enumerate_1 (G1.imm _ _ hax) λh' he hit hsz hk=>?_
 have st:a8 H0 eb I1 ρ1 s1 I1 ρ1 R1 { s1 with heap:=h' }:=a8.quiet G1 nb (λa o ζ e=>hk a o e) (λa ha=>ha.elim) rfl rfl
 have f1:s1.heap.get? s1.heap.objs.size=none:=cu _
 have f2:s1.heap.get? (s1.heap.objs.size+1)=none:=pF (cX _)
 have back:∀a,s1.heap.get? a=none->s.heap.get? a=none:=λa ha=>by
  cases e:s.heap.get? a with
  | none=>rfl
  | some q=>exact absurd ha (x1.alive a (by rw [e];exact λh=>nomatch h))
 refine ao (EQ (s:={ s1 with heap:=h' }) hR.1 htg st.good hax hr he hit (bA G1 f1) (bA G1 f2) (Jx _)) (λit s2 q=>?_) λζ ζ e=>e
 obtain⟨rfl,St,its,st'⟩:=q
 exact⟨I1,ρ1,_,St,its,st',x1.trans G st,O1.step st,λa ha=>ha.elim (λq=>q▸back _ f1) (λq=>q▸back _ f2)⟩
theorem kF:Slot "collections.deque" "__len__" "collections.deque.__len__":=
 .of (owner:="collections.deque") (n:="__len__") (by rw [d6,ch];kernel_rfl) (by decide+kernel) (by decide+kernel) (by decide+kernel)
  (by first | exact .inl (by decide+kernel) | exact .inr (by decide+kernel)) (by rw [fz];kernel_rfl)
theorem vW:Slot "collections.deque" "__init__" "collections.deque.__init__":=
 .of (owner:="collections.deque") (n:="__init__") (by rw [d6,ch];kernel_rfl) (by decide+kernel) (by decide+kernel) (by decide+kernel)
  (by first | exact .inl (by decide+kernel) | exact .inr (by decide+kernel)) (by rw [fz];kernel_rfl)
theorem v9:kl vG "collections.deque.__len__"=some Builtin.«collections.deque.__len__»:=gO ∅
theorem vg:kl vG "collections.deque.__init__"=some Builtin.«collections.deque.__init__»:=gO ∅
theorem v8:kl vG "collections.deque.__new__"=some Builtin.«collections.deque.__new__»:=gO ∅
theorem yy(a:af):l6 "collections.deque.__len__" ⟨[a],[]⟩:=by unfold l6;kernel_rfl
theorem wc(a:af):l6 "collections.deque.__init__" ⟨[a],[]⟩:=by unfold l6;kernel_rfl
theorem uC:mO (.type "collections.deque") "__bool__"=b7 none:=by rw [d6,ch];kernel_rfl
theorem C6:mroOf (.type "collections.deque")=b7 [.type "collections.deque",.type "object"]:=by rw [mroOf_type];kernel_rfl
theorem uJ:mO (.type "collections.deque") "__new__"=b7 (some (.builtin "collections.deque.__new__")):=by rw [d6,ch];kernel_rfl
theorem vq:TypeCalled "collections.deque" "collections.deque.__new__" "collections.deque.__init__":=
 ⟨by decide+kernel,by decide+kernel,⟨_,_,C6⟩,madeBy_type C6 uJ (by decide+kernel),by decide+kernel,by rw [fz];kernel_rfl,vW⟩
theorem xw:checkTypeCall "collections.deque" ⟨[],[]⟩=b7 ():=∅
theorem zE:pr "collections.deque.__new__" ⟨[.type "collections.deque"],[]⟩=b7 ():=∅
noncomputable abbrev Af:jf:={ cls:=.type "collections.deque",data:=.fields #[.none,gz 0] }
theorem BO:FV (.type "collections.deque")=b7 true:=∅
theorem Im:typeHasDict (.type "collections.deque")=false:=by decide+kernel
theorem v4:AX (Builtin.«collections.deque.__new__» ⟨[.type "collections.deque"],[]⟩) (λζ R s=>R (.ok (.ret (.ref s.heap.objs.size))) { s with heap:=s.heap.push Af }):=by
 intro prog w A R s h
 have hsub:=vq.sub
 unfold Builtin.«collections.deque.__new__» Builtin.Deque.newArgs
 dsimp only
 refine aa (aa (ci BO ?_))
 simp only [qA,a0,if_false]
 refine aa (ci hsub ?_)
 simp only [qA,a0,if_false]
 refine ab ?_
 dsimp only
 refine aa ?_
 unfold Builtin.Deque.new
 rw [if_neg (by decide)]
 rw [Im]
 simp only [a0,if_false]
 refine aa (ab (cf ?_))
 exact ab h
theorem rY{M:vO}{a:aB}{o:jf}{vs:Array af}{Q:Array af->ag->Prop}(ho:s.heap.get? a=some o)(hd:o.data = .fields vs)(h:Q vs s):ar M A (fieldsOf (.ref a)) Q E s:=by
 unfold fieldsOf
 dsimp only
 refine aa (pQ ho ?_)
 rw [hd]
 exact ab h
theorem uE(a:aB):AX (Builtin.«collections.deque.__init__» ⟨[.ref a],[]⟩) (λζ R s=>s.heap.get? a=some Af /\ ∀h',h'.get? a=some Af->so a s.heap h'->R (.ok (.ret .none)) { s with heap:=h' }):=by
 intro prog w A R s h
 unfold Builtin.«collections.deque.__init__»
 dsimp only
 rw [if_neg (by decide)]
 show ar _ _ (b7 ()>>=_) _ _ _
 refine aa (ab ?_)
 refine aa (m:=pn [] DK _) (ab ?_)
 show ar _ _ (setField (.ref a) 0 .none>>=_) _ _ _
 refine aa (wpAny_setField_rec h.1 (by decide) λh' hd hs=>?_)
 replace hd:h'.get? a=some Af:=hd
 unfold Builtin.Deque.clear Builtin.Deque.items
 refine aa (aa (aa (rY (s:={ s with heap:=h' }) hd rfl (ab ?_))))
 rw [if_neg (by decide)]
 exact ab (ab (h.2 h' hd hs))
theorem vj:vB:=by
 intro w A E s a Q hd hq
 obtain⟨o,ho,hc,hdd,x,y,hda⟩:=hd
 have hT:s.TypeIs (.ref a) "collections.deque":=⟨o,ho,hc⟩
 have key:ar (ay pw w) A (runValue (.builtin "len" ⟨[.ref a],[]⟩)) (λr s'=>r = .int 0 (s.toks+1)/\Q false s') E s:=by
  refine wpAny_runValue (bB entry_len ?_)
  rw [bh plain_len _]
  unfold Builtin.«len»
  refine aa (m:=oneArg "len" _) (ab ?_)
  refine aa (m:=callSpecial? (.ref a) (et "__len__")) (gM (name:=et "__len__") hT kF (em kF hT v9 ?_ (yy _)))
  show ar _ _ (vR (.ref a)>>=_) _ _ s
  unfold vR
  refine aa (aa (rY ho hda (ab ?_)))
  refine aa (wpAny_mkInt (ab ⟨_,rfl,?_⟩))
  refine aa (aW (ab ?_))
  refine aa (dS ?_)
  show ar _ _ (if(0:Int)<0 then _ else _) _ _ _
  rw [if_neg (by decide)]
  show ar _ _ (if(0:Int)≥2 ^ 63 then _ else _) _ _ _
  rw [if_neg (by decide)]
  exact aa (wpAny_mkInt (ab ⟨rfl,hq _⟩))
 unfold FP
 first
  | refine aa (Fz (name:=et "__bool__") hT uC ?_)
  | refine aa (ab (aa (Fz (name:=et "__bool__") hT uC ?_)))
 first
  | refine aa (gh (name:=et "__len__") hT kF.lookup ?_)
  | refine aa (ab (aa (gh (name:=et "__len__") hT kF.lookup ?_)))
 first
  | exact aa (ao key (λr s' h'=>by obtain⟨rfl,hq⟩:=h';exact ab hq) λζ ζ e=>e)
  | exact aa (ab (aa (ao key (λr s' h'=>by obtain⟨rfl,hq⟩:=h';exact ab hq) λζ ζ e=>e)))
theorem Ip(G:Gd H0 I ρ R s.heap):ar (ay pw w) A (call (.type "collections.deque") []) (fM H0 I ρ s (.obj R.length) (R++[.deq])) E s:=by
 have hn:s.heap.get? s.heap.objs.size=none:=cu _
 refine callType_meets (Q₁:=λu s1=>u = .ref s.heap.objs.size/\s1={ s with heap:=s.heap.push Af }) vq xw zE v8 vg v4 ⟨rfl,rfl⟩ ?_
 rintro obj s1 ⟨rfl,rfl⟩
 have hat:(s.heap.push Af).get? s.heap.objs.size=some Af:=aU _ rfl
 refine⟨⟨_,hat,rfl⟩,wc _,_,uE _,hat,λh' hd hs=>⟨rfl,?_⟩⟩
 have st:a8 H0 eb I ρ s I (ρ++[(s.heap.objs.size,s.heap.objs.size)]) (R++[.deq]) { s with heap:=h' }:=by
  refine a8.recd (p:=(s.heap.objs.size,s.heap.objs.size)) G hn hn (λb o e=>?_) ⟨rfl,Af,hd,rfl,rfl,_,_,rfl⟩ rfl rfl
  exact(hs.2 b (λq=>by subst q;rw [hn]at e;cases e)).trans (au _ e)
 refine⟨I,_,st,?_⟩
 exact⟨_,by rw [<-G.len,bH (aF _),eW];rfl,rfl⟩
theorem H7(B:dy w H0.heap){g:Str}{np pos:dN}(hg:gl cx g=true)(hgv:eZ g=some (.type "collections.deque")):dM H0 w n cx (.Call (.Name g np) [] [] pos) σ R (.obj R.length) (R++[.deq]):=by
 intro A E I ρ env s hR G O
 refine fk (db (cz B G O hg hgv ?_) (c9 O (O.glo g hg)))
 exact CF rfl (CE (Ip G))
end
end
end Mine
end
section
namespace Mine
open PySem.Sre
noncomputable def el:Array Nat := #[14,17,4,1,1,21,9,0,604043296,1,0,0,0,0,0,8,4,0,13,14,21,9,0,604043296,1,0,0,0,0,0,8,4,0,1]
noncomputable def Ea(c:Nat):Bool:=c<256&&((el.getD (7+c / 32) 0).testBit (c % 32))
theorem xu:∀c:Fin 256,cW c.val = !(Ea c.val||isWord c.val):=by decide+kernel
theorem wt(c:Nat):cW c = !(Ea c||isWord c):=by
 by_cases h:c<256
 ·exact xu ⟨c,h⟩
 ·have h1:Ea c=false:=by unfold Ea;simp [h]
  rw [h1]
  unfold cW isWord isDigit
  have e:∀k:Nat,k<256->(c==k)=false:=λk hk=>beq_eq_false_iff_ne.mpr (by exact WD h hk)
  have e2:∀k:Nat,k<256->decide (c<=k)=false:=λk hk=>decide_eq_false (by exact WC h hk)
  simp only [e _ (by decide:95<256),e _ (by decide:64<256),e _ (by decide:37<256),e _ (by decide:43<256),e _ (by decide:61<256),e _ (by decide:58<256),e _ (by decide:44<256),e _ (by decide:46<256),e _ (by decide:47<256),e _ (by decide:45<256),
   e2 _ (by decide:57<256),e2 _ (by decide:90<256),e2 _ (by decide:122<256),jI,Bool.or_false]
theorem Fp(c:Nat):(el.getD (21+(1+c / 32)) 0).testBit (c % 32)=(el.getD (6+(1+c / 32)) 0).testBit (c % 32)\/256<=c:=by
 by_cases h:c<256
 ·left
  have:∀c:Fin 256,(el.getD (21+(1+c.val / 32)) 0).testBit (c.val % 32)=(el.getD (6+(1+c.val / 32)) 0).testBit (c.val % 32):=by decide+kernel
  exact this ⟨c,h⟩
 ·exact an (cn h)
theorem CY(c:Nat):Ea c=(decide (c<256)&&(el.getD (6+(1+c / 32)) 0).testBit (c % 32)):=by
 unfold Ea
 rw [show 7+c / 32=6+(1+c / 32) by exact WB]
theorem IC(c:Nat):category 4 c = .ok (isWord c):=by
 show Except.ok (bne _ _)=_
 exact congrArg Except.ok (Bool.bne_false _)
theorem uU(c n i:Nat)(hi:i=15\/i=30)(seen:sR):∃s',inSet el c (n+2) i false seen = .ok (!isWord c,s'):=by
 have h:inSet el c (n+2) i false seen=(do
   if <-category 4 c then b7 (false,(seen.add 8).add 59)else inSet el c (n+1) (i+2) false ((seen.add 8).add 59)):=by
  rcases hi with rfl | rfl<;>rfl
 rw [h,IC]
 cases hw:isWord c with
 | true=>exact⟨_,rfl⟩
 | false=>
  rcases hi with rfl | rfl<;>exact⟨_,rfl⟩
theorem ET(c:Nat)(seen:sR):∃s',inSet el c el.size 5 true seen = .ok (cW c,s'):=by
 rw [wt,CY]
 have h:inSet el c el.size 5 true seen=(if(decide (c<256)&&(el.getD (6+(1+c / 32)) 0).testBit (c % 32))=true then .ok (false,(seen.add 21).add 9)else inSet el c 32 15 false ((seen.add 21).add 9)):=rfl
 rw [h]
 cases hc:(decide (c<256)&&(el.getD (6+(1+c / 32)) 0).testBit (c % 32))with
 | true=>rw [if_pos rfl];exact⟨_,rfl⟩
 | false=>
  rw [if_neg bc,yJ]
  exact uU c 30 15 (av rfl) _
theorem BU(c:Nat)(seen:sR):∃s',inSet el c el.size 20 true seen = .ok (cW c,s'):=by
 rw [wt,CY]
 have h:inSet el c el.size 20 true seen=(if(decide (c<256)&&(el.getD (21+(1+c / 32)) 0).testBit (c % 32))=true then .ok (false,(seen.add 21).add 9)else inSet el c 32 30 false ((seen.add 21).add 9)):=rfl
 have e:(decide (c<256)&&(el.getD (21+(1+c / 32)) 0).testBit (c % 32))=(decide (c<256)&&(el.getD (6+(1+c / 32)) 0).testBit (c % 32)):=by
  rcases Fp c with q | q
  ·rw [q]
  ·rw [decide_eq_false (dj.mpr q)];rfl
 rw [h,e]
 cases hc:(decide (c<256)&&(el.getD (6+(1+c / 32)) 0).testBit (c % 32))with
 | true=>rw [if_pos rfl];exact⟨_,rfl⟩
 | false=>
  rw [if_neg bc,yJ]
  exact uU c 30 30 (an rfl) _
theorem wd(m:l8)(fuel s:Nat)(seen:sR):m.admitted (fuel+1) s seen=if s≥m.lim then .ok (none,seen)else match inSet m.code (m.text.getD s 0) m.code.size 5 true seen with | .ok (true,seen)=>.ok (some s,seen) | .ok (false,seen)=>m.admitted fuel (s+1) seen | .error why=>.error why:=rfl
theorem we(m:l8)(hc:m.code=el)(l:LS)(ht:m.text=l.toArray)(hl:m.lim=l.length):∀(fuel s:Nat) (seen:sR),s<=l.length->l.length+1-s<=fuel ->
  (((l.drop s).any cW=false /\ ∃s',m.admitted fuel s seen = .ok (none,s'))\/((l.drop s).any cW=true /\ ∃i s',i<l.length/\cW (l.getD i 0)=true/\m.admitted fuel s seen = .ok (some i,s'))):=by
 intro fuel
 induction fuel with
 | zero=>
  intro s seen h1 h2
  exact absurd h2 (eR (sT (sU h1)))
 | succ fuel ih=>
  intro s seen h1 h2
  rw [wd]
  by_cases h:s≥m.lim
  ·rw [if_pos h]
   left
   rw [fE (by exact WA hl h)]
   exact⟨rfl,_,rfl⟩
  ·rw [if_neg h]
   have hs:s<l.length:=by exact Wz hl h
   have hd:l.drop s=l[s]::l.drop (s+1):=bY hs
   have hg:m.text.getD s 0=l[s]:=by rw [ht];simp [Array.getD,hs]
   have hgd:l.getD s 0=l[s]:=by simp [List.getD,hs]
   obtain⟨s',hi⟩:=ET l[s] seen
   rw [hg,hc,hi,hd,qw]
   cases hu:cW l[s]with
   | true=>right;exact⟨rfl,s,s',hs,by rw [hgd];exact hu,rfl⟩
   | false=>
    dsimp only
    rw [yJ]
    exact ih (s+1) s' hs (by exact Wy h2)
noncomputable def m0(l:LS):l8:={ code:=el,text:=l.toArray,lim:=l.length,start:=0,pc:=18,pos:=0,handed:=0,marks:=Array.replicate (2*0) none,mustAdvance:=false,seen:=({}:sR).add 14 }
theorem xZ(l:LS):forSearch el l.toArray 0 0 l.length false=if(decide (0>l.length)||decide (l.length-0<1))=true then(m0 l).say false else FC { m0 l with lastStart:=l.length } 0 true:=rfl
noncomputable def wj(m:l8)(b:Bool):Prop:=m.outcome=some (if b then .matched else .failed)
theorem GF(m:l8)(h1:m.outcome=none)(h2:m.answer=some false)(h3:m.frames=[])(n:Nat):wj (m.runFor (n+1)) false:=by
 have e:m.step={ m with outcome:=some .failed }:=by
  unfold Sre.M.step
  rw [h1,h2,h3]
  rfl
 show wj (if m.outcome.isSome=true then m else m.step.runFor n) false
 rw [h1,e]
 show wj (yP n { m with outcome:=some .failed }) false
 cases n with
 | zero=>rfl
 | succ n=>rfl
theorem KP(m:l8)(c:Nat)(hc:m.code=el)(hp:m.pc=18)(hlt:¬m.pos≥m.lim)(hg:m.text.getD m.pos 0=c)(hu:cW c=true):∃seen,m.exec={ m with seen,pc:=33,pos:=m.pos+1 }:=by
 obtain⟨s',hs⟩:=BU c (m.seen.add 13)
 rw [hu]at hs
 refine⟨s',?_⟩
 obtain⟨code,text,lim,start,lastStart,wholeText,mustAdvance,pc,pos,handed,outermost,marks,lastmark,lastindex,loops,inner,frames,weight,answer,seen,outcome⟩:=m
 subst hc hp hg
 show(if pos≥lim then _ else match accepts el 18 (text.getD pos 0) (seen.add 13)with | .error why=>_ | .ok (false,seen)=>_ | .ok (true,seen)=>_)=_
 rw [if_neg hlt]
 have ha:accepts el 18 (text.getD pos 0) (seen.add 13)=inSet el (text.getD pos 0) el.size 20 true (seen.add 13):=rfl
 rw [ha,hs]
 rfl
theorem JZ(m:l8)(i c:Nat)(hc:m.code=el)(hp:m.pc=18)(h1:m.outcome=none)(h2:m.answer=none)(h3:m.frames=[])(hw:m.weight=0)(hwt:m.wholeText=false)(hlt:¬i≥m.lim)(hg:m.text.getD i 0=c)(hu:cW c=true) :
  wj (yP 4 ({ m with mustAdvance:=false }.attemptAt i true)) true:=by
 obtain⟨code,text,lim,start,lastStart,wholeText,mustAdvance,pc,pos,handed,outermost,marks,lastmark,lastindex,loops,inner,frames,weight,answer,seen,outcome⟩:=m
 simp only at hc hp h1 h2 h3 hw hwt hlt hg
 subst hc hp h1 h2 h3 hw hwt
 generalize hm1:Sre.M.attemptAt (Jw el text lim start lastStart false false 18 pos handed outermost marks lastmark lastindex loops inner [] 0 none seen none) i true=m1
 have e1:m1=Jw el text lim i lastStart false false 18 i i true marks (-1) (-1) loops inner [{ wait:=.nextStart,pc:=18,pos:=i,outermost:=true }] 1 none seen none:=by rw [<-hm1];rfl
 have s1:m1.step=m1.exec:=by rw [e1];rfl
 obtain⟨sn,e2⟩:=KP m1 c (by rw [e1]) (by rw [e1]) (by rw [e1];exact hlt) (by rw [e1];exact hg) hu
 have e2':m1.step=Jw el text lim i lastStart false false 33 (i+1) i true marks (-1) (-1) loops inner [{ wait:=.nextStart,pc:=18,pos:=i,outermost:=true }] 1 none sn none:=by rw [s1,e2,e1]
 have o1:m1.outcome.isSome=false:=by rw [e1];rfl
 show wj (if m1.outcome.isSome=true then m1 else yP 3 m1.step) true
 rw [o1,if_neg bc,e2']
 rfl
end Mine
end
section
open PySem PySem.W PyProof.Rows PySem.Spec
namespace Mine
noncomputable section
section
variable {H0:Bs} {w:bF} {n m:Nat} {sp:Spec} {I I' I'':dC} {ρ ρ' ρ'':dH} {R R' R'' R1 R2 R3:List aO} {cx:Cx} {σ σ' σ1 σ2:bq} {env:d9} {A:bD} {E:af->ag->Prop} {s s' s'':ag} {e l r t o tgt:Expr} {v:PV} {f:Fl} {X Y Z:aB->Prop}
theorem lT{α:Type}{M:vO}{A:bD}{E:af->ag->Prop}{s:ag}{c:Bool}{a b:vN α}{Q:α->ag->Prop}(hc:c=false)(h:ar M A b Q E s):ar M A (if c=true then a else b) Q E s:=by
 subst hc
 exact h
open PySem.Builtin in
theorem Il{M:vO}{m:l8}{b:Bool}{Q:l8->ag->Prop}(hd:wj (m.runFor 4) b)(hq:Q (m.runFor 4) s):ar M A (Re.reDrive (2 ^ 64) m) Q E s:=by
 obtain⟨k,hk⟩:∃k,(2:Nat) ^ 64=k+1:=⟨2 ^ 64-1,by decide+kernel⟩
 rw [hk]
 have:(m.runFor Re.reTurnSteps).outcome.isSome=true:=by
  show(m.runFor 4).outcome.isSome=true
  unfold wj at hd
  rw [hd];rfl
 show ar M A (if(m.runFor Re.reTurnSteps).outcome.isSome=true then b7 (m.runFor Re.reTurnSteps)else _) Q E s
 rw [if_pos this]
 exact ab hq
open PySem.Builtin in
theorem Gi{M:vO}{m:l8}{b:Bool}{Q:Option l8->ag->Prop}(hd:wj (m.runFor 4) b)(hq:∀m,Q (if b then some m else none) s):ar M A (Re.reRunToEnd m) Q E s:=by
 unfold Re.reRunToEnd
 refine aa (Il hd ?_)
 refine aa (wpAny_forIn_list _ (λζ ζ s'=>s'=s) _ (λx rest b s' hs=>?_) (λζ s' hs=>?_) _ _ rfl)
 ·subst hs
  split
  ·exact aa (iX (ab rfl))
  ·exact ab rfl
 ·subst hs
  unfold wj at hd
  rw [hd]
  cases b with
  | true=>exact ab (hq (m.runFor 4))
  | false=>exact ab (hq (m.runFor 4))
theorem zq(l:LS):wj ((Sre.forSearch el l.toArray 0 0 l.length false).runFor 4) (l.any cW):=by
 rw [xZ]
 cases l with
 | nil=>exact GF _ rfl rfl rfl 3
 | cons x r=>
  rw [if_neg (by simp)]
  unfold FC
  have hf:Sre.M.hasFirstSet { m0 (x::r)with lastStart:=(x::r).length }=true:=rfl
  rw [hf]
  simp only [qA,a0,if_false]
  rcases we { m0 (x::r)with lastStart:=(x::r).length } rfl (x::r) rfl rfl ((x::r).length+1-0) 0 (m0 (x::r)).seen (bo _) (aF _)with ⟨h1,s',h2⟩ | ⟨h1,i,s',h3,h4,h2⟩
  ·rw [jG]at h1
   rw [h1]
   have h2':vM { m0 (x::r)with lastStart:=(x::r).length } ({ m0 (x::r)with lastStart:=(x::r).length }:l8).lim.succ 0 ({ m0 (x::r)with lastStart:=(x::r).length }:l8).seen = .ok (none,s'):=h2
   have h2'':vM { m0 (x::r)with lastStart:=(x::r).length } (({ m0 (x::r)with lastStart:=(x::r).length }:l8).lim+1-0) 0 ({ m0 (x::r)with lastStart:=(x::r).length }:l8).seen = .ok (none,s'):=h2
   rw [h2'']
   exact GF _ rfl rfl rfl 3
  ·rw [jG]at h1
   rw [h1]
   have h2'':vM { m0 (x::r)with lastStart:=(x::r).length } (({ m0 (x::r)with lastStart:=(x::r).length }:l8).lim+1-0) 0 ({ m0 (x::r)with lastStart:=(x::r).length }:l8).seen = .ok (some i,s'):=h2
   rw [h2'']
   refine JZ { m0 (x::r)with lastStart:=(x::r).length,seen:=s' } i ((x::r).getD i 0) rfl rfl rfl rfl rfl rfl rfl ?_ ?_ h4
   ·show ¬i≥(x::r).length
    exact Wx h3
   ·show(x::r).toArray.getD i 0=_
    have hi:i<r.length+1:=h3
    simp [Array.getD,List.getD,hi]
theorem Iw:∀P,(KK pw P).lookup 188=some ⟨.type "tuple",none,.seq #[.int 14 0,.int 17 0,.int 4 0,.int 1 0,.int 1 0,.int 21 0,.int 9 0,.int 0 0,.int 604043296 0,.int 1 0,.int 0 0,.int 0 0,.int 0 0,.int 0 0,.int 0 0,.int 8 0,.int 4 0,.int 0 0,.int 13 0,.int 14 0,.int 21 0,.int 9 0,.int 0 0,.int 604043296 0,.int 1 0,.int 0 0,.int 0 0,.int 0 0,.int 0 0,.int 0 0,.int 8 0,.int 4 0,.int 0 0,.int 1 0] 0,#[]⟩:=λP=>∅
theorem GS:∀P,(KK pw P).lookup 189=some ⟨.type "re.Pattern",none,.fields #[.str "[^\\w@%+=:,./-]" 532,.int 256 569,.int 0 0,.none,.none,.ref 188,.int 0 0],#[]⟩:=λP=>∅
theorem Al:∀P,(KK pw P).lookup 885=some ⟨.type "builtin_function_or_method",none,.fields #[.builtin "re.Pattern.search",.ref 189],#[]⟩:=λP=>∅
theorem yd:kl vG "re.Pattern.search"=some Builtin.«re.Pattern.search»:=gO ∅
theorem xJ{as:Args}:(Code.builtin "re.Pattern.search" as).quiet=true:=rC _ (by decide+kernel)
theorem zp(B:dy w H0.heap)(G:Gd H0 I ρ R s.heap){l:LS}{t:tU}{A':bD}{P:mU->ag->Prop}{E':af->ag->Prop}(hl:l.length<=SZ)(h0:l.any cW=false->P (.done (.ret .none)) s)
  (h1:l.any cW=true->∀a h',(∀b o,s.heap.get? b=some o->h'.get? b=some o)->P (.done (.ret (.ref a))) { s with heap:=h' }) :
  ar (ay pw w) A' (Builtin.«re.Pattern.search» ⟨[.ref 189,.str (S l) t],[]⟩) P E' s:=by
 have B':=G.baseAt B
 unfold Builtin.«re.Pattern.search»
 refine aa ?_
 unfold Builtin.Re.reTarget
 dsimp only
 refine aa (ci (a:=[some (.str (S l) t),none,none]) ∅ ?_)
 refine aa (ab ?_)
 refine aa (ab ?_)
 refine aa (rY (B'.k _ _ (GS _)) rfl ?_)
 refine aa (aa (ab ?_))
 refine ab ?_
 refine lT rfl ?_
 refine lT rfl ?_
 refine aa (m:=pZ (.str (S l) t) 0) ?_
 unfold pZ
 refine lT rfl (ab ?_)
 have hlim:yO (2 ^ 63-1:Int).toNat (S l).cps.size=l.length:=by
  have e1:(S l).cps.size=l.length:=by simp
  have e2:l.length<=1000000:=hl
  rw [e1]
  have e3:(2 ^ 63-1:Int).toNat=9223372036854775807:=by decide
  rw [e3]
  exact Ww e2
 have key:∀tt:Builtin.Re.ReTarget,tt.code=el->tt.text=l.toArray->tt.groups=0->tt.pos=0->tt.lim=l.length ->
   ar (ay pw w) A' (xo tt (Sre.forSearch tt.code tt.text tt.groups tt.pos tt.lim false)) P E' s:=by
  intro tt q1 q2 q3 q4 q5
  rw [q1,q2,q3,q4,q5]
  unfold xo
  refine aa (Gi (zq l) λm=>?_)
  cases hu:l.any cW with
  | false=>exact ab (h0 hu)
  | true=>
   refine aa ?_
   unfold Builtin.Re.reNewMatch
   rw [q3]
   refine lT rfl ?_
   show ar _ A' (newTuple [gz m.start,gz m.handed]>>=λd=>newFields "re.Match" [tt.string,tt.pattern,gz tt.pos,gz tt.lim,gz m.lastindex,d]) _ E' s
   refine aa (rD ?_)
   unfold newFields
   refine cf (ab (h1 hu _ _ λb o e=>au _ (au _ e)))
 refine aa ?_
 unfold Builtin.Re.reRawItems
 refine aa (c0 (B'.k _ _ (Iw _)) rfl (ab (ab (key _ ?_ rfl rfl ?_ ?_))))
 ·kernel_rfl
 ·exact Nat.zero_min _
 ·exact hlim
theorem ue:kU (.type "re.Pattern") (.type "module")=b7 false:=by rw [fz];kernel_rfl
theorem JO:kU (.type "re.Pattern") (.type "type")=b7 false:=by rw [fz];kernel_rfl
theorem zO:builtinKind "re.Pattern.search"=some .method:=by decide+kernel
theorem DV:Manifest.varargsMethods.contains "re.Pattern.search"=false:=by decide+kernel
theorem Ar(l:LS)(t:tU):(match yT "re.Pattern.search" with | some sig=>Bind.checkArgs "re.Pattern.search" { sig with full:=s!"{Bind.lastOf "re.Pattern"}.{Bind.lastOf "re.Pattern.search"}" } ⟨[.ref 189,.str (S l) t],[]⟩ | none=>b7 ())=b7 ():=∅
theorem yp{M:vO}{l:LS}{t:tU}{Q:Unit->ag->Prop}{vs:Array af}(ho:s.heap.get? 189=some ⟨.type "re.Pattern",none,.fields vs,#[]⟩)(hq:Q () s):ar M A (checkBoundCall "re.Pattern.search" ⟨[.ref 189,.str (S l) t],[]⟩) Q E s:=by
 have ha:=Ar l t
 have hT:s.TypeIs (.ref 189) "re.Pattern":=⟨_,ho,rfl⟩
 unfold checkBoundCall
 cases hs:yT "re.Pattern.search" with
 | none=>exact ab hq
 | some sig=>
  rw [hs]at ha
  dsimp only at ha
  rw [zO]
  dsimp only
  refine lT (by decide) ?_
  refine aa (kQ hT ue ?_)
  rw [DV]
  refine lT rfl ?_
  refine aa (m:=FV (.ref 189)) ?_
  refine aa (m:=loadHead 189) (aE ho (ab ?_))
  refine lT rfl ?_
  refine aa (kc hT ?_)
  dsimp only
  exact ci ha hq
theorem Ak(B:dy w H0.heap)(G:Gd H0 I ρ R s.heap){l:LS}{t:tU}{Q:af->ag->Prop}(hl:l.length<=SZ)(h0:l.any cW=false->Q .none s)
  (h1:l.any cW=true->∀a h',(∀b o,s.heap.get? b=some o->h'.get? b=some o)->Q (.ref a) { s with heap:=h' }):ar (ay pw w) A (call (.ref 885) [.str (S l) t]) Q E s:=by
 have B':=G.baseAt B
 refine fj (qn ?_)
 show ar _ A.in1 (callAny (.ref 885) ⟨[.str (S l) t],[]⟩) _ _ s
 refine aa (m:=load 885) (pQ (B'.k _ _ (Al _)) ?_)
 dsimp only
 rw [if_pos (by decide)]
 show ar _ _ (if(lE "builtin_function_or_method" != lE "method")=true then _ else _) _ _ _
 rw [if_pos (by decide)]
 refine aa (yp (B'.k _ _ (GS _)) ?_)
 refine aa (ab (ab ?_))
 exact⟨xJ,bB yd (zp B G hl h0 h1)⟩
theorem te{pos:dN}{u:aB}{args:List (Bool × vN af)}{Q:af->ag->Prop}(hplain:args.any (·.1)=false)
  (h:ar (ay pw w) A (evalArgs (.ref u) true args []) (λx s₁=>(∃vs,s₁.heap.get? u=some ⟨.type "builtin_function_or_method",none,.fields vs,#[]⟩)/\ar (ay pw w) A (call (.ref u) ([]++x.pos) x.kw) Q E s₁) E s):ar (ay pw w) A (Jt pos (.ref u) [] args []) Q E s:=by
 unfold Jt
 refine aa (aW (ao h (λx s₁ h₁=>aa (fu ?_)) λζ ζ x=>x))
 obtain⟨⟨vs,ho⟩,hcall⟩:=h₁
 rw [hplain]
 refine aa (m:=keeperOf (.ref u)) ?_
 refine aa (m:=load u) (pQ ho ?_)
 refine ab (a:=Keeper.machine) ?_
 exact aa (ao hcall (λr s₂ hr=>aa (aW (wpAny_point (ab hr)))) λζ ζ x=>x)
theorem Fg(B:dy w H0.heap){g:Str}{np pos cp:dN}{ck:Nat}{l:LS}(hg:gl cx g=true)(hgv:eZ g=some (.ref 885))(h1:dM H0 w n cx e σ R (.str l) R1)(hs:∀env:d9,bS [e] env=[(false,ed e env)]) :
  On H0 w n cx (.Call (.Name g np) [e] [] pos) .Is (.Constant .none ck cp) σ R (!l.any cW) R1:=by
 refine⟨rfl,λA E I ρ env s hR G O=>?_⟩
 refine mY (hs env) (db (cz B G O hg hgv ?_) (c9 O (O.glo g hg)))
 refine te rfl (ko (fI (ao (h1.then hR G O λI1 ρ1 u s1 x1 hu O1 G1=>?_) (λζ ζ h₁=>hH h₁) λζ ζ e=>e)))
 obtain⟨g1,g2,t,rfl⟩:=hu
 refine⟨⟨_,(G1.baseAt B).k _ _ (Al _)⟩,Ak B G1 g1 (λhu=>?_) λhu a h' hk=>?_⟩
 ·refine sP (ao (Iz (hR.le (cX n)) G1 (op:=.Is) (a:=.none) (b:=.none) (c:=true) rfl oh oh) (λu' s' q=>?_) λζ ζ e=>e)
  rw [hu]
  exact fM.mono_ G x1 q
 ·have st:a8 H0 eb I1 ρ1 s1 I1 ρ1 R1 { s1 with heap:=h' }:=a8.quiet G1 nb (λa o ζ e=>hk a o e) (λa ha=>ha.elim) rfl rfl
  refine sP ?_
  have hsame:xk (.ref a) .none=b7 false:=rfl
  rw [hu]
  show ar _ A (do return dT (<-xk (.ref a) .none)) _ E _
  rw [hsame]
  exact aa (ab (ab (fM.mono_ G (x1.trans G st) (ef st.good jq))))
inductive rz{τ:Type}(step:τ->Option PV->τ->Prop):τ->List PV->τ->Prop
 | done {t t':τ}:step t none t'->rz step t [] t'
 | item {t t1 t':τ} {v:PV} {l:List PV}:step t (some v) t1->rz step t1 l t'->rz step t (v::l) t'
structure Vo(H0:Bs)(w:bF)(A:bD)(it:af)(Z:aB->Prop){τ:Type}(rc:τ->List aO)(step:τ->Option PV->τ->Prop)(St:τ->dC->dH->ag->Prop):Prop where
 own:∀t I ρ s,St t I ρ s->∀a,Z a->¬fL I ρ a/\s.heap.get? a≠none
 keep:∀t I ρ s I' ρ' R' s' X0 Z0,Gd H0 I ρ (rc t) s.heap->St t I ρ s->aS H0 X0 Z0 I ρ s I' ρ' R' s'->(∀a,Z a->¬X0 a /\ ¬Z0 a)->St t I' ρ' s'
 next:∀t v t' I ρ s E,step t v t'->Gd H0 I ρ (rc t) s.heap->St t I ρ s->ar (ay pw w) A (fR it) (λo s1=>∃I' ρ',aS H0 eb Z I ρ s I' ρ' (rc t') s1/\(match v with
  | some x=>∃u,o=some u/\cq I' ρ' x u/\St t' I' ρ' s1
  | none=>o=none)) E s
theorem aS.noZ(x:aS H0 X Z I ρ s I' ρ' R' s'){D:aB}{o:jf}(hD:s.heap.get? D=some o)(ho:¬fL I ρ D)(hz:¬Z D):¬fL I' ρ' D:=λq=>by
 rcases x.new D q with q | q | q
 ·exact ho q
 ·rw [hD]at q;cases q
 ·exact hz q
theorem w7{it:af}{τ:Type}{rc:τ->List aO}{step:τ->Option PV->τ->Prop}{St:τ->dC->dH->ag->Prop}(Dr:Vo H0 w A.in1 it Z rc step St){D:aB}(hDZ:¬Z D){res:af}{RR:fS->ag->Prop}{t t':τ}{l:List PV}(dr:rz step t l t') :
  ∀(I:dC) (ρ:dH) (s:ag) (xs:List af) (c:Nat) (l0:List PV),Gd H0 I ρ (rc t) s.heap->St t I ρ s->s.heap.get? D=some (cF xs.toArray c)->¬fL I ρ D->aY I ρ l0 xs->(l0++l).length<=SZ ->
  (∀I' ρ' s' ys c',aS H0 eb (λa=>Z a\/a=D) I ρ s I' ρ' (rc t') s'->s'.heap.get? D=some (cF (bk ys) c')->¬fL I' ρ' D->aY I' ρ' (l0++l) ys->RR (.ok (.ret res)) s') ->
  cB (ay pw w) A (.builtin "list.extend.loop" ⟨[.ref D,it,res],[]⟩) RR s:=by
 induction dr with
 | done hs=>
  intro I ρ s xs c l0 G st hD ho hr hsz hR
  refine bB Jk ?_
  rw [bh jg _]
  show ar _ A.in1 (fR it>>=_) _ _ s
  refine aa (ao (Dr.next _ _ _ I ρ s _ hs G st) (λo s1 q=>?_) λζ ζ e=>e)
  obtain⟨I',ρ',x,rfl⟩:=q
  refine ab (hR I' ρ' s1 xs c (x.moreZ λa h=>av h) (x.kept hD (bM rfl) (λq=>ho (an q)) id hDZ) (x.noZ hD ho hDZ) ?_)
  ·rw [aP];exact hr.leZ x
 | @item t t1 t' v l hs _ ih=>
  intro I ρ s xs c l0 G st hD ho hr hsz hR
  refine bB Jk ?_
  rw [bh jg _]
  show ar _ A.in1 (fR it>>=_) _ _ s
  refine aa (ao (Dr.next _ _ _ I ρ s _ hs G st) (λo s1 q=>?_) λζ ζ e=>e)
  obtain⟨I1,ρ1,x,u,rfl,hu,st1⟩:=q
  have hD1:s1.heap.get? D=some (cF xs.toArray c):=x.kept hD (bM rfl) (λq=>ho (an q)) id hDZ
  have ho1:=x.noZ hD ho hDZ
  show ar _ A.in1 (jW D (·.push u)>>=_) _ _ _
  have hlen:xs.length+1<=SZ:=by
   have:=hr.length
   rw [ai,aq]at hsz
   exact Wv hsz this
  refine aa (cw hD1 rfl ?_ (by rw [aT];exact ga (sV hlen)) (by rw [Jo,aT];exact ah (ga hlen) (cX _)))
  have hD2:=eN (c:="list") (xs:=xs.toArray) (n:=c) hD1 (·.push u)
  have y:aS H0 eb (λa=>a=D) I1 ρ1 s1 I1 ρ1 (rc t1) { s1 with heap:=s1.heap.update D (bC (·.push u)) }:=
   aS.quiet x.good (λa ha=>ha▸ho1) (λa o ha e=>(aD _ _ (λq=>ha q.symm)).trans e) rfl rfl (λa ha=>ha▸x.good.notStk hD1 (bM rfl))
  have st2:=Dr.keep t1 I1 ρ1 s1 I1 ρ1 (rc t1) _ eb _ x.good st1 y (λa ha=>⟨λq=>q,λq=>hDZ (q▸ha)⟩)
  refine ab ⟨bT jg _,ih I1 ρ1 _ (xs++[u]) _ (l0++[v]) y.good st2 (by
   show(s1.heap.update D (bC (·.push u))).get? D=_
   rw [hD2,show xs.toArray.push u=(xs++[u]).toArray by simp]) ho1 ((hr.leZ x).append (by exact⟨u,[],rfl,hu,rfl⟩)) (by rw [aQ];exact hsz) λI' ρ' s' ys c' z hDz hoz hrz=>?_⟩
  refine hR I' ρ' s' ys c' ?_ hDz hoz (by rw [aQ]at hrz;exact hrz)
  exact aS.trans G ((x.moreZ λa h=>av h):aS H0 eb (λa=>Z a\/a=D) I ρ s I1 ρ1 (rc t1) s1) (aS.trans x.good (y.moreZ λa h=>an h) z)
theorem pH:Slot "map" "__iter__" "map.__iter__":=
 .of (owner:="map") (n:="__iter__") (by rw [d6,ch];kernel_rfl) (by decide+kernel) (by decide+kernel) (by decide+kernel)
  (by first | exact .inl (by decide+kernel) | exact .inr (by decide+kernel)) (by rw [fz];kernel_rfl)
theorem me:Slot "map" "__next__" "map.__next__":=
 .of (owner:="map") (n:="__next__") (by rw [d6,ch];kernel_rfl) (by decide+kernel) (by decide+kernel) (by decide+kernel)
  (by first | exact .inl (by decide+kernel) | exact .inr (by decide+kernel)) (by rw [fz];kernel_rfl)
theorem vV:Slot "map" "__init__" "object.__init__":=
 .of (owner:="object") (n:="__init__") (by rw [d6,ch];kernel_rfl) (by decide+kernel) (by decide+kernel) (by decide+kernel)
  (by first | exact .inl (by decide+kernel) | exact .inr (by decide+kernel)) (by rw [fz];kernel_rfl)
theorem vf:kl vG "map.__next__"=some Builtin.«map.__next__»:=gO ∅
theorem v7:kl vG "map.__new__"=some Builtin.«map.__new__»:=gO ∅
theorem Ii:kl vG "map.__iter__"=kl vG "enumerate.__iter__"\/True:=an trivial
theorem wa(a:af):l6 "map.__next__" ⟨[a],[]⟩:=by unfold l6;kernel_rfl
theorem wb(a:af):l6 "map.__iter__" ⟨[a],[]⟩:=by unfold l6;kernel_rfl
theorem Ew:mO (.type "map") "__len__"=b7 none:=by rw [d6,ch];kernel_rfl
theorem By:mO (.type "map") "__length_hint__"=b7 none:=by rw [d6,ch];kernel_rfl
theorem C5:mroOf (.type "map")=b7 [.type "map",.type "object"]:=by rw [mroOf_type];kernel_rfl
theorem uI:mO (.type "map") "__new__"=b7 (some (.builtin "map.__new__")):=by rw [d6,ch];kernel_rfl
theorem vp:TypeCalled "map" "map.__new__" "object.__init__":=
 ⟨by decide+kernel,by decide+kernel,⟨_,_,C5⟩,madeBy_type C5 uI (by decide+kernel),by decide+kernel,by rw [fz];kernel_rfl,vV⟩
theorem xv(a b:af):checkTypeCall "map" ⟨[a,b],[]⟩=b7 ():=∅
theorem zD(a b:af):pr "map.__new__" ⟨[.type "map",a,b],[]⟩=b7 ():=∅
noncomputable abbrev zG(T fa:aB):jf:={ cls:=.type "map",data:=.fields #[.ref T,.ref fa] }
theorem BM:FV (.type "map")=b7 true:=∅
theorem IE{fa ax:aB}{xs:List af}{k:Nat}{Q:af->ag->Prop}(hl:s.heap.get? ax=some (cF xs.toArray k))
  (hq:∀J T M h',s.heap.get? J=none->s.heap.get? T=none->s.heap.get? M=none->J≠T->J≠M->T≠M->h'.IsListIter J ax 0->h'.get? T=some (mw #[.ref J] 0)->h'.get? M=some (zG T fa)->(∀b o,s.heap.get? b=some o->h'.get? b=some o)->Q (.ref M) { s with heap:=h' }) :
  ar (ay pw w) A (call (.type "map") [.ref fa,.ref ax]) Q E s:=by
 have hsub:=vp.sub
 have g:AX (Builtin.«map.__new__» ⟨[.type "map",.ref fa,.ref ax],[]⟩) (λζ R s=>s.heap.get? ax=some (cF xs.toArray k) /\
   R (.ok (.ret (.ref (s.heap.objs.size+2)))) { s with heap:=((s.heap.push { cls:=.type "list_iterator",data:=.fields #[.ref ax,.int 0 0] }).push (mw #[.ref s.heap.objs.size] 0)).push (zG (s.heap.objs.size+1) fa) }):=by
  intro prog w A R s h
  obtain⟨hl,h⟩:=h
  unfold Builtin.«map.__new__» Jn
  dsimp only
  refine aa (aa (ci BM ?_))
  refine lT rfl ?_
  refine aa (ci hsub ?_)
  refine lT rfl ?_
  refine ab ?_
  dsimp only
  refine aa (m:=Jl "map" (.type "map") ⟨[.type "map",.ref fa,.ref ax],[]⟩) (ab ?_)
  show ar _ _ (if 2<2 then _ else _) _ _ _
  rw [if_neg (by decide)]
  refine aa (m:=oM [.ref ax]) ?_
  unfold oM
  dsimp only
  rw [ey]
  refine aa (aa (aa (aW (kd ⟨_,hl,rfl,k,rfl⟩ (ab ?_)))))
  dsimp only
  rw [wn]
  refine ab (ab ?_)
  refine aa (rD ?_ (show 1<=mQ by rw [sizeLine_eq];decide))
  unfold Jm
  dsimp only
  refine aa (cf ?_)
  refine ab ?_
  have e1:(s.heap.push { cls:=.type "list_iterator",data:=.fields #[.ref ax,.int 0 0] }).objs.size=s.heap.objs.size+1:=iy ..
  have e2:((s.heap.push { cls:=.type "list_iterator",data:=.fields #[.ref ax,.int 0 0] }).push (mw #[.ref s.heap.objs.size] 0)).objs.size=s.heap.objs.size+2:=by rw [iy,e1]
  rw [<-e2,<-e1]at h
  exact h
 refine callType_new vp (by decide) (xv _ _) (zD _ _) (λobj=>PySem.F.args_object_init_3 obj _ _) v7 g ⟨hl,?_⟩
 generalize hh:((s.heap.push { cls:=.type "list_iterator",data:=.fields #[.ref ax,.int 0 0] }).push (mw #[.ref s.heap.objs.size] 0)).push (zG (s.heap.objs.size+1) fa)=h'
 have e1:(s.heap.push { cls:=.type "list_iterator",data:=.fields #[.ref ax,.int 0 0] }).objs.size=s.heap.objs.size+1:=iy ..
 have e2:((s.heap.push { cls:=.type "list_iterator",data:=.fields #[.ref ax,.int 0 0] }).push (mw #[.ref s.heap.objs.size] 0)).objs.size=s.heap.objs.size+2:=by rw [iy,e1]
 have hM:h'.get? (s.heap.objs.size+2)=some (zG (s.heap.objs.size+1) fa):=by rw [<-hh,<-e2];exact aU _ rfl
 have hT:h'.get? (s.heap.objs.size+1)=some (mw #[.ref s.heap.objs.size] 0):=by
  rw [<-hh]
  refine au _ ?_
  rw [<-e1]
  exact aU _ rfl
 have hJ:h'.IsListIter s.heap.objs.size ax 0:=⟨{ cls:=.type "list_iterator",data:=.fields #[.ref ax,.int 0 0] },by
  rw [<-hh]
  exact au _ (au _ (aU _ rfl)),rfl,rfl⟩
 exact⟨⟨_,hM,rfl⟩,hq s.heap.objs.size (s.heap.objs.size+1) (s.heap.objs.size+2) h' (cu _) (pF (cX _)) (pF (dA _ _)) (dW (dz _)) (dW (AB (by decide))) (dW (dz _)) hJ hT hM
  λb o e=>by rw [<-hh];exact au _ (au _ (au _ e))⟩
noncomputable def tI(sp:Spec)(fa:aB)(t:List PV × List aO)(v:Option PV)(t':List PV × List aO):Prop:=match t.1,v with
 | x::r,some y=>t'.1=r/\sp fa [x] [] t.2=some (y,t'.2)
 | [],none=>t'=t
 | _,_=>False
inductive uG(J T M ax fa:aB)(xs:List af)(k:Nat)(t:List PV × List aO)(I:dC)(ρ:dH)(s:ag):Prop
 | mk (i:Nat) (o:jf) (hJ:Pv I ρ s J o) (c:o.cls = .type "list_iterator") (d:o.data = .fields #[.ref ax,.int i 0]) (hT:Pv I ρ s T (mw #[.ref J] 0)) (hM:Pv I ρ s M (zG T fa)) (h:I ax=some (cF xs.toArray k)) (r:aY I ρ t.1 (xs.drop i)):uG J T M ax fa xs k t I ρ s
theorem uG.pm{J T M ax fa:aB}{xs:List af}{k:Nat}{t:List PV × List aO}(h:uG J T M ax fa xs k t I ρ s):Pv I ρ s M (zG T fa):=h.casesOn λζ ζ ζ ζ ζ ζ q ζ ζ=>q
theorem K4(hsp:dB H0 w n sp)(hR:cC H0 A.in1 n){J T M ax fa:aB}{xs:List af}{k:Nat}(hJT:J≠T)(hJM:J≠M):Vo H0 w A (.ref M) (λa=>a=J\/a=T\/a=M) Prod.snd (tI sp fa) (uG J T M ax fa xs k) where
 own:=λt I ρ s h=>by
  obtain⟨i,o,hJ,c,d,hT,hM,_,_⟩:=h
  exact OG (P:=λa=>¬fL I ρ a/\s.heap.get? a≠none) hJ.own hT.own hM.own
 keep:=λt I ρ s I' ρ' R' s' X0 Z0 G h x hz=>by
  obtain⟨i,o,hJ,c,d,hT,hM,h7,h8⟩:=h
  exact⟨i,o,hJ.keep x (hz J (av rfl)),c,d,hT.keep x (hz T (an (av rfl))),hM.keep x (hz M (an (an rfl))),x.le _ _ h7,h8.leZ x⟩
 next:=by
  rintro ⟨l,R⟩ v ⟨l',R'⟩ I ρ s E hs G h
  obtain⟨i,o,hJ,c,d,hT,hM,h7,h8⟩:=h
  have hTM:s.TypeIs (.ref M) "map":=⟨_,hM.at_,rfl⟩
  have hno:=OG (P:=λa=>¬fL I ρ a) hJ.no hT.no hM.no
  have hZs:=OG (P:=λa=>a ∉ H0.stk) (hJ.stk G) (hT.stk G) (hM.stk G)
  have h1:s.heap.IsListIter J ax i:=⟨o,hJ.at_,c,d⟩
  have hl:s.heap.IsList ax xs.toArray:=⟨_,G.imm _ _ h7,rfl,k,rfl⟩
  refine aa (nR (gM (name:=et "__next__") hTM me (em me hTM vf ?_ (wa _))))
  show ar _ _ (field (.ref M) 0>>=_) _ _ s
  refine aa (rE hM.at_ rfl (x:=.ref T) rfl ?_)
  refine aa (c0 hT.at_ rfl ?_)
  dsimp only
  refine aa ?_
  rw [<-lF]
  show ar _ _ (pn [jY J] _ _) _ _ _
  rw [ey]
  refine aa (aa (aW ?_))
  cases l with
  | nil=>
   cases v with
   | some y=>exact hs.elim
   | none=>
    cases hs
    refine wpAny_nextOf_list_end hR.1 h1 hl h8.none_ λh' e he hx=>?_
    obtain⟨o,ho,hc⟩:=hx
    refine aa (kQ (T:="StopIteration") (b:=true) ⟨o,ho,hc⟩ AO ?_)
    exact ab ⟨I,ρ,aS.quiet G hno (λa o ha e=>he a o (λq=>ha (av q)) e) rfl rfl hZs,rfl⟩
  | cons x r=>
   cases v with
   | none=>exact hs.elim
   | some y=>
    obtain⟨e1,hs⟩:l'=r/\sp fa [x] [] R=some (y,R'):=hs
    subst e1
    obtain⟨u,h9,h10,h11⟩:=h8.get rfl
    refine wpAny_nextOf_list_item h1 hl (x:=u) (by rw [bU];exact h9) λh' hit' hs'=>?_
    refine ab ?_
    dsimp only
    rw [wn]
    refine ab ?_
    obtain⟨o',e1,c',d'⟩:=hit'
    generalize hs2:({ s with heap:=h' }:ag)=s1
    have e1:s1.heap.get? J=some o':=hs2▸e1
    have same:∀a,a≠J->s1.heap.get? a=s.heap.get? a:=hs2▸hs'.2
    have x0:aS H0 eb (λa=>a=J\/a=T\/a=M) I ρ s I ρ R s1:=aS.quiet G hno (λa o ha e=>(same a (λq=>ha (av q))).trans e) (hs2▸rfl) (hs2▸rfl) hZs
    have pJ:Pv I ρ s1 J o':=⟨e1,bL d',hJ.no⟩
    have pM:Pv I ρ s1 M (zG T fa):=⟨(same M hJM.symm).trans hM.at_,hM.nd,hM.no⟩
    have pT:Pv I ρ s1 T (mw #[.ref J] 0):=⟨(same T hJT.symm).trans hT.at_,hT.nd,hT.no⟩
    refine aa (rE pM.at_ rfl (x:=.ref fa) rfl ?_)
    refine aa (aW (fj (gm (hsp fa [x] [] R y R' hs A.in1 (λζ ζ=>False) I ρ _ [u] [] hR x0.good (aY.cons h10 aY.nil) ⟨rfl,aY.nil⟩) (λr s2 q=>?_))))
    rcases r with e | (_ | _ | _ | u')
    ·exact nC q
    ·exact nC q
    ·exact nC q
    ·exact nC q
    ·obtain⟨I2,ρ2,x2,hu'⟩:=q
     exact aa (dS (ab ⟨_,rfl,ab ⟨I2,ρ2,aS.trans G x0 x2.z,u',rfl,hu',i+1,o',pJ.step x2,c',d',pT.step x2,pM.step x2,x2.le _ _ h7,h11.le x2⟩⟩))
theorem HF{α:Type}{M:vO}{A:bD}{E:af->ag->Prop}{s:ag}{c:Bool}{a b:vN α}{Q:α->ag->Prop}(hc:c=true)(h:ar M A a Q E s):ar M A (if c=true then a else b) Q E s:=by
 subst hc
 exact h
theorem yf{fa:aB}{l:List PV}:∀(R:List aO) {ys:List PV} {R':List aO},mj (Hf sp fa) l R=some (ys,R')->rz (tI sp fa) (l,R) ys ([],R'):=by
 induction l with
 | nil=>
  intro R ys R' h
  cases h
  exact .done rfl
 | cons x r ih=>
  intro R ys R' h
  obtain⟨o,R1,e1,h⟩:=gF h
  obtain⟨y,R2,e,h'⟩:=gF e1
  cases h'
  obtain⟨zs,R3,e2,h⟩:=gF h
  cases h
  exact .item (t1:=(r,R1)) ⟨rfl,e⟩ (ih R1 e2)
theorem ye:kl vG "map.__iter__"=some Builtin.«dict_keyiterator.__iter__»:=
 entryFor_alias (id':="dict_keyiterator.__iter__") ∅ (by first | rfl | decide+kernel | (unfold String.splitOn;simp+decide [String.splitOnAux])) (by decide+kernel) ∅
theorem Bt{M T fa:aB}{Q:af->ag->Prop}(hM:s.heap.get? M=some (zG T fa))(h:Q (.ref M) s):ar (ay pw w) A (mR (.ref M)) Q E s:=by
 have hT:s.TypeIs (.ref M) "map":=⟨_,hM,rfl⟩
 refine wpAny_pyIter_slot hT pH (em pH hT ye ?_ (wb _))
 show ar _ _ (ret (.ref M)) _ _ s
 exact ab ⟨_,rfl,"map",_,hT,me.lookup,h⟩
theorem Ah(hsp:dB H0 w n sp)(hR:cC H0 A.in1.in1 n){J T M ax fa:aB}{xs:List af}{k:Nat}(hJT:J≠T)(hJM:J≠M){l ys:List PV}(dr:rz (tI sp fa) (l,R) ys ([],R'))(hys:ys.length<=SZ)
  (G:Gd H0 I ρ R s.heap)(st:uG J T M ax fa xs k (l,R) I ρ s){Q:List af->ag->Prop}
  (hQ:∀I' ρ' s' vs D,s.heap.get? D=none->aS H0 eb (λa=>(a=J\/a=T\/a=M)\/a=D) I ρ s I' ρ' R' s'->aY I' ρ' ys vs->Q vs s'):ar (ay pw w) A (collect (.ref M)) Q E s:=by
 have hM:=st.pm.at_
 unfold collect
 refine aa (wpAny_runValue (bB F.entry_proto_collect ?_))
 rw [bh F.plain_proto_collect _]
 show ar _ A.in1 (newList []>>=λl=>again (.builtin "list.__iadd__" ⟨[l,.ref M],[]⟩)) _ _ s
 refine aa (cf ?_)
 refine ab ⟨bT LA _,bB F.entry_list_iadd ?_⟩
 rw [bh LA _]
 have hn:=cu s.heap
 generalize hDe:s.heap.objs.size=D at hn ⊢
 have ho:¬fL I ρ D:=bA G hn
 have hDM:M≠D:=λq=>by subst q;rw [hn]at hM;cases hM
 have hpd:(s.heap.push { cls:=.type "list",data:=.seq #[] }).get? D=some (cF #[] 0):=by rw [<-hDe];exact aU _ rfl
 have hpk:∀b o,s.heap.get? b=some o->(s.heap.push { cls:=.type "list",data:=.seq #[] }).get? b=some o:=λb o e=>au _ e
 generalize s.heap.push { cls:=.type "list",data:=.seq #[] }=h1 at hpd hpk ⊢
 have hM1:=hpk _ _ hM
 have hTM:Shared.TypeIs { s with heap:=h1 } (.ref M) "map":=⟨_,hM1,rfl⟩
 show ar _ A.in1 (dL (.ref D) (.ref M) (.ref D)) _ _ _
 unfold dL
 refine aa (kc hTM ?_)
 have h2:su (.ref D) (.ref M)=false:=beq_eq_false_iff_ne.mpr hDM.symm
 rw [if_neg (by rw [h2];decide)]
 refine aa (Bt hM1 ?_)
 refine aa (aW ?_)
 unfold qz
 refine aa (gh hTM Ew ?_)
 dsimp only
 refine lT rfl ?_
 refine lT rfl ?_
 refine aa (gh hTM By ?_)
 dsimp only
 refine ab ?_
 refine HF rfl ?_
 refine aa (iX ?_)
 refine aa ?_
 unfold tz
 refine aa (m:=jW D (·.push .none)) (cw hpd rfl ?_ (by rw [sizeLine_eq];decide) (by rw [sizeLine_eq];decide))
 have hp2:=eN (c:="list") (xs := #[]) (n:=0) hpd (·.push .none)
 refine cw (s:={ s with heap:=h1.update D (bC (·.push .none)) }) hp2 rfl ?_ (by rw [sizeLine_eq];decide) (by rw [sizeLine_eq];decide)
 have hp3:=eN (c:="list") hp2 (·.pop)
 generalize hh2:(h1.update D (bC (·.push .none))).update D (bC (·.pop))=h2 at hp3 ⊢
 have hk2:∀b o,b≠D->s.heap.get? b=some o->h2.get? b=some o:=λb o hb e=>by
  rw [<-hh2]
  exact(aD _ _ hb.symm).trans ((aD _ _ hb.symm).trans (hpk b o e))
 obtain⟨c3,hp3⟩:∃c3,h2.get? D=some (cF (bk []) c3):=⟨_,hp3⟩
 have z:aS H0 eb (λa=>a=D) I ρ s I ρ R { s with heap:=h2 }:=aS.quiet G (λa ha=>ha▸ho) (λa o ha e=>hk2 a o ha e) rfl rfl (λa ha=>ha▸G.freshStk hn)
 obtain⟨hdJ,hdT,hdM⟩:D≠J/\D≠T/\D≠M:=by
  obtain⟨_,o,q1,_,_,q2,q3,_,_⟩:=st
  exact⟨λq=>q1.own.2 (q▸hn),λq=>q2.own.2 (q▸hn),λq=>q3.own.2 (q▸hn)⟩
 have hZ:=OG (P:=λa=>a≠D) hdJ.symm hdT.symm hdM.symm
 have Dr:=K4 (H0:=H0) (w:=w) hsp (A:=A.in1) hR (J:=J) (T:=T) (M:=M) (ax:=ax) (fa:=fa) (xs:=xs) (k:=k) hJT hJM
 have st2:=Dr.keep (l,R) I ρ s I ρ R { s with heap:=h2 } eb (λa=>a=D) G st z (λa ha=>⟨λq=>q,hZ a ha⟩)
 refine ab ⟨bT jg _,w7 (D:=D) Dr (λq=>hZ D q rfl) dr I ρ { s with heap:=h2 } [] c3 [] z.good st2 hp3 ho aY.nil (by simpa using hys) (λI' ρ' s' zs c' y hD' hoD hr=>?_)⟩
 show ar _ A (load D>>=_) _ _ s'
 refine aa (pQ hD' ?_)
 refine ab ?_
 rw [qq]
 exact hQ I' ρ' s' zs D hn (aS.trans G (z.moreZ λa h=>an h) y) (by simpa using hr)
theorem vX(hsp:dB H0 w n sp)(hR:cC H0 A.in1.in1.in1 n){J T M ax fa:aB}{xs:List af}{k:Nat}(hJT:J≠T)(hJM:J≠M){l ys:List PV}(dr:rz (tI sp fa) (l,R) ys ([],R'))(hys:ys.length<=SZ)
  (G:Gd H0 I ρ R s.heap)(st:uG J T M ax fa xs k (l,R) I ρ s){Q₁:af->ag->Prop}
  (hQ:∀I' ρ' s' vs D,s.heap.get? D=none->aS H0 eb (λa=>(a=J\/a=T\/a=M)\/a=D) I ρ s I' ρ' R' s'->aY I' ρ' ys vs->Q₁ (.ref s'.heap.objs.size) { s' with heap:=s'.heap.push { cls:=.type "tuple",data:=.seq vs.toArray } }) :
  cB (ay pw w) A (.call (.builtin "tuple.__new__") ⟨[.type "tuple",.ref M],[]⟩) (wants Q₁ E) s:=by
 have hM:=st.pm.at_
 refine qn ?_
 show ar _ A.in1 (do pr "tuple.__new__" ⟨[.type "tuple",.ref M],[]⟩;again (.builtin "tuple.__new__" ⟨[.type "tuple",.ref M],[]⟩)) _ _ s
 refine aa (ci (F.newCall_tuple_1 _) (ab ⟨bT Lz _,bB F.entry_tuple_new ?_⟩))
 rw [bh Lz _]
 have hsub:=sub_tuple_self
 have hinit:=init_tuple_lookup
 have hmh:=madeHere_tuple
 have hTI:s.TypeIs (.ref M) "map":=⟨_,hM,rfl⟩
 wp_walk using kc hTI,Ah (k:=k) hsp hR hJT hJM dr hys G st
 intro I' ρ' s' vs D hD z hr
 show ar _ _ (ia vs.toArray>>=λv=>ret v) _ _ _
 unfold ia
 refine aa (cf ?_ (by show vs.toArray.size<=mQ;rw [aT,hr.length];exact ga hys))
 refine ab ?_
 exact hQ I' ρ' s' vs D hD z hr
theorem r6(B:dy w H0.heap)(hsp:dB H0 w n sp){g g2 h:Str}{np np2 hp pos p:dN}{fa:aB}{l ys:List PV}(hg:gl cx g=true)(hgv:eZ g=some (.type "tuple"))(hg2:gl cx g2=true)(hgv2:eZ g2=some (.type "map"))
  (h1:qm H0 w n cx [.Name h hp,e] σ R [.val (.ref fa),.list l] R1)(hm:mj (Hf sp fa) l R1=some (ys,R2))(hys:mkT ys=some v)
  (hev:∀env:d9,(hO p (bS [.Name h hp,e] env)).any (·.1)=false /\ ∃x rest,hO p (bS [.Name h hp,e] env)=(false,x)::rest) :
  dM H0 w n cx (.Call (.Name g np) [.Call (.Name g2 np2) [.Name h hp,e] [] p] [] pos) σ R v R2:=by
 intro A E I ρ env s hR G O
 obtain⟨hyl,rfl⟩:=om hys
 refine mY rfl (db (cz B G O hg hgv ?_) (c9 O (O.glo g hg)))
 refine callWith_type1 ?_
 refine fk (db (cz B G O hg2 hgv2 ?_) (c9 O (O.glo g2 hg2)))
 obtain⟨h2,x,rest,hx⟩:=hev env
 have hh:=h1 A E I ρ env p s hR G O
 rw [hx]at hh h2 ⊢
 refine CF h2 (ko (ao hh (λus s1 q=>?_) λζ ζ e=>e))
 obtain⟨I1,ρ1,x1,hu⟩:=q
 obtain⟨u1,r1,rfl,rfl,u2,r2,rfl,⟨hl,ax,xs,k,rfl,hax,hr⟩,rfl⟩:=hu
 have G1:=x1.good
 refine IE (G1.imm _ _ hax) λJ T M h' nJ nT nM hJT hJM hTM hJ hT hM hk=>?_
 have st:a8 H0 eb I1 ρ1 s1 I1 ρ1 R1 { s1 with heap:=h' }:=a8.quiet G1 nb (λa o ζ e=>hk a o e) (λa ha=>ha.elim) rfl rfl
 have st0:uG J T M ax fa xs k (l,R1) I1 ρ1 { s1 with heap:=h' }:=hJ.elim λo q=>⟨0,o,⟨q.1,bL q.2.2,bA G1 nJ⟩,q.2.1,q.2.2,⟨hT,bM rfl,bA G1 nT⟩,⟨hM,bL rfl,bA G1 nM⟩,hax,hr⟩
 have dr:=yf R1 hm
 have hRoom:cC H0 A.in1.in1.in1.in1 n:=⟨hR.1,by have:=hR.2.1;show A.depth+_<=_;exact o3 this,by have:=hR.2.2.1;show A.units+1+1+1+1+_<=_;exact Wu this,hR.2.2.2⟩
 refine callType_codes (Q₁:=λobj s₁=>s₁.TypeIs obj "tuple"/\fM H0 I ρ s (.tup ys) R2 obj s₁) yW (F.typeCall_tuple_1 _) F.entry_object_init
  (vX hsp hRoom hJT hJM dr hyl st.good st0 λI' ρ' s' vs D hD z hr'=>⟨⟨_,aU _ rfl,rfl⟩,?_⟩) λobj s₁ h₁=>?_
 ·have zz:a8 H0 eb I1 ρ1 s1 I' ρ' R2 s':=aS.close G1 st z (λa ha=>by
   rcases ha with ha | rfl
   ·exact OG (P:=λa=>s1.heap.get? a=none) nJ nT nM a ha
   ·cases e:s1.heap.get? a with
    | none=>rfl
    | some q=>rw [show({ s1 with heap:=h' }:ag).heap.get? a=_ from hk a q e]at hD;cases hD)
  exact fM.mono_ G (x1.trans G zz) (js (s:=s') zz.good hr' hyl s'.toks)
 ·exact⟨h₁.1,F.args_object_init_2 obj _,object_init_meets yW.init.lookup yW.made (by decide) pw w A.in1 _ s₁ ⟨h₁.1,rfl,h₁.2⟩⟩
noncomputable def hide(h:fv):List aB->fv
 | []=>h
 | a::r=>hide (h.update a λo=>{ o with data:=.freed }) r
theorem EU(h:fv)(a:aB)(r:List aB):hide h (a::r)=hide (h.update a λo=>{ o with data:=.freed }) r:=rfl
theorem mB:∀(l:List aB) (h:fv) (b:aB),(b∈l->(hide h l).get? b=none)/\(b ∉ l->(hide h l).get? b=h.get? b):=by
 intro l
 induction l with
 | nil=>
  intro h b
  exact⟨(λq=>nomatch q),λζ=>rfl⟩
 | cons a r ih=>
  intro h b
  have ih:=ih (h.update a λo=>{ o with data:=.freed }) b
  by_cases hr:b∈r
  ·exact⟨λζ=>ih.1 hr,λq=>absurd (am _ hr) q⟩
  ·rw [EU,ih.2 hr]
   by_cases hb:b=a
   ·subst hb
    refine⟨λζ=>?_,λq=>absurd aj q⟩
    obtain⟨⟨objs⟩,life⟩:=h
    cases e:((Heap.mk ⟨objs⟩ life).update b λo=>{ o with data:=.freed }).get? b with
    | none=>rfl
    | some o=>
     exfalso
     obtain⟨e1,e2⟩:=Heap.get?_some_iff.mp e
     simp only [Heap.update,Array.getElem?_modify,if_true,jB]at e1
     obtain⟨o',_,rfl⟩:=e1
     simp [Obj.isFreed]at e2
   ·refine⟨λq=>?_,λζ=>aD _ _ (di hb)⟩
    rcases aw.mp q with q | q
    ·exact absurd q hb
    ·exact absurd q hr
theorem Be{l:List d9}(hl:l.map (·.frame)=H0.stk.map some)(hk:∀e∈l,e.scope.kind ≠ .module)(G:Gd H0 I ρ R s.heap){h:fv}(hh:∀a o,s.heap.get? a=some o->h.get? a=some o):h.FunFrames (hide s.heap H0.stk) l:=by
 have key:∀(l:List d9) (st:List aB),l.map (·.frame)=st.map some->(∀a∈st,a∈H0.stk)->(∀e∈l,e.scope.kind ≠ .module)->h.FunFrames (hide s.heap H0.stk) l:=by
  intro l
  induction l with
  | nil=>intro st _ _ _;trivial
  | cons e r ih=>
   intro st h1 h2 h3
   cases st with
   | nil=>cases h1
   | cons a st=>
    simp only [aN,dF]at h1
    have ha:=h2 a aj
    obtain⟨_,o,es,ep,g1,g2⟩:=G.stk a ha
    refine⟨h3 e aj,⟨a,o,h1.1,(mB _ _ _).1 ha,hh a o g1,λvs=>by rw [g2];exact λq=>nomatch q⟩,ih st h1.2 (λb hb=>h2 b (am _ hb)) λe he=>h3 e (am _ he)⟩
 exact key l H0.stk hl (λa ha=>ha) hk
theorem Hj{outer:List d9}{L x:aB}{X:String}{h1:fv}(hfr:A.frames=some (env::outer))(hl:(env::outer).map (·.frame)=H0.stk.map some)(hk:∀e∈env::outer,e.scope.kind ≠ .module)(hf:env.frame=some L)(G:Gd H0 I ρ R s.heap)
  (hm:Heap.MadeExc s.heap h1 x X []){Q:Unit->ag->Prop}(hq:∀h',a8 H0 eb I ρ s I ρ R { s with heap:=h' }->({ s with heap:=h' }:ag).TypeIs (.ref x) X->Q () { s with heap:=h' }) :
  ar (ay pw w) A (leaving env (.ref x)) Q E { s with heap:=h1 }:=by
 obtain⟨t,hx,_,_⟩:=hm.there
 have hbase:(hide s.heap H0.stk).StaysIn h1:=λb o e=>by
  by_cases hb:b∈H0.stk
  ·rw [(mB _ _ _).1 hb]at e;cases e
  ·rw [(mB _ _ _).2 hb]at e;exact hm.keeps b o e
 have hxn:(hide s.heap H0.stk).get? x=none:=by
  by_cases hb:x∈H0.stk
  ·exact(mB _ _ _).1 hb
  ·rw [(mB _ _ _).2 hb];exact hm.new
 refine wpAny_leaving_first (s:={ s with heap:=h1 }) (base:=hide s.heap H0.stk) hfr (Be hl hk G hm.keeps) hf hx hbase hxn rfl rfl λh' left=>?_
 obtain⟨k1,k2,⟨oe,vs,T,oT,ts,q1,q2,_⟩,k4⟩:=left
 have kept:∀a o,a ∉ H0.stk->s.heap.get? a=some o->h'.get? a=some o:=λa o ha e=>k1 a o (by rw [(mB _ _ _).2 ha];exact e)
 have slots:∀a∈H0.stk,∀o,s.heap.get? a=some o->(∃es ep,o.data = .dict es ep) /\ ∃sl,h'.get? a=some { o with slots:=sl }:=λa ha o e=>by
  obtain⟨_,o',es,ep,g1,g2⟩:=G.stk a ha
  rw [e]at g1
  cases g1
  exact⟨⟨es,ep,g2⟩,k4 a o (hm.keeps a o e) λvs=>by rw [g2];exact λq=>nomatch q⟩
 refine hq h' ⟨λζ ζ e=>e,⟨[],(aP _).symm⟩,λζ h=>av h,λa o ζ e=>?_,λa ha=>?_,G.keeps (λa o ho e=>kept a o (λq=>(G.stk a q).1 ho) e) (λa ha ⟨o,es,ep,e,d⟩=>?_),rfl,rfl⟩ ⟨oe,q1,q2⟩
 ·by_cases ha:a∈H0.stk
  ·obtain⟨d,sl,e'⟩:=slots a ha o e
   exact⟨_,e',an ⟨d,sl,rfl⟩⟩
  ·exact⟨o,kept a o ha e,kJ.refl o⟩
 ·obtain⟨o,e⟩:=bj.mp ha
  show h'.get? a≠none
  by_cases ha:a∈H0.stk
  ·obtain⟨d,sl,e'⟩:=slots a ha o e
   rw [e'];exact λh=>nomatch h
  ·rw [kept a o ha e];exact λh=>nomatch h
 ·obtain⟨_,sl,e'⟩:=slots a ha o e
  exact⟨_,es,ep,e',d⟩
theorem L4{op:mX}{a b:PV}{c:Bool}(h1:dM H0 w n cx l σ R a R1)(h2:dM H0 w n cx r σ R1 b R2)(hc:td R2 op a b=some c)(hm:nU op r=false):On H0 w n cx l op r σ R c R2:=by
 refine⟨hm,λA E I ρ env s hR G O=>?_⟩
 refine h1.then hR G O λI1 ρ1 u1 s1 x1 hu1 O1 G1=>h2.then hR G1 O1 λI2 ρ2 u2 s2 x2 hu2 O2 G2=>?_
 exact ao (Iz (hR.le (cX n)) G2 hc (hu1.le x2) hu2) (λu s' q=>fM.mono_ G (x1.trans G x2) q) λζ ζ e=>e
theorem Vk:∃p1 p2,(br (bK pw 46 9)).body=[.Return (some (.Name "self" p1)) p2]:=⟨_,_,rfl⟩
theorem Vj:∃p1 p2 apos pos p3 p4 p5 p6 p7 p8 p9 p10 p11 p12,(br (bK pw 46 10)).body=[.Assign [.Name "token" p1] (.Call (.Attribute (.Name "self" p2) "get_token" apos) [] [] pos) p3,.If (.Compare (.Name "token" p4) [.Eq] [.Attribute (.Name "self" p5) "eof" p6] p7) [.Raise (some (.Name "StopIteration" p8)) none p9] [] p10,.Return (some (.Name "token" p11)) p12]/\apos.endLine=pos.line:=⟨_,_,_,_,_,_,_,_,_,_,_,_,_,_,rfl,rfl⟩
theorem U8(k:PV):vv (br (bK pw 46 9)).params [] [k] []=some [(("self":Str),k)]:=∅
theorem U7(k:PV):vv (br (bK pw 46 10)).params [] [k] []=some [(("self":Str),k)]:=∅
theorem WX(b:Nat):gl ⟨(br (bK pw 46 9)).scope.names,b⟩ "self"=false:=∅
theorem UX(b:Nat):gl ⟨(br (bK pw 46 10)).scope.names,b⟩ "self"=false/\gl ⟨(br (bK pw 46 10)).scope.names,b⟩ "token"=false/\gl ⟨(br (bK pw 46 10)).scope.names,b⟩ "StopIteration"=true/\QG ⟨(br (bK pw 46 10)).scope.names,b⟩ "token"=true:=by
 refine⟨?_,?_,?_,?_⟩<;>kernel_rfl
theorem Vg(B:dy w H0.heap)(hR:cC H0 A (n+2))(G:Gd H0 I ρ R s.heap){x:PV}{u:af}(hu:cq I ρ x u){RR:fS->ag->Prop}(h:∀v s',fM H0 I ρ s x R v s'->RR (.ok (.ret v)) s') :
  cB (ay pw w) A (.call (.ref 862) ⟨[u],[]⟩) RR s:=by
 refine uZ B (f:=862) rfl (U8 x) hR G (by exact⟨u,[],rfl,hu,rfl⟩) ⟨rfl,by exact aY.nil⟩ λI1 ρ1 env s2 O2 G2 hR2 ζ hfr x02=>?_
 obtain⟨p1,p2,hb⟩:=Vk
 generalize (br (bK pw 46 9)).body=body at hb ⊢
 subst hb
 ·have hv:fF ("self":Str) [(("self":Str),x)]=some x:=by simp
  have ev1:dM ⟨H0.heap,env.locals::H0.stk⟩ w n ⟨(br (bK pw 46 9)).scope.names,R.length⟩ (.Name "self" p1) [("self",x)] R x R:=nn hv
  have ex1:=rf (ss:=[]) (oX (pos:=p2) (ks:=[]) ev1) (λq=>nomatch q)
  refine ao (ex1 _ (λζ ζ=>False) I1 ρ1 env s2 hR2 G2 O2) (λg s3 q=>?_) λζ ζ e=>e.elim
  obtain⟨I3,ρ3,x3,O3,hfl⟩:=q
  obtain⟨u',rfl,hu'⟩:=hfl
  exact h u' s3 ⟨I3,ρ3,a8.back G x02 x3 hfr,hu'⟩
theorem Ig{a b:PV}{c:Bool}(h:AF a b=some c):∀x,b ≠ .val x:=λx q=>by
 subst q
 unfold AF at h
 have:uA 6 (.val x)=false:=rfl
 rw [this,jI]at h
 cases h
theorem Ce{a b:PV}{c:Bool}(h:td R .Eq a b=some c):∀x,b ≠ .val x:=Ig (nl (o:=AF a b) h).2
theorem Qe:∀P,∃ob fd,(KK pw P).lookup 833=some ob/\ob.data = .func fd:=λP=>by
 obtain⟨q,dV,pm,cd,h,_⟩:=rd P (f:=833) rfl
 exact⟨_,_,h,rfl⟩
inductive Me(sp:Spec)(k:Nat)(R:List aO)(ov:Option PV)(R':List aO):Prop
 | mk (gs fs:List (Str × PV)) (v ee:PV) (c:Bool) (hr0:R[k]? = some (.inst 872 gs)) (hgt:(gs.lookup ("get_token":Str)).isNone=true) (hs:sp 833 [.obj k] [] R=some (v,R')) (hr1:R'[k]? = some (.inst 872 fs)) (he:fs.lookup ("eof":Str)=some ee) (hcm:td R' .Eq v ee=some c) (e:ov=bif c then none else some v):Me sp k R ov R'
theorem wH{k:Nat}{ov:Option PV}(hn:lN sp k R=some (ov,R')):Me sp k R ov R':=by
 obtain⟨D,gs,hr0,h1⟩:=zR hn
 obtain⟨q,h2⟩:=nl h1
 obtain⟨q,hgt⟩:=eA q
 obtain⟨v,R1,hs,h3⟩:=gF h2
 obtain⟨C,fs,hr1,h4⟩:=zR h3
 obtain⟨q',h5⟩:=nl h4
 obtain⟨ee,he,h6⟩:=ig h5
 obtain⟨c,hcm,h7⟩:=ig h6
 cases h7
 cases of_decide_eq_true q
 cases of_decide_eq_true q'
 exact⟨gs,fs,v,ee,c,hr0,hgt,hs,hr1,he,hcm,rfl⟩
theorem Vf(B:dy w H0.heap)(hsp:∀L,dB ⟨H0.heap,L::H0.stk⟩ w n sp)(hR:cC H0 A (n+2))(G:Gd H0 I ρ R s.heap){k:Nat}{u:af}(hu:cq I ρ (.obj k) u){ov:Option PV}(hn:lN sp k R=some (ov,R')){RR:fS->ag->Prop}
  (h1:∀v,ov=some v->∀u' s',fM H0 I ρ s v R' u' s'->RR (.ok (.ret u')) s')
  (h2:ov=none->∀x s' I' ρ',a8 H0 eb I ρ s I' ρ' R' s'->s'.TypeIs (.ref x) "StopIteration"->RR (.error (.ref x)) s') :
  cB (ay pw w) A (.call (.ref 869) ⟨[u],[]⟩) RR s:=by
 refine uZ B (f:=869) rfl (U7 (.obj k)) hR G (by exact⟨u,[],rfl,hu,rfl⟩) ⟨rfl,by exact aY.nil⟩ λI1 ρ1 env s2 O2 G2 hR2 hfm hfr x02=>?_
 obtain⟨p1,p2,apos,pos,p3,p4,p5,p6,p7,p8,p9,p10,p11,p12,hb,hline⟩:=Vj
 obtain⟨m1,m2,m3,m4⟩:=UX R.length
 generalize (br (bK pw 46 10)).body=body at hb ⊢
 generalize hcx:Cx.mk (br (bK pw 46 10)).scope.names R.length=cx at O2 m1 m2 m3 m4
 subst hb
 obtain⟨gs,fs,v,ee,c,hr0,hgt,hs,hr1,he,hcm,rfl⟩:=wH hn
 have hv0:fF ("self":Str) [(("self":Str),PV.obj k)]=some (.obj k):=by simp
 have eself:∀p,dM ⟨H0.heap,env.locals::H0.stk⟩ w n cx (.Name "self" p) [("self",.obj k)] R (.obj k) R:=λp=>nn hv0
 have e1:dM ⟨H0.heap,env.locals::H0.stk⟩ w n cx (.Call (.Attribute (.Name "self" p2) "get_token" apos) [] [] pos) [("self",.obj k)] R v R':=
  z9 (H0:=⟨H0.heap,env.locals::H0.stk⟩) B (hsp env.locals) (eself p2) hr0 (fa:=833) rfl (cK.mp hgt) tO hs Qe (λζ=>rfl) (λζ=>rfl) (beq_iff_eq.mpr hline) (λζ=>av ⟨rfl,rfl⟩) (λζ=>⟨rfl,rfl⟩)
 have hset:qG cx [(("self":Str),PV.obj k)] "token" v=some (jO [(("self":Str),PV.obj k)] "token" v):=by unfold qG;rw [m4];rfl
 have x1:yN ⟨H0.heap,env.locals::H0.stk⟩ w n cx (.Assign [.Name "token" p1] (.Call (.Attribute (.Name "self" p2) "get_token" apos) [] [] pos) p3) [("self",.obj k)] R .next (jO [("self",.obj k)] "token" v) R':=
  r5 e1 hset (λζ=>rfl) (λζ=>rfl) (λζ=>rfl)
 have hl1:(jO [(("self":Str),PV.obj k)] "token" v).lookup ("self":Str)=some (.obj k):=by
  unfold jO;rw [iQ,if_neg (by decide)];exact hv0
 have hl2:(jO [(("self":Str),PV.obj k)] "token" v).lookup ("token":Str)=some v:=by
  unfold jO;rw [iQ,if_pos rfl]
 have etok:∀p,dM ⟨H0.heap,env.locals::H0.stk⟩ w n cx (.Name "token" p) (jO [("self",.obj k)] "token" v) R' v R':=λp=>nn hl2
 have eself2:dM ⟨H0.heap,env.locals::H0.stk⟩ w n cx (.Name "self" p5) (jO [("self",.obj k)] "token" v) R' (.obj k) R':=nn hl1
 have eeof:dM ⟨H0.heap,env.locals::H0.stk⟩ w n cx (.Attribute (.Name "self" p5) "eof" p6) (jO [("self",.obj k)] "token" v) R' ee R':=
  Aa (H0:=⟨H0.heap,env.locals::H0.stk⟩) B eself2 hr1 rfl he (Ce hcm) (λζ=>rfl)
 have tt:=i9 (pos:=p7) (L4 (etok p4) eeof hcm rfl)
 refine kR (ao (x1 _ _ I1 ρ1 env s2 hR2 G2 O2) (λfl s3 q=>?_) λζ ζ e=>e)
 obtain⟨I3,ρ3,x3,O3,hfl⟩:=q
 have hfl:fl = .next:=hfl
 subst hfl
 refine kR (wpAny_If (tt.then hR2 x3.good O3 λI4 ρ4 s4 x4 O4 G4=>?_))
 have xb:=a8.back G x02 (x3.trans G2 x4.weaken) hfr
 cases c with
 | false=>
  rw [if_neg bc]
  refine lZ ?_
  have x5:=rf (ss:=[]) (oX (pos:=p12) (ks:=[]) (etok p11)) (λq=>nomatch q)
  refine ao (x5 _ _ I4 ρ4 env s4 hR2 G4 O4) (λg s5 q=>?_) λζ ζ e=>e
  obtain⟨I5,ρ5,x6,O6,hfl⟩:=q
  obtain⟨u',rfl,hu'⟩:=hfl
  exact h1 v rfl u' s5 ⟨I5,ρ5,a8.back G x02 ((x3.trans G2 x4.weaken).trans G2 x6) hfr,hu'⟩
 | true=>
  rw [if_pos rfl]
  refine kR (owsi_raiseC hR2.1 ?_ λh' x hm=>?_)
  ·exact db (cz (H0:=⟨H0.heap,env.locals::H0.stk⟩) B G4 O4 m3 rfl ⟨rfl,rfl⟩) (c9 O4 (O4.glo _ m3))
  ·obtain⟨l,q1,q2,q3⟩:=hR2.2.2.2
   obtain⟨outer,_,hl0⟩:∃outer,A.frames=some outer/\env::outer=l:=by
    have q1':A.frames.map (env :: ·)=some l:=q1
    cases hA:A.frames with
    | none=>rw [hA]at q1';cases q1'
    | some outer=>rw [hA]at q1';cases q1';exact⟨outer,rfl,rfl⟩
   subst hl0
   refine Hj (H0:=⟨H0.heap,env.locals::H0.stk⟩) q1 q2 q3 hfm G4 hm λh'' st hT=>?_
   exact h2 rfl x _ I4 ρ4 (a8.back G x02 ((x3.trans G2 x4.weaken).trans G2 st.weaken) hfr) hT
theorem wO(P:dZ):(kj (KK pw P) (.ref 872) "__iter__"==some (some (.ref 862))&&AJ (KK pw P) (.ref 862)==some (.type "function")&&kj (KK pw P) (.ref 872) "__next__"==some (some (.ref 869))&&AJ (KK pw P) (.ref 869)==some (.type "function") &&
  kj (KK pw P) (.ref 872) "__len__"==some none&&kj (KK pw P) (.ref 872) "__length_hint__"==some none)=true:=∅
theorem jo{K:Frag}{x C:aB}{ox:jf}{od:Option jf}{name:Str}{r:Option af}{Q:Option af->ag->Prop}(X:K.In s.heap)(I:InstAt s.heap x ox C od)(hs:kj K (.ref C) name=some r)(h:Q r s):ar (ay pw w) A (pi (.ref x) name) Q E s:=by
 unfold pi
 exact aa (I.type.here ((FU X hs).here h))
theorem EP{K:Frag}{x C f:aB}{ox:jf}{od:Option jf}{Q:af->ag->Prop}(X:K.In s.heap)(I:InstAt s.heap x ox C od)(hs:kj K (.ref C) "__iter__"=some (some (.ref f)))(hf:AJ K (.ref f)=some (.type "function"))
  (h:ar (ay pw w) A (call (.ref f) [.ref x]) (λv s'=>ar (ay pw w) A (pi v "__next__") (λr s2=>(∃g,r=some g)/\Q v s2) E s') E s):ar (ay pw w) A (mR (.ref x)) Q E s:=by
 have mid:∀(t:vN af),ar (ay pw w) A (if(jY f==Value.none)=true then(do return some (<-t))else(do return some (<-call (.ref f) [.ref x]))) (λr s'=>∃v,r=some v/\ar (ay pw w) A (pi v "__next__") (λr s2=>(∃g,r=some g)/\Q v s2) E s') E s:=λt=>by
  refine lT rfl ?_
  exact aa (ao h (λv s' q=>ab ⟨v,rfl,q⟩) λζ ζ e=>e)
 have bound:ar (ay pw w) A (lD (.ref x) "__iter__" (do rule "iter.none";raiseError "TypeError" s!"'{← typeNameOf (.ref x)}' object is not iterable"))
   (λr s'=>∃v,r=some v/\ar (ay pw w) A (pi v "__next__") (λr s2=>(∃g,r=some g)/\Q v s2) E s') E s:=by
  unfold lD bindSpecialIfBound?
  refine aW (aa (aa (jo X I hs ?_)))
  dsimp only
  refine aa (gN (wpAny_ite ?_))
  split
  ·exact aa ((bind_fn X _ hf).here (ab (mid _)))
  ·exact cI (aa ((bind_fn X _ hf).here (ab (mid _))))
 unfold mR
 refine aa (jo X I hs ?_)
 dsimp only
 refine aa (ao bound (λr s' q=>?_) λζ ζ e=>e)
 obtain⟨v,rfl,q⟩:=q
 dsimp only
 refine aa (ao q (λr s2 q=>?_) λζ ζ e=>e)
 obtain⟨⟨g,rfl⟩,q⟩:=q
 exact ab q
noncomputable def xQ(sp:Spec)(k:Nat)(R:List aO)(v:Option PV)(R':List aO):Prop:=lN sp k R=some (v,R')
theorem Bz{k:Nat}{y:Option PV × List aO}(h:lN sp k R=some y):∃gs,R[k]? = some (.inst 872 gs):=by
 obtain⟨gs,_,_,_,_,hr0,_⟩:=wH (ov:=y.1) (R':=y.2) h
 exact⟨gs,hr0⟩
theorem K5(B:dy w H0.heap)(hsp:∀L,dB ⟨H0.heap,L::H0.stk⟩ w n sp)(hR:cC H0 A (n+2)){k:Nat}{x:aB}:Vo H0 w A (.ref x) (λζ=>False) id (xQ sp k) (λζ I ρ ζ=>cq I ρ (.obj k) (.ref x)) where
 own:=λζ ζ ζ ζ ζ ζ h=>h.elim
 keep:=λζ ζ ζ ζ ζ ζ ζ ζ ζ ζ ζ h x ζ=>h.leZ x
 next:=by
  intro R v R' I ρ s E hs G hx
  have hs:lN sp k R=some (v,R'):=hs
  obtain⟨gs,hr⟩:=Bz hs
  obtain⟨p,es,j,hp,hxp,_,_,Ia,_,hF⟩:=nk G hr hx
  cases hxp
  have hf:=wO w.params
  simp only [bd,beq_iff_eq]at hf
  obtain⟨⟨⟨⟨⟨f1,f2⟩,f3⟩,f4⟩,f5⟩,f6⟩:=hf
  unfold fR
  refine aa (nR (special_fn (name:="__next__") (args:=[]) (G.baseAt B).k Ia f3 f4 (fj (Vf B hsp hR G hx hs (λy hy u' s' q=>?_) λhy e s' I' ρ' st hT=>?_))))
  ·subst hy
   obtain⟨I',ρ',st,hu⟩:=q
   exact ab ⟨I',ρ',st.z,u',rfl,hu,hx.le st⟩
  ·subst hy
   refine aa (kQ hT AO ?_)
   exact ab ⟨I',ρ',st.z,rfl⟩
theorem yg{k:Nat}(m:Nat):∀(R:List aO) {ys:List PV} {R':List aO},kt (λR=>lN sp k R) m R=some (ys,R')->rz (xQ sp k) R ys R':=by
 induction m with
 | zero=>exact λR ζ ζ h=>nomatch h
 | succ m ih=>
  intro R ys R' h
  obtain⟨v,R1,e,h⟩:=gF h
  cases v with
  | none=>
   cases h
   exact .done e
  | some v=>
   obtain⟨zs,R2,e2,h⟩:=gF (x:=kt (λR=>lN sp k R) m R1) (k:=λys R''=>some (v::ys,R'')) h
   cases h
   exact .item e (ih R1 e2)
theorem a8.addfresh(x:a8 H0 X I ρ s I' ρ' R' s'){D:aB}{o:jf}(hz:s.heap.get? D=none)(hd:s'.heap.get? D=some o)(hn:¬fL I' ρ' D)(hs:D ∉ H0.stk):a8 H0 X I ρ s (jV I' D o) ρ' R' s':=by
 have hI:I' D=none:=by
  cases e:I' D with
  | none=>rfl
  | some o=>exact absurd (av (by rw [e];exact λh=>nomatch h)) hn
 refine⟨λa o' e=>nt hI a o' (x.le a o' e),x.pre,λa h=>?_,x.keep,x.alive,x.good.addfact hd hn hs,x.os,x.gens⟩
 by_cases ha:a=D
 ·subst ha;exact an hz
 ·rcases h with h | h
  ·unfold jV at h
   rw [if_neg ha]at h
   exact x.new a (av h)
  ·exact x.new a (an h)
theorem aY.addle{D:aB}{o:jf}{l:List PV}{xs:List af}(hn:¬fL I ρ D)(h:aY I ρ l xs):aY (jV I D o) ρ l xs:=by
 have hI:I D=none:=by
  cases e:I D with
  | none=>rfl
  | some o=>exact absurd (av (by rw [e];exact λh=>nomatch h)) hn
 have:=aY.mono (δ:=[]) (nt (o:=o) hI) l xs h
 rwa [aP]at this
theorem Kc{k:Nat}{u v:af}(h:cq I ρ (.obj k) u)(h':cq I ρ (.obj k) v):u=v:=by
 obtain⟨p,h1,rfl⟩:=h
 obtain⟨q,h2,rfl⟩:=h'
 rw [h1]at h2
 cases h2
 rfl
theorem B0(B:dy w H0.heap)(hsp:∀L,dB ⟨H0.heap,L::H0.stk⟩ w n sp)(hR:cC H0 A.in1 (n+2)){k:Nat}{x D:aB}{c:Nat}{res:af}{ys:List PV}{gs:List (Str × PV)}(G:Gd H0 I ρ R s.heap)(hx:cq I ρ (.obj k) (.ref x))(hr:R[k]? = some (.inst 872 gs))
  (hD:s.heap.get? D=some (cF #[] c))(ho:¬fL I ρ D)(dr:rz (xQ sp k) R ys R')(hys:ys.length<=SZ){RR:fS->ag->Prop}
  (hQ:∀I' ρ' s' vs c',aS H0 eb (λa=>a=D) I ρ s I' ρ' R' s'->s'.heap.get? D=some (cF (bk vs) c')->¬fL I' ρ' D->aY I' ρ' ys vs->RR (.ok (.ret res)) s') :
  ar (ay pw w) A.in1 (dL (.ref D) (.ref x) res) (λfin s'=>match fin with | .done f=>RR (.ok f) s' | .again c'=>c'.quiet=true/\cB (ay pw w) A c' RR s') (λe s'=>RR (.error e) s') s:=by
 obtain⟨p,es,j,hp,hxp,_,_,Ia,_,hF⟩:=nk G hr hx
 cases hxp
 have hf:=wO w.params
 simp only [bd,beq_iff_eq]at hf
 obtain⟨⟨⟨⟨⟨f1,f2⟩,f3⟩,f4⟩,f5⟩,f6⟩:=hf
 have hDx:D≠p.1:=λq=>ho (an ⟨p,be hp,av q⟩)
 unfold dL
 refine aa (Ia.type.here ?_)
 have h2:su (.ref D) (.ref p.1)=false:=beq_eq_false_iff_ne.mpr hDx
 rw [if_neg (by rw [h2];decide)]
 refine aa (EP (G.baseAt B).k Ia f1 f2 (fj (Vg B hR G hx λv s1 q=>?_)))
 obtain⟨I1,ρ1,x1,hv⟩:=q
 have hx1:=hx.le x1
 cases Kc hx1 hv
 obtain⟨p1,es1,j1,hp1,hxp1,_,_,Ia1,_,hF1⟩:=nk x1.good hr hx1
 injection hxp1 with hxp1
 rw [<-hxp1]at Ia1
 have G1:=x1.good
 have hD1:=x1.kept hD (bM rfl) (λq=>ho (an q)) id
 have ho1:¬fL I1 ρ1 D:=λq=>(x1.new D q).elim ho (λq=>by rw [hD]at q;cases q)
 refine jo (G1.baseAt B).k Ia1 f3 ⟨⟨_,rfl⟩,?_⟩
 refine aa (aW ?_)
 unfold qz
 refine aa (jo (G1.baseAt B).k Ia1 f5 ?_)
 dsimp only
 refine lT rfl ?_
 refine lT rfl ?_
 refine aa (jo (G1.baseAt B).k Ia1 f6 ?_)
 dsimp only
 refine ab ?_
 refine HF rfl ?_
 refine aa (iX ?_)
 refine aa ?_
 unfold tz
 refine aa (m:=jW D (·.push .none)) (cw hD1 rfl ?_ (by rw [sizeLine_eq];decide) (by rw [sizeLine_eq];decide))
 have hp2:=eN (c:="list") (xs := #[]) hD1 (·.push .none)
 refine cw (s:={ s1 with heap:=s1.heap.update D (bC (·.push .none)) }) hp2 rfl ?_ (by rw [sizeLine_eq];decide) (by rw [sizeLine_eq];decide)
 have hp3:=eN (c:="list") hp2 (·.pop)
 generalize hh2:(s1.heap.update D (bC (·.push .none))).update D (bC (·.pop))=h2 at hp3 ⊢
 have hk2:∀b o,b≠D->s1.heap.get? b=some o->h2.get? b=some o:=λb o hb e=>by
  rw [<-hh2]
  exact(aD _ _ hb.symm).trans ((aD _ _ hb.symm).trans e)
 obtain⟨c3,hp3⟩:∃c3,h2.get? D=some (cF (bk []) c3):=⟨_,hp3⟩
 have z:aS H0 eb (λa=>a=D) I1 ρ1 s1 I1 ρ1 R { s1 with heap:=h2 }:=aS.quiet G1 (λa ha=>ha▸ho1) (λa o ha e=>hk2 a o ha e) rfl rfl (λa ha=>ha▸G1.notStk hD1 (bM rfl))
 have Dr:=K5 (A:=A.in1) B hsp hR (k:=k) (x:=p.1)
 refine ab ⟨bT jg _,w7 (D:=D) Dr id dr I1 ρ1 { s1 with heap:=h2 } [] c3 [] z.good (hx1.leZ z) hp3 ho1 aY.nil (by simpa using hys) (λI' ρ' s' zs c' y hD' hoD hr'=>?_)⟩
 exact hQ I' ρ' s' zs c' (aS.trans G x1.z (aS.trans G1 z (y.moreZ λa h=>h.elim nC id))) hD' hoD (by simpa using hr')
theorem Fb(B:dy w H0.heap){n0:Nat}(hn0:n0+2<=n)(hsp:∀L,dB ⟨H0.heap,L::H0.stk⟩ w n0 sp){g:Str}{np pos:dN}{k m:Nat}{gs:List (Str × PV)}{ys:List PV}(hg:gl cx g=true)(hgv:eZ g=some (.type "list"))(h1:dM H0 w n cx e σ R (.obj k) R1)(hr:R1[k]? = some (.inst 872 gs))
  (hs:∀env:d9,bS [e] env=[(false,ed e env)])(hd:kt (λR=>lN sp k R) m R1=some (ys,R2))(hv:mkL ys=some v):dM H0 w n cx (.Call (.Name g np) [e] [] pos) σ R v R2:=by
 intro A E I ρ env s hR G O
 obtain⟨hyl,rfl⟩:=oq hv
 refine mY (hs env) (db (cz B G O hg hgv ?_) (c9 O (O.glo g hg)))
 refine callWith_type1 (h1.then hR G O λI1 ρ1 u s1 x1 hu O1 G1=>?_)
 have hu0:=hu
 obtain⟨p,hp,rfl⟩:=hu
 have hRoom:cC H0 A.in1.in1 (n0+2):=⟨hR.1,by have:=hR.2.1;show A.depth+_<=_;exact Wt hn0 this,by have:=hR.2.2.1;show A.units+1+1+_<=_;exact Ws hn0 this,hR.2.2.2⟩
 have hn:=cu s1.heap
 have hno:=bA G1 hn
 refine callType_codes (Q₁:=λobj s₁=>obj = .ref s1.heap.objs.size/\s₁={ s1 with heap:=s1.heap.push { cls:=.type "list",data:=.seq #[] } }) F.called_list (F.typeCall_list_1 _) F.entry_list_init
  (code_list_new _ ⟨rfl,rfl⟩) λobj s₂ h₁=>?_
 obtain⟨rfl,rfl⟩:=h₁
 have hS:(s1.heap.push { cls:=.type "list",data:=.seq #[] }).get? s1.heap.objs.size=some (cF #[] 0):=aU _ rfl
 generalize s1.heap.objs.size=D at hn hno hS ⊢
 have hk:∀b o,s1.heap.get? b=some o->(s1.heap.push { cls:=.type "list",data:=.seq #[] }).get? b=some o:=λb o e=>au _ e
 generalize s1.heap.push { cls:=.type "list",data:=.seq #[] }=h2 at hS hk ⊢
 refine⟨⟨_,hS,rfl⟩,F.args_list_init_2 _ _,?_⟩
 have st:a8 H0 eb I1 ρ1 s1 I1 ρ1 R1 { s1 with heap:=h2 }:=a8.quiet G1 nb (λa o ζ e=>hk a o e) (λa ha=>ha.elim) rfl rfl
 show ar _ A.in1.in1 (do let old <-tA (.ref D);sY (.ref D) (λζ => #[]);letGo old.toList.reverse;dL (.ref D) (.ref p.1) .none) _ _ _
 refine aa ?_
 unfold tA
 refine aa (c0 hS rfl (ab ?_))
 show ar _ A.in1.in1 (jW D (λζ => #[])>>=λζ=>letGo (#[]:Array af).toList.reverse>>=λζ=>dL (.ref D) (.ref p.1) .none) _ _ _
 refine aa (cw hS rfl ?_ (by rw [sizeLine_eq];decide) (by rw [sizeLine_eq];decide))
 have hS2:=eN (c:="list") (xs := #[]) (n:=0) hS (λζ=>(#[]:Array af))
 refine aa (dS ?_)
 obtain⟨c2,hS2⟩:∃c2,(h2.update D (bC λζ=>(#[]:Array af))).get? D=some (cF #[] c2):=⟨_,hS2⟩
 have z:aS H0 eb (λa=>a=D) I1 ρ1 { s1 with heap:=h2 } I1 ρ1 R1 { s1 with heap:=h2.update D (bC λζ=>(#[]:Array af)) }:=
  aS.quiet st.good (λa ha=>ha▸hno) (λa o ha e=>(aD _ _ (λq=>ha q.symm)).trans e) rfl rfl (λa ha=>ha▸st.good.notStk hS (bM rfl))
 refine B0 (A:=A.in1) (s:={ s1 with heap:=h2.update D (bC λζ=>(#[]:Array af)) }) (RR:=wants (λr s₂=>r = .none/\fM H0 I ρ s (.list ys) R2 (.ref D) s₂) E) B hsp hRoom z.good hu0 hr hS2 hno (yg m R1 hd) hyl λI' ρ' s' vs c' y hD' hoD hrr=>⟨rfl,?_⟩
 have zz:a8 H0 eb I1 ρ1 s1 I' ρ' R2 s':=aS.close G1 st (aS.trans st.good z y) (λa ha=>ha▸hn)
 have x2:a8 H0 eb I ρ s I' ρ' R2 s':=x1.trans G zz
 have hDs:s.heap.get? D=none:=by
  cases e:s.heap.get? D with
  | none=>rfl
  | some q=>exact absurd hn (x1.alive D (by rw [e];exact λh=>nomatch h))
 have x3:=x2.addfresh hDs hD' hoD (zz.good.notStk hD' (bM rfl))
 refine⟨_,ρ',x3,?_⟩
 exact⟨hyl,D,vs,c',rfl,by unfold jV;rw [if_pos rfl],hrr.addle hoD⟩
theorem Kj(P:dZ):peek (KK pw P) ⟨pw,P⟩ (Bind.madeBy (.ref 737))=some none:=∅
theorem KD(P:dZ):peek (KK pw P) ⟨pw,P⟩ (MC "object.__new__" (.ref 737))=some ():=∅
theorem G9(P:dZ):peek (KK pw P) ⟨pw,P⟩ (mroOf (.ref 737))=some [.ref 737,.ref 260,.ref 233,.type "object"]:=∅
theorem ES(P:dZ):peek (KK pw P) ⟨pw,P⟩ (FV (.ref 737))=some true:=∅
theorem Gm(P:dZ):peek (KK pw P) ⟨pw,P⟩ (kU (.ref 737) (.ref 737))=some true:=∅
theorem MJ(P:dZ):peek (KK pw P) ⟨pw,P⟩ (kU (.ref 737) (.type "object"))=some true:=∅
theorem q9(P:dZ):(kj (KK pw P) (.ref 737) "__init__"==some (some (.ref 507))&&AJ (KK pw P) (.ref 507)==some (.type "function")&&AJ (KK pw P) (.ref 737)==some (.type "type")&&(recIn (KK pw P) 234 "staticmethod").map (·.head?)==some (some (.ref 230))
 && specialIn (KK pw P) (.ref 737) "__call__"==some (some (.builtin "type.__call__"))&&instIn (KK pw P) (.ref 737) (.type "type")==some true&&keepIn (KK pw P) (.ref 737))=true:=∅
theorem M7(P:dZ):findCls (KK pw P) (.ref 737) (.type "type") "__new__"=some (.get (.builtin "staticmethod.__get__") (.ref 234) .none (.ref 737)):=∅
theorem Da(P:dZ):(makesIn (KK pw P) 872&&kj (KK pw P) (.ref 872) "__init__"==some (some (.ref 796))&&AJ (KK pw P) (.ref 796)==some (.type "function")&&keepIn (KK pw P) (.ref 872))=true:=∅
theorem NZ(P:dZ):peek (KK pw P) ⟨pw,P⟩ (pr "object.__new__" ⟨[.ref 737],[]⟩)=some ():=∅
theorem yo(P:dZ):((KK pw P).lookup 737).any (λo=>match o.data with | .cls cd =>!cd.abstract && !cd.hasDel && !cd.mro.isEmpty | _=>false)=true:=∅
theorem Ey(B:dy w s.heap){RR:fS->ag->Prop}(hq:RR (.ok (.ret (.ref (s.heap.objs.size+1)))) { s with heap:=(s.heap.push gP).push (nK 737 s.heap.objs.size) }) :
  cB (ay pw w) A (.call (.builtin "object.__new__") ⟨[.ref 737],[]⟩) RR s:=by
 obtain⟨h,g,d,t,os⟩:=s
 have X:=B.k
 have F:=PySem.F.objNew
 have here:qp (ay pw w) h (MC "object.__new__" (.ref 737)) ():=fD X (KD _)
 have mro:qp (ay pw w) h (mroOf (.ref 737)) _:=fD X (G9 _)
 have typ:qp (ay pw w) h (FV (.ref 737)) true:=fD X (ES _)
 have self:qp (ay pw w) h (kU (.ref 737) (.ref 737)) true:=fD X (Gm _)
 have top:qp (ay pw w) h (kU (.ref 737) (.type "object")) true:=fD X (MJ _)
 have hi:=q9 w.params
 simp only [bd,beq_iff_eq]at hi
 have typ2:qp (ay pw w) h (Mp (.ref 737) (.type "type")) true:=looks_instIn X hi.1.2
 obtain⟨o,ho,hc⟩:=AR (yo w.params)
 obtain⟨oc,od,dat,sl⟩:=o
 cases dat with
 | cls cd=>
  simp only [bd,cG]at hc
  obtain⟨⟨e1,e2⟩,e4⟩:=hc
  have hC:=X _ _ ho
  refine codeAny_call_builtin_code (rC _ F.quiet) ?_
  refine(fD (M:=ay pw w) X (NZ _)).here ?_
  refine bB F.entry ?_
  unfold Builtin.«object.__new__»
  have fin:∀A',ar (ay pw w) A' (do
    let d <-if typeHasDict (.ref 737)then some <$> alloc { cls:=.type "dict",data:=.dict #[] }else b7 none
    ret (<-newObj (.ref 737) .plain d)) (λfin s'=>match fin with | .done f=>RR (.ok f) s' | .again c'=>c'.quiet=true/\cB (ay pw w) A c' RR s') (λe s'=>RR (.error e) s') ⟨h,g,d,t,os⟩:=by
   intro A'
   show ar _ _ ((alloc gP>>=λx=>b7 (some x))>>=_) _ _ _
   refine aa (aa (Jr (ab (aa ?_))))
   show ar _ _ (newObjAsIs _ _ _) _ _ _
   unfold newObjAsIs classHasDel
   refine aa (Jr (aa (aa (pQ (au _ (au _ hC)) (ab ?_)))))
   rw [e2]
   refine ab (ab ?_)
   show RR _ _
   rw [iy]
   exact hq
  repeat (first | simp only [e1,bne_self_eq_false,a0,if_false,qA] | exact fin _ | lk)
 | _=>cases hc
theorem KM(K:Frag):findCls K (.type "object") (.type "type") "__new__"=some (.val (.builtin "object.__new__")):=∅
theorem vS:Mk (.type "object")=b7 (.type "type"):=∅
theorem zl:Manifest.isStub "object"=false:=∅
theorem zU(B:dy w s.heap){pl:vN Bool}{Q:af × List af->ag->Prop}(h:Q (.builtin "object.__new__",[]) { s with toks:=s.toks+1 }):ar (ay pw w) A (getMethod (.type "object") "__new__" pl) Q E s:=by
 have X:=B.k
 have hstub:pj (.type "object")=b7 none:=by unfold pj;dsimp only;rw [zl];rfl
 have L0:qp (ay pw w) s.heap (Mk (.type "object")) (.type "type"):=Lw vS
 have hg:kj (KK pw w.params) (.type "type") "__getattribute__"=some (some (.builtin "type.__getattribute__")):=type_tga
 unfold getMethod pi
 refine aa (aa (L0.here ((FU X hg).here ?_)))
 dsimp only
 rw [if_pos canon_tga]
 refine aa (ao (Q:=λv=>Q (v,[])) (E:=E) ?_ (λζ ζ z=>ab z) λζ ζ z=>z)
 have LO:qp (ay pw w) s.heap (pj (.type "object")) none:=Lw hstub
 refine cls_open X LO L0 hg (looks_hook X (r:=none) (by rfl)) (by show subIn _ _ _=_;rfl) (KM _)
  (ab (by show ar _ _ (handedOut (.builtin "object.__new__")) _ _ _;rw [handedOut_of (by decide+kernel)];exact ab h))
theorem zB{C:aB}(G:Gd H0 I ρ R s.heap):fM H0 I ρ s (.obj R.length) (R++[.inst C []]) (.ref (s.heap.objs.size+1)) { s with heap:=(s.heap.push gP).push (nK C s.heap.objs.size) }:=by
 have hn:s.heap.get? s.heap.objs.size=none:=cu s.heap
 have hn1:s.heap.get? (s.heap.objs.size+1)=none:=by
  cases e:s.heap.get? (s.heap.objs.size+1)with
  | none=>rfl
  | some o=>exact absurd (c8 e) (dj.mpr (cX _))
 have e1:((s.heap.push gP).push (nK C s.heap.objs.size)).get? s.heap.objs.size=some gP:=au _ (aU _ rfl)
 have e2:((s.heap.push gP).push (nK C s.heap.objs.size)).get? (s.heap.objs.size+1)=some (nK C s.heap.objs.size):=by
  have:=aU (s.heap.push gP) (o:=nK C s.heap.objs.size) rfl
  rwa [iy]at this
 have st:=a8.recd (X:=eb) (s':={ s with heap:=(s.heap.push gP).push (nK C s.heap.objs.size) }) (p:=(s.heap.objs.size+1,s.heap.objs.size)) (r:=.inst C []) G hn1 hn
  (λb o e=>au _ (au _ e)) ⟨dW (dz _),e2,bo _,[],0,e1,rfl⟩ rfl rfl
 refine⟨_,_,st,?_⟩
 refine⟨(s.heap.objs.size+1,s.heap.objs.size),?_,rfl⟩
 rw [<-G.len,bH (aF _),eW]
 rfl
theorem E8(B:dy w H0.heap){np apos cp pos:dN}(hg:gl cx "object"=true)(hgc:gl cx "cls"=false)(hσ:σ.lookup ("cls":Str)=some (.val (.ref 737)))(hline:(apos.endLine==pos.line)=true) :
  dM H0 w n cx (.Call (.Attribute (.Name "object" np) "__new__" apos) [.Name "cls" cp] [] pos) σ R (.obj R.length) (R++[.inst 737 []]):=by
 intro A E I ρ env s hR G O
 rw [arm_eval_Call]
 have hbase:fJ (.Name "object" np) "__new__" env (ed (.Name "object" np) env)=ed (.Name "object" np) env:=rfl
 rw [hbase]
 refine aa (db (cz B G O hg (v:=.type "object") (by decide+kernel) (aa (fu ?_))) (c9 O (O.glo _ hg)))
 have hpos:lu true (.Name "object" np) env apos pos=b7 pos:=by unfold lu;simp [hline]
 unfold methodCall
 show ar _ A (do
  let (f,first) <-kh [lE "object"] (calleeOf true (.Name "object" np) env (.type "object") "__new__")
  let callPos <-lu true (.Name "object" np) env apos pos
  Jt callPos f first (hO pos (bS [.Name "cls" cp] env)) []) _ E s
 refine aa (aW (zU (G.baseAt B) ?_))
 refine aa (ci hpos ?_)
 have hev:dM H0 w n cx (.Name "cls" cp) σ R (.val (.ref 737)) R:=nn hσ
 have st:a8 H0 eb I ρ s I ρ R { s with toks:=s.toks+1 }:=a8.toks G nb _
 refine callWith_builtin_kwB rfl rfl (evalArgs_kwB rfl ?_)
 refine fI (ao (hev.then hR st.good (O.step st) λI1 ρ1 u s1 x1 hu O1 G1=>?_) (λζ ζ h₁=>hH h₁) λζ ζ e=>e)
 refine nH ?_
 cases hu
 show ar _ A (call (.builtin "object.__new__") [.ref 737] []) _ E s1
 exact fj (Ey (G1.baseAt B) (fM.mono_ G (st.trans G x1) (zB G1)))
set_option tactic.hygienic true in
theorem yY{α:Type}{K:Frag}{M:vO}{Q:α->ag->Prop}{o:jf}(X:K.In s.heap):∀(t:vN α) (g:aB->vN α),AN K ⟨M.prog,M.w.params⟩ t=some (o,g) ->
   ar M A (g s.heap.objs.size) Q E { s with heap:=s.heap.push o }->ar M A t Q E s:=by
 intro t
 induction t with
 | rule _ k ih=>intro g e q Γ p hΓ;exact ih () g e q Γ p hΓ
 | point _ k ih=>intro g e q Γ p hΓ;exact ih () g e q Γ p hΓ
 | ask k ih=>intro g e q Γ p hΓ;exact ih _ g e q Γ p hΓ
 | load a _ k ih=>
  intro g e q Γ p hΓ
  simp only [AN]at e
  split at e
  ·rename_i ob ho;exact⟨ob,X _ _ ho,ih ob g e q Γ p hΓ⟩
  ·cases e
 | alloc ob k _=>
  intro g e q
  have e:some (ob,k)=some (o,g):=e
  obtain⟨e1,e2⟩:=eQ (aV e)
  subst e1
  subst e2
  show ar M A (alloc ob>>=k) Q E s
  exact aa (Jr q)
 | _=>intro g e;cases e
set_option backward.match.sparseCases true in
theorem HL{d:FD}(K:Lq d)(hlaw:(d.scope.names.lookup ("met":Str)==some .cell)=false){f:aB}{qual:Str}{cd:aB}(hR:cC H0 A (n+2)){binds:List (Str × af)}{σ0:bq}{s1:ag}(G:Gd H0 I ρ R s.heap)(x1:a8 H0 eb I ρ s I' ρ' R s1)(B:dy w H0.heap)(hrel:fW I' ρ' σ0 binds)(hnd:(σ0.map (·.1)).Nodup)
  (hpar:∀x∈σ0,d.scope.names.lookup x.1=some .local\/d.scope.names.lookup x.1=some .cell){RR:fS->ag->Prop}
  (hbody:∀(I1:dC) (ρ1:dH) (env:d9) (s2:ag),b4 I1 ρ1 ⟨d.scope.names,R.length⟩ σ0 env s2.heap->Gd ⟨H0.heap,env.locals::H0.stk⟩ I1 ρ1 R s2.heap->cC ⟨H0.heap,env.locals::H0.stk⟩ (A.deeper env) (n+1)->env.frame=some env.locals->(∀b,kK env b->s.heap.get? b=none) ->
   a8 H0 eb I ρ s I1 ρ1 R s2->ar (ay pw w) (A.deeper env) (execs d.body env) (λg s'=>RR (.ok (.ret (match g with | .ret v=>v | _=>.none))) s')
    (λe s'=>ar (ay pw w) (A.deeper env) (leaving env e) (λζ s''=>RR (.error e) s'') (λe' s''=>RR (.error e') s'') s') s2) :
   ar (ay pw w) A.in1 (kg d.scope da [] binds (qual++".<locals>.") (some f) (.ref cd) none jK)
    (λenv s₂=>s₂.heap.NoLimit/\cB (ay pw w) A (.func d.body env) RR s₂) (λe s'=>RR (.error e) s') s1:=by
 have G1:=x1.good
 have hkd:∀y∈binds,d.scope.names.lookup y.1=some .local\/(d.scope.names.lookup y.1=some .cell/\((pt (s1.heap.objs.size+1) d.scope.names []).lookup y.1).isSome=true):=λy hy=>by
  have hm:y.1∈σ0.map (·.1):=by rw [<-hrel.names];exact dE hy
  obtain⟨z,hz,hz'⟩:=aH.mp hm
  have:=hpar z hz
  rw [hz']at this
  rcases this with h | h
  ·exact av h
  ·exact an ⟨h,jy y.1 _ _ _ (av (mem_of_lookup h))⟩
 refine mM K.kind hkd λenv henv s2 x2=>?_
 have O2:=vr K hrel hnd hpar G1 henv x2 (λq=>by rw [q]at hlaw;cases hlaw)
 have x12:a8 H0 eb I' ρ' s1 I' ρ' R s2:=by
  obtain⟨h',tk,e⟩:=x2.toInCall.same
  exact a8.quiet G1 nb (λa o ζ e=>x2.toInCall.keep a o e) (λζ h=>h.elim) (by rw [e]) (by rw [e])
 have x02:=x1.trans G x12
 have G2:=x12.good
 have hfm:env.frame=some env.locals:=by rw [henv];rfl
 have hkm:env.scope.kind ≠ .module:=by rw [henv];show d.scope.kind≠_;rw [K.kind];decide
 have hfr:∀b,kK env b->s.heap.get? b=none:=λb hb=>by
  have hle:s1.heap.objs.size<=b:=by
   rcases hb with rfl | ⟨y,hy⟩
   ·rw [henv];exact aF _
   ·have:=x2.above y b (mem_of_lookup hy)
    rw [henv]at this
    exact bg this
  cases e':s.heap.get? b with
  | none=>rfl
  | some o'=>
   exfalso
   refine x1.alive b (by rw [e'];exact λh=>nomatch h) ?_
   cases e'':s1.heap.get? b with
   | none=>rfl
   | some o''=>exact absurd (c8 e'') (dj.mpr hle)
 have hst:sN s2.heap env.locals:=by
  obtain⟨m,⟨o,es,ep,q1,q2,_⟩,_⟩:=O2.ns
  exact⟨o,es,ep,q1,q2⟩
 refine⟨(G2.baseAt B).lim,codeAny_func ?_⟩
 exact hbody I' ρ' env s2 O2 (G2.push (O2.sep _ (av rfl)) hst) (hR.deeper env hfm hkm) hfm hfr x02
noncomputable abbrev jv:FD:=br (bK pw 31 1)
noncomputable def r3:FD:={ jv with params:=bO }
theorem OI:zY r3=true:=∅
theorem Vl:∃p1 p2 p3 p4 p5 p6 p7 tb p8 p9 apos p10 pos p11,jv.body=[.If (.BoolOp .And [.Compare (.Name "cls" p1) [.IsNot] [.Name "BytesIO" p2] p3,.Compare (.Name "cls" p4) [.IsNot] [.Name "StringIO" p5] p6] p7) tb [] p8,.Return (some (.Call (.Attribute (.Name "object" p9) "__new__" apos) [.Name "cls" p10] [] pos)) p11]/\apos.endLine=pos.line:=⟨_,_,_,_,_,_,_,_,_,_,_,_,_,_,rfl,rfl⟩
theorem UY:(jv.scope.names.lookup ("cls":Str)==some .local&&jv.scope.names.lookup ("args":Str)==some .local&&jv.scope.names.lookup ("kwargs":Str)==some .local&&jv.scope.names.lookup ("object":Str)==some .globalImplicit&&jv.scope.names.lookup ("BytesIO":Str)==some .globalImplicit&&jv.scope.names.lookup ("StringIO":Str)==some .globalImplicit)=true:=∅
theorem U0(P:dZ):(KK pw P).lookup 230=some (eh jv "IOBase.__new__" .none (.str "io" 571) 229):=∅
theorem Vh:((229:aB),("IOBase.__new__":Str))∈CQ:=by unfold CQ;repeat (first | exact F4 _ | apply F3)
noncomputable abbrev rZ:FuncData:=fnOf jv.name "IOBase.__new__" jv.params jv.body jv.scope .none .none .none (.str "io" 571) none (.ref 229) .none
theorem OF(P:dZ)(u:af):(AN (KK pw P) ⟨pw,P⟩ (rH rZ ⟨[.ref 737,u],[]⟩)).map (·.1)=some { cls:=.type "tuple",data:=.seq #[u] }:=∅
theorem OE(P:dZ)(u:af)(D:aB):(AN (KK pw P) ⟨pw,P⟩ (rH rZ ⟨[.ref 737,u],[]⟩)).bind (λp=>(AN (KK pw P) ⟨pw,P⟩ (p.2 D)).map (·.1))=some gP:=∅
theorem OD(P:dZ)(u:af)(D D':aB):(AN (KK pw P) ⟨pw,P⟩ (rH rZ ⟨[.ref 737,u],[]⟩)).bind (λp=>(AN (KK pw P) ⟨pw,P⟩ (p.2 D)).bind λq=>peek (KK pw P) ⟨pw,P⟩ (q.2 D'))=some [(("cls":Str),jY 737),("args",.ref D),("kwargs",.ref D')]:=∅
theorem IH(X:(KK pw w.params).In s.heap){u:af}{Q:List (Str × af)->ag->Prop}(h:∀D D',Q [(("cls":Str),jY 737),("args",.ref D),("kwargs",.ref D')] { s with heap:=(s.heap.push { cls:=.type "tuple",data:=.seq #[u] }).push gP }) :
  ar (ay pw w) A (rH rZ ⟨[.ref 737,u],[]⟩) Q E s:=by
 have h1:=OF w.params u
 have h2:=OE w.params u
 have h3:=OD w.params u
 cases e1:AN (KK pw w.params) ⟨pw,w.params⟩ (rH rZ ⟨[.ref 737,u],[]⟩)with
 | none=>rw [e1]at h1;cases h1
 | some p=>
  obtain⟨o,g⟩:=p
  rw [e1]at h1 h2 h3
  simp only [iZ,gH]at h1
  subst h1
  have X1:(KK pw w.params).In (s.heap.push { cls:=.type "tuple",data:=.seq #[u] }):=X.keeps λb o e=>au _ e
  refine yY (M:=ay pw w) X _ g e1 ?_
  have h2:=h2 s.heap.objs.size
  have h3:=h3 s.heap.objs.size
  simp only [gj]at h2 h3
  cases e2:AN (KK pw w.params) ⟨pw,w.params⟩ (g s.heap.objs.size)with
  | none=>rw [e2]at h2;cases h2
  | some q=>
   obtain⟨o2,g2⟩:=q
   rw [e2]at h2 h3
   simp only [iZ,gH]at h2
   subst h2
   refine yY (M:=ay pw w) (s:={ s with heap:=s.heap.push { cls:=.type "tuple",data:=.seq #[u] } }) X1 _ g2 e2 ?_
   have h3:=h3 (s.heap.push { cls:=.type "tuple",data:=.seq #[u] }).objs.size
   simp only [gj]at h3
   exact(fD (M:=ay pw w) (h:=(s.heap.push { cls:=.type "tuple",data:=.seq #[u] }).push gP) (X1.keeps λb o e=>au _ e) h3).here (s:={ s with heap:=(s.heap.push { cls:=.type "tuple",data:=.seq #[u] }).push gP }) (h _ _)
theorem Ag{x y:Str}{p1 p2:dN}{b:aB}(B:dy w H0.heap)(hx:gl cx x=false)(hσ:σ.lookup x=some (.val (.ref 737)))(hy:gl cx y=true)(hgy:eZ y=some (.ref b))(hb:b=737\/b=490) :
  On H0 w n cx (.Name x p1) .IsNot (.Name y p2) σ R (b != 737) R:=by
 have e1:dM H0 w n cx (.Name x p1) σ R (.val (.ref 737)) R:=nn hσ
 have e2:dM H0 w n cx (.Name y p2) σ R (.val (.ref b)) R:=tQ B hy hgy
 refine⟨rfl,λA E I ρ env s hR G O=>?_⟩
 refine e1.then hR G O λI1 ρ1 u1 s1 x1 hu1 O1 G1=>e2.then hR G1 O1 λI2 ρ2 u2 s2 x2 hu2 O2 G2=>?_
 cases hu1
 cases hu2
 show ar _ A (do return dT (!(<-xk (.ref 737) (.ref b)))) _ E s2
 refine aa ?_
 rcases hb with rfl | rfl
 ·exact wpAny_isSame_ref_self (ab (fM.mono_ G (x1.trans G x2) (ef G2 jq)))
 ·obtain⟨o1,ho1,hc1⟩:=AR (yo w.params)
  obtain⟨o2,ho2⟩:=(G2.baseAt B).e
  refine wpAny_isSame_ref_other (by decide) ((G2.baseAt B).k _ _ ho1) ho2 (λq=>?_) (ab (fM.mono_ G (x1.trans G x2) (ef G2 jq)))
  have hi:=q9 w.params
  simp only [bd,beq_iff_eq]at hi
  have:=hi.1.1.1.1.2
  have:=aV ((congrArg (Option.map Obj.cls) ho1).symm.trans this)
  rw [q]at this
  exact absurd this (by decide)
theorem Qf(B:dy w H0.heap)(hR:cC H0 A (n+2))(G:Gd H0 I ρ R s.heap){u:af}{RR:fS->ag->Prop}(h:∀v s',fM H0 I ρ s (.obj R.length) (R++[.inst 737 []]) v s'->RR (.ok (.ret v)) s') :
  cB (ay pw w) A (.call (.ref 230) ⟨[.ref 737,u],[]⟩) RR s:=by
 have B':=G.baseAt B
 have K:=rX OI
 have hd0:A.depth<AM:=by
  have:=hR.2.1
  show A.depth<1000
  exact UU this
 refine Jc (fd:=rZ) hd0 (B'.k _ _ (U0 _)) rfl K.co K.gen rfl (B'.c _ Vh) ?_
 refine IH B'.k λD D'=>?_
 have x1:a8 H0 eb I ρ s I ρ R { s with heap:=(s.heap.push { cls:=.type "tuple",data:=.seq #[u] }).push gP }:=a8.quiet G nb (λa o ζ e=>au _ (au _ e)) (λζ h=>h.elim) rfl rfl
 have hn:=UY
 simp only [bd,beq_iff_eq]at hn
 obtain⟨⟨⟨⟨⟨n1,n2⟩,n3⟩,n4⟩,n5⟩,n6⟩:=hn
 refine HL (d:=r3) (σ0:=[("cls",.val (.ref 737)),("args",.val (.ref D)),("kwargs",.val (.ref D'))]) K ∅ hR G x1 B ?_ (by show([("cls":Str),("args":Str),("kwargs":Str)]).Nodup;decide) ?_ λI1 ρ1 env s2 O2 G2 hR2 ζ hfr x02=>?_
 ·exact⟨_,_,rfl,rfl,_,_,rfl,rfl,_,_,rfl,rfl,rfl⟩
 ·intro x hx
  simp only [aw,bJ,or_false]at hx
  rcases hx with rfl | rfl | rfl
  ·exact av n1
  ·exact av n2
  ·exact av n3
 ·show ar _ _ (execs jv.body env) _ _ _
  obtain⟨p1,p2,p3,p4,p5,p6,p7,tb,p8,p9,apos,p10,pos,p11,hb,hline⟩:=Vl
  have hv:fF ("cls":Str) [(("cls":Str),PV.val (.ref 737)),("args",.val (.ref D)),("kwargs",.val (.ref D'))]=some (.val (.ref 737)):=by simp
  generalize hσ:[(("cls":Str),PV.val (.ref 737)),("args",.val (.ref D)),("kwargs",.val (.ref D'))]=σ0 at hv O2
  have gcls:gl ⟨r3.scope.names,R.length⟩ "cls"=false:=by show(jv.scope.names.lookup ("cls":Str)==some .globalImplicit)=false;rw [n1];rfl
  have gob:gl ⟨r3.scope.names,R.length⟩ "object"=true:=by show(jv.scope.names.lookup ("object":Str)==some .globalImplicit)=true;rw [n4];rfl
  have gby:gl ⟨r3.scope.names,R.length⟩ "BytesIO"=true:=by show(jv.scope.names.lookup ("BytesIO":Str)==some .globalImplicit)=true;rw [n5];rfl
  have gst:gl ⟨r3.scope.names,R.length⟩ "StringIO"=true:=by show(jv.scope.names.lookup ("StringIO":Str)==some .globalImplicit)=true;rw [n6];rfl
  generalize jv.body=body at hb ⊢
  subst hb
  ·skip
   have B2:dy w (⟨H0.heap,env.locals::H0.stk⟩:Bs).heap:=B
   have cp1:=Ag (H0:=⟨H0.heap,env.locals::H0.stk⟩) (n:=n) (R:=R) (p1:=p1) (p2:=p2) (b:=490) B2 gcls hv gby (by decide+kernel) (an rfl)
   have cp2:=Ag (H0:=⟨H0.heap,env.locals::H0.stk⟩) (n:=n) (R:=R) (p1:=p4) (p2:=p5) (b:=737) B2 gcls hv gst (by decide+kernel) (av rfl)
   have tt:=Gb (pos:=p7) (nX (op:=.And) (i9 (pos:=p3) cp1) (by decide) (j4 (es:=[]) (i9 (pos:=p6) cp2) (by decide)))
   have e1:=LY (pos:=p8) (ss:=tb) (ts:=[]) (c:=(737:aB) != 737) tt Dy
   have e2:=oX (pos:=p11) (ks:=[]) (E8 (H0:=⟨H0.heap,env.locals::H0.stk⟩) (n:=n) (R:=R) (np:=p9) (cp:=p10) B2 gob gcls hv (by rw [hline];exact beq_self_eq_true _))
   have e3:=HT e1 (rf (ss:=[]) e2 (λq=>nomatch q))
   refine ao (e3 _ (λζ ζ=>False) I1 ρ1 env s2 hR2 G2 O2) (λg s3 q=>?_) λζ ζ e=>e.elim
   obtain⟨I3,ρ3,x3,O3,hfl⟩:=q
   obtain⟨u',rfl,hu'⟩:=hfl
   exact h u' s3 ⟨I3,ρ3,a8.back G x02 x3 hfr,hu'⟩
theorem cC.under{H0:Bs}{A:bD}{n:Nat}{C:aB}{vs:List af}{kw:List (Str × af)}(h:cC H0 A (n+1)):cC H0 (A.under (.builtin "type.__call__" ⟨.ref C::vs,kw⟩)) n:=by
 obtain⟨l,h1,h2,h3⟩:=h.2.2.2
 refine⟨h.1,by have:=h.2.1;show A.depth+1+_<=_;exact o8 this,by have:=h.2.2.1;show A.units+1+_<=_;exact o4 this,l,?_,h2,h3⟩
 show pushEnvs [] A.frames=some l
 rw [h1]
 rfl
theorem M6(B:dy w H0.heap)(hsp:dB H0 w n sp)(hR:cC H0 A (n+1))(G:Gd H0 I ρ R s.heap){pos:List PV}{kw:List (Str × PV)}{pvs:List af}{kvs:List (Str × af)}(hp:aY I ρ pos pvs)(hk:Lp I ρ kw kvs)
  (hc:sp 796 (.obj R.length::pos) kw (R++[.inst 872 []])=some (.none,R2)) :
  cB (ay pw w) A (.call (.ref 872) ⟨pvs,kvs⟩) (λr s'=>match r with | .ok (.ret u)=>fM H0 I ρ s (.obj R.length) R2 u s' | .ok _=>False | .error e=>E e s') s:=by
 have X:=(G.baseAt B).k
 have hm:=Da w.params
 simp only [bd,beq_iff_eq]at hm
 obtain⟨⟨⟨m1,m2⟩,m3⟩,m4⟩:=hm
 obtain⟨h,g,d,t,os⟩:=s
 refine make_core (makes_of X m1) (FU X m2) (λself=>bind_fn X self m3) (.inl rfl) ?_
 obtain⟨I1,ρ1,x1,hu⟩:=zB (C:=872) G
 obtain⟨δ,hδ⟩:=x1.pre
 refine gm (hsp 796 _ kw _ _ _ hc _ E I1 ρ1 _ (.ref (h.objs.size+1)::pvs) kvs hR.under x1.good ?_ ⟨hk.1,hk.2.le x1⟩) λr s' z=>?_
 ·exact⟨_,pvs,rfl,hu,hp.le x1⟩
 ·rcases r with e | fl
  ·exact z
  ·cases fl with
   | ret v=>
    obtain⟨I2,ρ2,x2,hv⟩:=z
    exact⟨hv,I2,ρ2,x1.trans G x2,hu.le x2⟩
   | _=>exact z
theorem E1(B:dy w s.heap){Q:af->ag->Prop}(h:Q (.ref 230) { s with toks:=s.toks+1 }):ar (ay pw w) A (vK (.ref 737) "__new__") Q E s:=by
 have X:=B.k
 obtain⟨m,hns,hm⟩:=B.t
 have LO:qp (ay pw w) s.heap (pj (.ref 737)) none:=λA Q E s' k q=>aa (aa (wpAny_nsGet (hns.keeps k) (by rw [hm];exact ab (ab q))))
 have hi:=q9 w.params
 simp only [bd,beq_iff_eq]at hi
 obtain⟨⟨⟨⟨⟨⟨i1,i2⟩,i3⟩,i4⟩,i5⟩,i6⟩,i7⟩:=hi
 have hn:=M7 w.params
 obtain⟨rest,hrec⟩:∃rest,recIn (KK pw w.params) 234 "staticmethod"=some (.ref 230::rest):=by
  cases hq:recIn (KK pw w.params) 234 "staticmethod" with
  | none=>rw [hq]at i4;cases i4
  | some l=>
   rw [hq]at i4
   cases l with
   | nil=>cases i4
   | cons a q=>
    simp only [iZ,List.head?_cons,gH]at i4
    subst i4
    exact⟨q,rfl⟩
 have hg:kj (KK pw w.params) (.type "type") "__getattribute__"=some (some (.builtin "type.__getattribute__")):=type_tga
 refine cls_open X LO (looks_typeIn X i3) hg (looks_hook X (r:=none) (by rfl)) (by show subIn _ _ _=_;rfl) hn ?_
 exact aa (aW (fj (sm_get (s:={ s with toks:=s.toks+1 }) X hrec (ab (ab h)))))
theorem Ez(B:dy w H0.heap)(hsp:dB H0 w n sp)(hR:cC H0 A (n+3))(G:Gd H0 I ρ R s.heap){a:PV}{u:af}(hp:cq I ρ a u)
  (hc:sp 507 [.obj R.length,a] [] (R++[.inst 737 []])=some (.none,R2)) :
  cB (ay pw w) A (.call (.ref 737) ⟨[u],[]⟩) (λr s'=>match r with | .ok (.ret u)=>fM H0 I ρ s (.obj R.length) R2 u s' | .ok _=>False | .error e=>E e s') s:=by
 have B':=G.baseAt B
 have X:=B'.k
 have hi:=q9 w.params
 simp only [bd,beq_iff_eq]at hi
 obtain⟨⟨⟨⟨⟨⟨i1,i2⟩,i3⟩,i4⟩,i5⟩,i6⟩,i7⟩:=hi
 have mro:qp (ay pw w) s.heap (mroOf (.ref 737)) _:=fD X (G9 _)
 have made:qp (ay pw w) s.heap (Bind.madeBy (.ref 737)) none:=fD X (Kj _)
 have typ:qp (ay pw w) s.heap (Mp (.ref 737) (.type "type")) true:=looks_instIn X i6
 have call:qp (ay pw w) s.heap (pi (.ref 737) "__call__") _:=looks_specialIn X i5
 obtain⟨o,ho,hcd⟩:=AR (yo w.params)
 obtain⟨oc,od,dat,sl⟩:=o
 cases dat with
 | cls cd=>
  have hC:=X _ _ ho
  refine qn ?_
  show ar _ _ (callAny (.ref 737) _) _ _ _
  refine nd_load hC ?_
  show ar _ _ (CD (.ref 737) _) _ _ _
  unfold CD
  refine aa (call.here ?_)
  dsimp only
  rw [tc_bind]
  refine aa (ab (aa (ab ?_)))
  refine ab (a:=Fin.again (.call (.builtin "type.__call__") ⟨.ref 737::[u],[]⟩)) (t8 rfl ?_)
  refine codeAny_call_builtin_at (rC _ (by decide+kernel)) entry_typeCall (check_slot tc_kind tc_split typ (tc_args _ _ _) ?_)
  unfold Builtin.«type.__call__»
  have newf:∀{A':bD} {Q:af->ag->Prop},Q (.ref 230) { s with toks:=s.toks+1 }->ar (ay pw w) A' (vK (.ref 737) "__new__") Q E s:=E1 B'
  repeat (first | simp only [a0,if_false,List.isEmpty_cons] | with_reducible refine fj ?_ | with_reducible refine newf ?_ | lk)
  have st:a8 H0 eb I ρ s I ρ R { s with toks:=s.toks+1 }:=a8.toks G nb _
  refine Qf (s:={ s with toks:=s.toks+1 }) B hR.under st.good λv s' q=>?_
  obtain⟨I1,ρ1,x1,hv⟩:=q
  have x01:=st.trans G x1
  have G1:=x1.good
  have hr:(R++[aO.inst 737 []])[R.length]? = some (.inst 737 []):=by rw [bH (aF _),eW];rfl
  have hv0:=hv
  obtain⟨p,es,j,hpp,rfl,_,_,Ia,_,hF⟩:=nk G1 hr hv
  have X1:=(G1.baseAt B).k
  have self:qp (ay pw w) s'.heap (kU (.ref 737) (.ref 737)) true:=fD X1 (Gm _)
  unfold Mp
  refine aa (aa (Ia.type.here (self.here ?_)))
  rw [if_neg (by decide)]
  refine aa (aW (special_fn X1 Ia i1 i2 (fj ?_)))
  refine gm (hsp 507 _ [] _ _ _ hc _ E I1 ρ1 _ [.ref p.1,u] [] (hR.under.le (by exact Wr)) G1 ?_ ⟨rfl,by exact aY.nil⟩) λr s'' z=>?_
  ·exact⟨_,_,rfl,hv0,_,_,rfl,hp.le x01,rfl⟩
  ·rcases r with e | fl
   ·exact z
   ·cases fl with
    | ret v=>
     obtain⟨I2,ρ2,x2,hv2⟩:=z
     cases hv2
     refine ab ?_
     exact⟨I2,ρ2,x01.trans G x2,hv0.le x2⟩
    | _=>exact z.elim
 | _=>cases hcd
theorem gd{env:d9}{es:List Expr}(h:eL e=true):bS (e::es) env=(false,ed e env)::bS es env:=by
 cases e<;>first | rfl | cases h
theorem Gp{env:d9}:∀{es:List Expr},(∀e∈es,eL e=true)->bS es env=es.map λe=>(false,ed e env):=by
 intro es
 induction es with
 | nil=>
  intro _
  exact rfl
 | cons e es ih=>
  intro h
  rw [gd (h e (.head _)),ih λx hx=>h x (.tail _ hx)];rfl
theorem jz{env:d9}{pos:dN}{es:List Expr}(h:∀e∈es,eL e=true):hO pos (bS es env)=es.map λe=>(false,ed e env):=by
 rw [Gp h]
 unfold hO
 rw [aI]
 rfl
theorem rq{env:d9}{pos:dN}{es:List Expr}(h:∀e∈es,eL e=true):(hO pos (bS es env)).any (·.1)=false:=by
 rw [jz h,List.any_map]
 exact List.any_eq_false.mpr λx ζ=>(by exact bc)
noncomputable def I8(H0:Bs)(w:bF)(n:Nat)(cx:Cx)(ks:List cS)(σ:bq)(R:List aO)(v:List (Str × PV))(R':List aO):Prop:=
 ks.map (·.arg)=v.map (λx=>some x.1) /\ ∀(A:bD) (E:af->ag->Prop) (I:dC) (ρ:dH) (env:d9) (pos:dN) (s:ag),cC H0 A (n+1)->Gd H0 I ρ R s.heap->b4 I ρ cx σ env s.heap ->
  ar (ay pw w) A (evalAll ((Jv pos (yF ks env)).map (·.2))) (Av H0 I ρ s (v.map (·.2)) R') E s
theorem KT:I8 H0 w n cx [] σ R [] R:=⟨rfl,λA E I ρ env pos s hR G O=>nH (by exact⟨I,ρ,a8.self G nb,by exact aY.nil⟩)⟩
theorem H1{x:Str}{kp:dN}{ks:List cS}{vs:List (Str × PV)}(h1:dM H0 w n cx e σ R v R1)(h2:I8 H0 w n cx ks σ R1 vs R2):I8 H0 w n cx (⟨some x,e,kp⟩::ks) σ R ((x,v)::vs) R2:=by
 refine⟨by rw [aN,aN,h2.1],λA E I ρ env pos s hR G O=>?_⟩
 refine Mo (h1.then hR G O λI1 ρ1 u s1 x1 hu O1 G1=>?_)
 refine ao (h2.2 A E I1 ρ1 env pos s1 hR G1 O1) (λus s2 q=>?_) λζ ζ e=>e
 obtain⟨I2,ρ2,x2,hus⟩:=q
 refine⟨I2,ρ2,x1.trans G x2,?_⟩
 exact⟨u,us,rfl,hu.le x2,hus⟩
theorem zM{env:d9}{pos:dN}:∀(ks:List cS),(Jv pos (yF ks env)).map (·.1)=ks.map (·.arg)
 | []=>rfl
 | ⟨x,e,p⟩::ks=>by
  rw [arm_keywordEach_cons]
  show x::(Jv pos (yF ks env)).map (·.1)=x::ks.map (·.arg)
  rw [zM ks]
theorem wQ{α:Type}:∀{l:List (Option Str × α)} {v:List Str},l.map (·.1)=v.map some->l.filterMap (·.1)=v/\l.all (·.1.isSome)=true/\l.any (·.1.isNone)=false
 | [],[],_=>⟨rfl,rfl,rfl⟩
 | [],_::_,h=>by cases h
 | _::_,[],h=>by cases h
 | (x,a)::l,y::v,h=>by
  simp only [aN,dF]at h
  obtain⟨rfl,h⟩:=h
  obtain⟨h1,h2,h3⟩:=wQ h
  refine⟨by simp [h1],by simp only [Mz,h2];rfl,by simp only [qw,h3];rfl⟩
theorem E9(B:dy w H0.heap)(hsp:dB H0 w n sp){g:Str}{np pos:dN}{es:List Expr}{ks:List cS}{vs:List PV}{kvs:List (Str × PV)}(hg:gl cx g=true)(hgv:eZ g=some (.ref 872))(hns:∀x∈e::es,eL x=true)(h1:qm H0 w n cx (e::es) σ R vs R1)
  (h2:I8 H0 w n cx ks σ R1 kvs R2)(hc:sp 796 (.obj R2.length::vs) kvs (R2++[.inst 872 []])=some (.none,R3)):dM H0 w n cx (.Call (.Name g np) (e::es) ks pos) σ R (.obj R2.length) R3:=by
 intro A E I ρ env s hR G O
 refine fk (db (cz B G O hg hgv ?_) (c9 O (O.glo g hg)))
 have hm:=Da w.params
 simp only [bd,beq_iff_eq]at hm
 obtain⟨hn1,hn2,hn3⟩:=wQ (l:=Jv pos (yF ks env)) (v:=kvs.map (·.1)) (by rw [zM,h2.1,aI];rfl)
 refine callWith_KW (K:=KK pw w.params) (h₀:=s.heap) (G.baseAt B).k hm.2 hn2 ?_ (by rw [rq hns,hn3];rfl) (gd (hns e (.head _)))
 refine h1.then hR G O λI1 ρ1 us s1 x1 hus O1 G1=>?_
 refine ao (h2.2 A E I1 ρ1 env pos s1 hR G1 O1) (λuk s2 q=>?_) λζ ζ e=>e
 obtain⟨I2,ρ2,x2,huk⟩:=q
 refine⟨(x2.good.baseAt B).k,?_⟩
 rw [hn1,ew]
 have hlen:uk.length=(kvs.map (·.1)).length:=by rw [huk.length,ae,ae]
 refine fj (gm (M6 (E:=E) B hsp hR x2.good (hus.le x2) (kvs:=(kvs.map (·.1)).zip uk) ⟨?_,?_⟩ hc) λr s' z=>?_)
 ·rw [List.map_fst_zip (by rw [hlen];exact aF _)]
 ·rw [Jf (by rw [hlen];exact aF _)]
  exact huk
 ·rcases r with e | fl
  ·exact z
  ·cases fl with
   | ret v=>exact fM.mono_ G (x1.trans G x2) z
   | _=>exact z
theorem Fa(B:dy w H0.heap){n0:Nat}(hn0:n0+2<=n)(hsp:dB H0 w n0 sp){g:Str}{np pos:dN}{a:PV}(hg:gl cx g=true)(hgv:eZ g=some (.ref 737))(hns:eL e=true)(h1:dM H0 w n cx e σ R a R1)
  (hc:sp 507 [.obj R1.length,a] [] (R1++[.inst 737 []])=some (.none,R2)):dM H0 w n cx (.Call (.Name g np) [e] [] pos) σ R (.obj R1.length) R2:=by
 intro A E I ρ env s hR G O
 refine fk (db (cz B G O hg hgv ?_) (c9 O (O.glo g hg)))
 have hm:=q9 w.params
 simp only [bd,beq_iff_eq]at hm
 have hns':∀x∈[e],eL x=true:=λx hx=>by rw [aC]at hx;subst hx;exact hns
 refine callWith_K (K:=KK pw w.params) (h₀:=s.heap) (G.baseAt B).k hm.2 ?_ (gd hns) rfl
 rw [jz hns']
 refine fI (ao (h1.then hR G O λI1 ρ1 u s1 x1 hu O1 G1=>?_) (λζ ζ h₁=>hH h₁) λζ ζ e=>e)
 refine⟨(G1.baseAt B).k,fj (gm (Ez (E:=E) B hsp (hR.le (by exact Wq hn0)) G1 hu hc) λr s' z=>?_)⟩
 rcases r with e | fl
 ·exact z
 ·cases fl with
  | ret v=>exact fM.mono_ G x1 z
  | _=>exact z
theorem sD(a b c:LS):(!decide (b<a))=true->(!decide (c<b))=true->(!decide (c<a))=true:=by
 simp only [cG,decide_eq_false_iff_not,mu]
 exact λh1 h2=>Mx h1 h2
theorem zJ(a b:LS):((!decide (b<a))||(!decide (a<b)))=true:=by
 simp only [fT,cG,decide_eq_false_iff_not,mu]
 exact My a b
theorem BE(a b:LS)(h1:(!decide (b<a))=true)(h2:(!decide (a<b))=true):a=b:=by
 simp only [cG,decide_eq_false_iff_not,mu]at h1 h2
 exact Jg h1 h2
theorem xD:∀(l:List Str),sortedS l=true->(l.map ls).Pairwise λa b=>(!decide (b<a))=true:=by
 intro l
 induction l with
 | nil=>
  intro _
  exact List.Pairwise.nil
 | cons x r ih=>
  intro h
  have key:∀(r:List Str) (x:Str),risingS x r=true->((x::r).map ls).Pairwise λa b=>(!decide (b<a))=true:=by
   intro r
   induction r with
   | nil=>intro x _;exact List.pairwise_singleton _ _
   | cons y r ih=>
    intro x h
    simp only [risingS,bd]at h
    have hy:=ih y h.2
    rw [ltCps_eq]at h
    rw [aN]
    refine lG.mpr ⟨λz hz=>?_,hy⟩
    rw [aN]at hz hy
    rcases aw.mp hz with rfl | hz
    ·exact h.1
    ·exact sD _ _ _ h.1 ((lG.mp hy).1 z hz)
  exact key r x h
theorem zn{l l':List LS}(hp:l.Perm l')(hs:l.Pairwise λa b=>(!decide (b<a))=true):l=fZ l':=
 tX (λa b ζ ζ=>BE a b) hs (jl sD zJ l') (hp.trans (gn _ _).symm)
theorem Bc:∀{lt:List (Str × tU)},StrsAre (ba lt) (lt.map (·.1)):=by
 intro lt
 induction lt with
 | nil=>
  exact .nil
 | cons xq r ih=>
  obtain⟨x,t⟩:=xq
  exact .cons x t ih
theorem zu{vs:List af}{ss:List Str}(h:StrsAre vs ss):(∀x∈ss,(ls x).length<=SZ/\ja (ls x)=true)->aY I ρ ((ss.map ls).map .str) vs:=by
 induction h with
 | nil=>exact λζ=>aY.nil
 | cons x t h ih=>
  intro hs
  obtain⟨h1,h2⟩:=hs x (.head _)
  exact aY.cons (wg x▸oQ h1 h2) (ih λy hy=>hs y (.tail _ hy))
theorem ux{D:aB}{l:List PV}{xs:List af}{k:Nat}(G:Gd H0 I ρ R s.heap)(hn:s.heap.get? D=none)(hd:s'.heap.get? D=some (cF (bk xs) k))(hk:∀b o,s.heap.get? b=some o->s'.heap.get? b=some o)
  (os:s'.os=s.os)(gens:s'.gens=s.gens)(hr:aY I ρ l xs)(hl:l.length<=SZ):fM H0 I ρ s (.list l) R (.ref D) s':=by
 have st:=a8.fact (X:=eb) G hn hd hk os gens
 refine⟨_,_,st,?_⟩
 exact⟨hl,D,xs,k,rfl,if_pos rfl,hr.le st⟩
theorem D5(G:Gd H0 I ρ R s.heap){l:List PV}{ss:List LS}{u:af}(hu:cq I ρ (.list l) u)(hss:ft l=some ss)(h64:ss.length<64) :
  ar (ay pw w) A (call (.builtin "sorted") [u]) (fM H0 I ρ s (.list ((fZ ss).map .str)) R) E s:=by
 obtain⟨hl,a,xs,k,rfl,hI,hr⟩:=hu
 obtain⟨lt,rfl,k2,k3⟩:=xA hr hss
 have hat:=G.imm _ _ hI
 have hlen:(ba lt).length=ss.length:=by
  have:=congrArg bX k2
  rw [ae,ae]at this
  rw [<-this]
  unfold ba
  rw [ae]
 refine sorted_strs ⟨_,hat,rfl,k,rfl⟩ Bc (by rw [hlen];exact h64) λout ss' h1 h2 h3=>?_
 obtain⟨e,he⟩:=sortedAll_at s.heap (ba lt) out
 have hperm:(ss'.map ls).Perm ss:=by
  have:=h2.map ls
  rw [k2,aI]at this
  have e2:ls∘S=id:=funext λx=>PI x
  rwa [e2,mv]at this
 have hsort:=zn hperm (xD _ h3)
 have hlen':(fZ ss).length=ss.length:=(gn _ _).length_eq
 rw [<-hsort]
 have hn:s.heap.get? (s.heap.objs.size+1)=none:=by
  cases e:s.heap.get? (s.heap.objs.size+1)with
  | none=>rfl
  | some o=>exact absurd (c8 e) (dj.mpr (cX _))
 refine ux (s':={ s with heap:=sortedAll s.heap (ba lt) out }) (D:=s.heap.objs.size+1) (xs:=out.toList) (k:=e) G hn (by show(sortedAll s.heap (ba lt) out).get? _=_;rw [he,Array.toArray_toList]) (λb o e=>sortedAll_old e) rfl rfl (zu h1 λx hx=>k3 _ (hperm.mem_iff.mp (dE hx))) ?_
 rw [ae,hsort,hlen']
 exact bg (bI h64 (by decide))
noncomputable def s8{α:Type} [LT α] [DecidableEq α] [DecidableLT α](a b:List α):Bool:=decide (a<b)
noncomputable def tK{α:Type} [LT α] [DecidableEq α] [DecidableLT α](a b:List α):Bool:=decide (b<a)
noncomputable abbrev xz(m n:Nat):Bool:=decide (m<n)
noncomputable abbrev zi(m n:Nat):Bool:=decide (m>n)
theorem Km{bs:List (Str × tU)}{i:Nat}(h:i<=bs.length):xz i bs.length=s8 [] ((bs.map λx=>ls x.1).drop i):=by
 rcases eX i bs.length with q | q
 ·rw [bY (by simpa using q)]
  simp [s8,xz,q]
 ·rw [List.drop_of_length_le (by simpa using q)]
  have:¬i<bs.length:=by exact Wp q
  simp [s8,xz,this]
theorem KF{bs:List (Str × tU)}{i:Nat}(h:i<=bs.length):zi i bs.length=tK [] ((bs.map λx=>ls x.1).drop i):=by
 have:¬i>bs.length:=by exact Wo h
 simp [tK,zi,this]
theorem EG{a:LS}{r:List LS}{i j:Nat}(h:j<i):xz i j=s8 (a::r) []:=by
 have:¬i<j:=by exact Wn h
 simp [s8,xz,this]
theorem EY{a:LS}{r:List LS}{i j:Nat}(h:j<i):zi i j=tK (a::r) []:=by
 simp [tK,zi,h]
theorem ED(l b:aB)(lt lt2:List (Str × tU))(n n2:Nat)(k:Nat) :
  ∀i:Nat,lt.length-i=k->i<=lt.length->i<=lt2.length->AX (Builtin.«list.__eq__.loop» ⟨[.ref l,.ref b,gz i,gz 0],[]⟩)
   (λA R s=>s.heap.get? l=some (cF (ba lt).toArray n)/\s.heap.get? b=some (cF (ba lt2).toArray n2)/\R (.ok (.ret (.bool (s8 ((lt.map λx=>ls x.1).drop i) ((lt2.map λx=>ls x.1).drop i))))) s):=by
 have len1:(ba lt).toArray.size=lt.length:=by simp [ba]
 have len2:(ba lt2).toArray.size=lt2.length:=by simp [ba]
 induction k with
 | zero=>
  intro i hk h1 h2 prog w A R s h
  obtain⟨hp,g,d,tk,os⟩:=s;obtain⟨hl,hb,h⟩:=h
  have hil:i=lt.length:=by exact Vx hk h1
  subst hil
  wp_walk using aE hl,aE hb
  have hi1:(ba lt).toArray[((lt.length:Nat):Int).toNat]? = none:=by simp [ba]
  have hd:(lt.map λx=>ls x.1).drop lt.length=[]:=by simp
  rw [hd]at h
  rw [hi1]
  wp_walk using aE hl,aE hb
  show R (.ok (.ret (.bool (xz (ba lt).toArray.size (ba lt2).toArray.size)))) _
  rw [len1,len2]
  have:(xz lt.length lt2.length)=s8 [] ((lt2.map λx=>ls x.1).drop lt.length):=by
   exact Km (by simpa using h2)
  rw [this]
  exact h
 | succ k ih=>
  intro i hk h1 h2 prog w A R s h
  obtain⟨hp,g,d,tk,os⟩:=s;obtain⟨hl,hb,h⟩:=h
  have hlt:i<lt.length:=by exact Q8 hk
  have hi1:(ba lt).toArray[((i:Nat):Int).toNat]? = some (.str lt[i].1 lt[i].2):=by simp [ba,hlt]
  have hd:(lt.map λx=>ls x.1).drop i=ls lt[i].1::(lt.map λx=>ls x.1).drop (i+1):=by rw [bY (by simpa using hlt)];simp
  have hc:((i:Int)+1)=((i+1:Nat):Int):=by push_cast;rfl
  rw [hd]at h
  rcases eX i lt2.length with hlt2 | hge
  ·have hi2:(ba lt2).toArray[((i:Nat):Int).toNat]? = some (.str lt2[i].1 lt2[i].2):=by simp [ba,hlt2]
   have hd2:(lt2.map λx=>ls x.1).drop i=ls lt2[i].1::(lt2.map λx=>ls x.1).drop (i+1):=by rw [bY (by simpa using hlt2)];simp
   rw [hd2]at h
   wp_walk using aE hl,aE hb
   rw [hi1,hi2]
   refine aa (eqBool_str ?_)
   cases hb':lt[i].1==lt2[i].1 with
   | true=>
    wp_walk
    rw [hc]
    have he:ls lt[i].1=ls lt2[i].1:=by rw [aJ hb']
    have:s8 (ls lt[i].1::(lt.map λx=>ls x.1).drop (i+1)) (ls lt2[i].1::(lt2.map λx=>ls x.1).drop (i+1))=s8 ((lt.map λx=>ls x.1).drop (i+1)) ((lt2.map λx=>ls x.1).drop (i+1)):=by
     rw [he]
     simp [s8,tK,dK,wm]
    rw [this]at h
    exact⟨bT cY _,bB iU (by
     rw [bh cY _]
     exact ih (i+1) (by exact Vw hk) hlt hlt2 prog w A R _ ⟨hl,hb,h⟩)⟩
   | false=>
    have hne:ls lt[i].1≠ls lt2[i].1:=λq=>by
     have:lt[i].1=lt2[i].1:=by rw [<-wg lt[i].1,<-wg lt2[i].1,q]
     rw [this]at hb'
     simp at hb'
    have:s8 (ls lt[i].1::(lt.map λx=>ls x.1).drop (i+1)) (ls lt2[i].1::(lt2.map λx=>ls x.1).drop (i+1))=s8 (ls lt[i].1) (ls lt2[i].1):=by
     have hne':=di hne
     simp [s8,tK,dK,hne,hne']
    rw [this]at h
    wp_walk using aE hl,aE hb
    rw [hi1,hi2]
    refine aa (P.lt_str (x:=lt[i].1) (y:=lt2[i].1) ?_)
    wp_walk
    exact h
  ·have hil:i=lt2.length:=by exact OL h2 hge
   subst hil
   have hi2:(ba lt2).toArray[((lt2.length:Nat):Int).toNat]? = none:=by simp [ba]
   have hd2:(lt2.map λx=>ls x.1).drop lt2.length=[]:=by simp
   rw [hd2]at h
   wp_walk using aE hl,aE hb
   rw [hi1,hi2]
   wp_walk using aE hl,aE hb
   show R (.ok (.ret (.bool (xz (ba lt).toArray.size (ba lt2).toArray.size)))) _
   rw [len1,len2]
   have:(xz lt.length lt2.length)=s8 (ls lt[lt2.length].1::(lt.map λx=>ls x.1).drop (lt2.length+1)) []:=by
    exact EG (by exact Vv hlt)
   rw [this]
   exact h
theorem zI(l b:aB)(lt lt2:List (Str × tU))(n n2:Nat):AX (Builtin.«list.__lt__» ⟨[.ref l,.ref b],[]⟩)
   (λA R s=>s.heap.get? l=some (cF (ba lt).toArray n)/\s.heap.get? b=some (cF (ba lt2).toArray n2)/\R (.ok (.ret (.bool (s8 (lt.map λx=>ls x.1) (lt2.map λx=>ls x.1))))) s):=by
 intro prog w A R s h
 obtain⟨hp,g,d,tk,os⟩:=s;obtain⟨hl,hb,h⟩:=h
 have f3:=wq
 wp_walk using aE hl,aE hb
 exact⟨bT cY _,bB iU (by
  rw [bh cY _]
  exact ED l b lt lt2 n n2 _ 0 rfl (bo _) (bo _) prog w A R _ ⟨hl,hb,by simpa using h⟩)⟩
theorem Kk{l b:aB}{lt lt2:List (Str × tU)}{n n2:Nat}{Q:af->ag->Prop}(hl:s.heap.get? l=some (cF (ba lt).toArray n))(hb:s.heap.get? b=some (cF (ba lt2).toArray n2))(hu:A.units<cLine)
  (h:Q (.bool (s8 (lt.map λx=>ls x.1) (lt2.map λx=>ls x.1))) s):ar (ay pw w) A (lA .Lt (.ref l) (.ref b)) Q E s:=
 FQ (op:=.Lt) ⟨_,hl,rfl⟩ ⟨_,hb,rfl⟩ F.slot_list_lt F.entry_list_lt (F.args_list_lt_2 _ _) (zI l b lt lt2 n n2)
  ⟨hl,hb,show dT _≠AS/\Q (.bool _) s from⟨(λx=>nomatch x),h⟩⟩ hu
theorem EX(l b:aB)(lt lt2:List (Str × tU))(n n2:Nat)(k:Nat) :
  ∀i:Nat,lt.length-i=k->i<=lt.length->i<=lt2.length->AX (Builtin.«list.__eq__.loop» ⟨[.ref l,.ref b,gz i,gz 4],[]⟩)
   (λA R s=>s.heap.get? l=some (cF (ba lt).toArray n)/\s.heap.get? b=some (cF (ba lt2).toArray n2)/\R (.ok (.ret (.bool (tK ((lt.map λx=>ls x.1).drop i) ((lt2.map λx=>ls x.1).drop i))))) s):=by
 have len1:(ba lt).toArray.size=lt.length:=by simp [ba]
 have len2:(ba lt2).toArray.size=lt2.length:=by simp [ba]
 induction k with
 | zero=>
  intro i hk h1 h2 prog w A R s h
  obtain⟨hp,g,d,tk,os⟩:=s;obtain⟨hl,hb,h⟩:=h
  have hil:i=lt.length:=by exact Vx hk h1
  subst hil
  wp_walk using aE hl,aE hb
  have hi1:(ba lt).toArray[((lt.length:Nat):Int).toNat]? = none:=by simp [ba]
  have hd:(lt.map λx=>ls x.1).drop lt.length=[]:=by simp
  rw [hd]at h
  rw [hi1]
  wp_walk using aE hl,aE hb
  show R (.ok (.ret (.bool (zi (ba lt).toArray.size (ba lt2).toArray.size)))) _
  rw [len1,len2]
  have:(zi lt.length lt2.length)=tK [] ((lt2.map λx=>ls x.1).drop lt.length):=by
   exact KF (by simpa using h2)
  rw [this]
  exact h
 | succ k ih=>
  intro i hk h1 h2 prog w A R s h
  obtain⟨hp,g,d,tk,os⟩:=s;obtain⟨hl,hb,h⟩:=h
  have hlt:i<lt.length:=by exact Q8 hk
  have hi1:(ba lt).toArray[((i:Nat):Int).toNat]? = some (.str lt[i].1 lt[i].2):=by simp [ba,hlt]
  have hd:(lt.map λx=>ls x.1).drop i=ls lt[i].1::(lt.map λx=>ls x.1).drop (i+1):=by rw [bY (by simpa using hlt)];simp
  have hc:((i:Int)+1)=((i+1:Nat):Int):=by push_cast;rfl
  rw [hd]at h
  rcases eX i lt2.length with hlt2 | hge
  ·have hi2:(ba lt2).toArray[((i:Nat):Int).toNat]? = some (.str lt2[i].1 lt2[i].2):=by simp [ba,hlt2]
   have hd2:(lt2.map λx=>ls x.1).drop i=ls lt2[i].1::(lt2.map λx=>ls x.1).drop (i+1):=by rw [bY (by simpa using hlt2)];simp
   rw [hd2]at h
   wp_walk using aE hl,aE hb
   rw [hi1,hi2]
   refine aa (eqBool_str ?_)
   cases hb':lt[i].1==lt2[i].1 with
   | true=>
    wp_walk
    rw [hc]
    have he:ls lt[i].1=ls lt2[i].1:=by rw [aJ hb']
    have:tK (ls lt[i].1::(lt.map λx=>ls x.1).drop (i+1)) (ls lt2[i].1::(lt2.map λx=>ls x.1).drop (i+1))=tK ((lt.map λx=>ls x.1).drop (i+1)) ((lt2.map λx=>ls x.1).drop (i+1)):=by
     rw [he]
     simp [s8,tK,dK,wm]
    rw [this]at h
    exact⟨bT cY _,bB iU (by
     rw [bh cY _]
     exact ih (i+1) (by exact Vw hk) hlt hlt2 prog w A R _ ⟨hl,hb,h⟩)⟩
   | false=>
    have hne:ls lt[i].1≠ls lt2[i].1:=λq=>by
     have:lt[i].1=lt2[i].1:=by rw [<-wg lt[i].1,<-wg lt2[i].1,q]
     rw [this]at hb'
     simp at hb'
    have:tK (ls lt[i].1::(lt.map λx=>ls x.1).drop (i+1)) (ls lt2[i].1::(lt2.map λx=>ls x.1).drop (i+1))=tK (ls lt[i].1) (ls lt2[i].1):=by
     have hne':=di hne
     simp [s8,tK,dK,hne,hne']
    rw [this]at h
    wp_walk using aE hl,aE hb
    rw [hi1,hi2]
    refine aa (P.gt_str (x:=lt[i].1) (y:=lt2[i].1) ?_)
    wp_walk
    exact h
  ·have hil:i=lt2.length:=by exact OL h2 hge
   subst hil
   have hi2:(ba lt2).toArray[((lt2.length:Nat):Int).toNat]? = none:=by simp [ba]
   have hd2:(lt2.map λx=>ls x.1).drop lt2.length=[]:=by simp
   rw [hd2]at h
   wp_walk using aE hl,aE hb
   rw [hi1,hi2]
   wp_walk using aE hl,aE hb
   show R (.ok (.ret (.bool (zi (ba lt).toArray.size (ba lt2).toArray.size)))) _
   rw [len1,len2]
   have:(zi lt.length lt2.length)=tK (ls lt[lt2.length].1::(lt.map λx=>ls x.1).drop (lt2.length+1)) []:=by
    exact EY (by exact Vv hlt)
   rw [this]
   exact h
theorem HH(l b:aB)(lt lt2:List (Str × tU))(n n2:Nat):AX (Builtin.«list.__gt__» ⟨[.ref l,.ref b],[]⟩)
   (λA R s=>s.heap.get? l=some (cF (ba lt).toArray n)/\s.heap.get? b=some (cF (ba lt2).toArray n2)/\R (.ok (.ret (.bool (tK (lt.map λx=>ls x.1) (lt2.map λx=>ls x.1))))) s):=by
 intro prog w A R s h
 obtain⟨hp,g,d,tk,os⟩:=s;obtain⟨hl,hb,h⟩:=h
 have f3:=wq
 wp_walk using aE hl,aE hb
 exact⟨bT cY _,bB iU (by
  rw [bh cY _]
  exact EX l b lt lt2 n n2 _ 0 rfl (bo _) (bo _) prog w A R _ ⟨hl,hb,by simpa using h⟩)⟩
theorem KE{l b:aB}{lt lt2:List (Str × tU)}{n n2:Nat}{Q:af->ag->Prop}(hl:s.heap.get? l=some (cF (ba lt).toArray n))(hb:s.heap.get? b=some (cF (ba lt2).toArray n2))(hu:A.units<cLine)
  (h:Q (.bool (tK (lt.map λx=>ls x.1) (lt2.map λx=>ls x.1))) s):ar (ay pw w) A (lA .Gt (.ref l) (.ref b)) Q E s:=
 FQ (op:=.Gt) ⟨_,hl,rfl⟩ ⟨_,hb,rfl⟩ F.slot_list_gt F.entry_list_gt (F.args_list_gt_2 _ _) (HH l b lt lt2 n n2)
  ⟨hl,hb,show dT _≠AS/\Q (.bool _) s from⟨(λx=>nomatch x),h⟩⟩ hu
noncomputable def wL(s:List LS):PV:=.list (s.map .str)
theorem zm:∀{l:List PV} {ss:List LS},ft l=some ss->l=ss.map .str:=by
 intro l
 induction l with
 | nil=>
  intro ss e
  have:ss=[]:=by simpa [ft] using e.symm
  subst this
  rfl
 | cons p l ih=>
  intro ss e
  unfold ft at e
  rw [gw]at e
  cases hp:pO p with
  | none=>rw [hp]at e;cases e
  | some x=>
   cases hq:l.mapM pO with
   | none=>rw [hp,hq]at e;cases e
   | some qs=>
    rw [hp,hq]at e
    have e:x::qs=ss:=aV e
    subst e
    have hpx:p = .str x:=by
     cases p<;>simp [pO]at hp
     rw [hp]
    rw [aN,hpx,ih (ss:=qs) hq]
theorem ww:∀{l:List PV} {ss:List (List LS)},gc l=some ss->l=ss.map wL:=by
 intro l
 induction l with
 | nil=>
  intro ss e
  have:ss=[]:=by simpa [gc] using e.symm
  subst this
  rfl
 | cons p l ih=>
  intro ss e
  unfold gc at e
  rw [gw]at e
  cases p with
  | list x=>
   cases hp:ft x with
   | none=>simp only [hp]at e;cases e
   | some y=>
    simp only [hp]at e
    cases hq:gc l with
    | none=>
     unfold gc at hq
     rw [hq]at e;cases e
    | some qs=>
     have hq':=hq
     unfold gc at hq'
     rw [hq']at e
     have e:y::qs=ss:=aV e
     subst e
     rw [aN,ih hq]
     show _=PV.list (y.map .str)::_
     rw [<-zm hp]
  | _=>cases e
theorem gG:∀ss:List LS,ft (ss.map .str)=some ss:=by
 intro ss
 induction ss with
 | nil=>
  exact rfl
 | cons x r ih=>
  have:=ih
  unfold ft at this ⊢
  rw [aN,gw,this]
  rfl
theorem qg(G:Gd H0 I ρ R s.heap){a:List LS}{u:af}(h:cq I ρ (wL a) u):∃p lt n,u = .ref p/\s.heap.get? p=some (cF (ba lt).toArray n)/\(lt.map λx=>ls x.1)=a:=by
 unfold wL at h
 obtain⟨_,p,xs,k,rfl,hI,hr⟩:=h
 obtain⟨lt,rfl,k2,_⟩:=xA hr (gG a)
 refine⟨p,lt,k,rfl,G.imm _ _ hI,?_⟩
 have:=congrArg (List.map ls) k2
 rw [aI,aI]at this
 have e2:ls∘S=id:=funext λx=>PI x
 rw [e2,mv]at this
 exact this
theorem cC.uc{k:Nat}(h:cC H0 A k):A.units<cLine:=by
 have:=h.2.2.1
 show A.units<9900
 exact Wm this
theorem Ql(hR:cC H0 A m)(G:Gd H0 I ρ R s.heap){a b:List LS}{x y:af}(ha:cq I ρ (wL a) x)(hb:cq I ρ (wL b) y){Q:af->ag->Prop}(h:Q (.bool (s8 a b)) s):ar (ay pw w) A (lA .Lt x y) Q E s:=by
 obtain⟨p,lt,n,rfl,h1,rfl⟩:=qg G ha
 obtain⟨q,lt2,n2,rfl,h2,rfl⟩:=qg G hb
 exact Kk h1 h2 hR.uc h
theorem Ha{J ax S:aB}{xs:List af}{k:Nat}(hR:cC H0 A (m+1))(hJS:J≠S)(hax:I ax=some (cF xs.toArray k)){RR:fS->ag->Prop}:∀(rest:List (List LS)) (i:Nat) (best:List LS) (vb:af) (s:ag) (c:Nat),Gd H0 I ρ R s.heap->s.heap.IsListIter J ax i->aY I ρ (rest.map wL) (xs.drop i)->cq I ρ (wL best) vb ->
  s.heap.get? S=some (cF #[vb,vb] c)->¬fL I ρ J->¬fL I ρ S ->
  (∀v s',cq I ρ (wL (rest.foldl (λb y=>if s8 y b then y else b) best)) v->aS H0 eb (λa=>a=J\/a=S) I ρ s I ρ R s'->RR (.ok (.ret v)) s') ->
  cB (ay pw w) A (.builtin "min.loop" ⟨[.ref J,.none,.ref S],[]⟩) RR s:=by
 have hname:(jC "min"++jC ".loop":String)="min.loop":=by decide
 intro rest
 induction rest with
 | nil=>
  intro i best vb s c G hit hr hb hS hoJ hoS hRR
  have hJs:J ∉ H0.stk:=by
   obtain⟨o,q1,_,q2⟩:=hit
   exact G.notStk q1 (bL q2)
  have hSs:S ∉ H0.stk:=G.notStk hS (bM rfl)
  refine bB vQ ?_
  rw [bh gI _]
  show ar _ A.in1 (ir (.ref S)>>=_) _ _ s
  refine aa (c0 hS rfl ?_)
  show ar _ A.in1 (il (fR (.ref J)) _>>=_) _ _ s
  refine aa (cI (kL hR.1 hit ⟨_,G.imm _ _ hax,rfl,k,rfl⟩ hr.none_ λh' he=>?_))
  have hS':=he S _ (di hJS) hS
  show ar _ A.in1 (jW S (λζ => #[])>>=_) _ _ _
  refine aa ?_
  refine cw hS' rfl (aa (dS (ab ?_)))
  refine hRR vb _ hb (aS.quiet G (λa ha=>ha.elim (λe=>e▸hoJ) λe=>e▸hoS) (λa o ha e=>?_) rfl rfl λa ha=>ha.elim (λe=>e▸hJs) λe=>e▸hSs)
  exact(aD _ _ (λq=>ha (an q.symm))).trans (he a o (λq=>ha (av q)) e)
 | cons y rest ih=>
  intro i best vb s c G hit hr hb hS hoJ hoS hRR
  have hJs:J ∉ H0.stk:=by
   obtain⟨o,q1,_,q2⟩:=hit
   exact G.notStk q1 (bL q2)
  have hSs:S ∉ H0.stk:=G.notStk hS (bM rfl)
  obtain⟨v,h6,h7,h8⟩:=hr.get rfl
  refine bB vQ ?_
  rw [bh gI _]
  show ar _ A.in1 (ir (.ref S)>>=_) _ _ s
  refine aa (c0 hS rfl ?_)
  show ar _ A.in1 (il (fR (.ref J)) _>>=_) _ _ s
  refine aa (cI (eB hit ⟨_,G.imm _ _ hax,rfl,k,rfl⟩ (x:=v) (by rw [bU];exact h6) λh' hit' hs'=>?_))
  have hS':h'.get? S=some (cF #[vb,vb] c):=(hs'.2 S (di hJS)).trans hS
  have z:aS H0 eb (λa=>a=J\/a=S) I ρ s I ρ R { s with heap:=h' }:=aS.quiet G (λa ha=>ha.elim (λe=>e▸hoJ) λe=>e▸hoS) (λa o ha e=>(hs'.2 a (λq=>ha (av q))).trans e) rfl rfl λa ha=>ha.elim (λe=>e▸hJs) λe=>e▸hSs
  have G1:=z.good
  show ar _ A.in1 (il (kh [v,v] (lA .Lt v vb>>=_)) _>>=_) _ _ _
  refine aa (cI (aW (aa (Ql hR.in1 G1 h7 hb ?_))))
  refine aa (aW (gk ?_))
  refine aa (dS (ab ?_))
  rw [kM]at hRR
  cases hbt:s8 y best with
  | true=>
   have hbt':s8 y best=true:=hbt
   simp only [hbt',if_true]at hRR
   simp only [if_true]
   refine aa ?_
   refine cw hS' rfl (aa (dS ?_))
   rw [hname]
   have z2:aS H0 eb (λa=>a=J\/a=S) I ρ { s with heap:=h' } I ρ R { s with heap:=h'.update S (bC λζ => #[v,v]) }:=aS.quiet G1 (λa ha=>ha.elim (λe=>e▸hoJ) λe=>e▸hoS) (λa o ha e=>(aD _ _ (λq=>ha (an q.symm))).trans e) rfl rfl λa ha=>ha.elim (λe=>e▸hJs) λe=>e▸hSs
   obtain⟨o,q1,q2⟩:=hit'
   refine ab ⟨bT gI _,ih (i+1) y v _ _ z2.good ⟨o,(aD _ _ hJS.symm).trans q1,q2⟩ h8 h7 (cA _ hS' rfl) hoJ hoS λv' s' hv' x=>?_⟩
   exact hRR v' s' hv' (aS.trans G z (aS.trans G1 z2 x))
  | false=>
   have hbt':s8 y best=false:=hbt
   simp only [hbt',a0,if_false]at hRR
   simp only [a0,if_false]
   refine aa (dS ?_)
   rw [hname]
   refine ab ⟨bT gI _,ih (i+1) best vb _ c G1 hit' h8 hb hS' hoJ hoS λv' s' hv' x=>?_⟩
   exact hRR v' s' hv' (aS.trans G z x)
theorem Nb(hR:cC H0 A (m+2))(G:Gd H0 I ρ R s.heap){l:List PV}{ss:List (List LS)}{b:List LS}{u:af}(hu:cq I ρ (.list l) u)(hss:gc l=some ss)(hb:iI (λa b=>s8 a b) ss=some b) :
  ar (ay pw w) A (call (.builtin "min") [u]) (fM H0 I ρ s (wL b) R) E s:=by
 have hl:=ww hss
 subst hl
 obtain⟨hlen,ax,xs,k,rfl,hax,hr⟩:=hu
 have hname:(jC "min"++jC ".loop":String)="min.loop":=by decide
 refine Mt F.kind_min F.plain_min F.entry_min (F.args_min1 _) ?_
 show ar _ A.in1 (dD "min" ["key","default"] 0 ⟨[],[]⟩>>=_) _ _ s
 refine aa (ci (show dD "min" ["key","default"] 0 ⟨[],[]⟩=b7 [none,none]from rfl) ?_)
 refine aa (ab ?_)
 have hal:=G.imm _ _ hax
 refine aa (kd ⟨_,hal,rfl,k,rfl⟩ ?_)
 refine aa (cf ?_)
 have hJn:s.heap.get? s.heap.objs.size=none:=cu _
 generalize hJ:s.heap.objs.size=J at hJn ⊢
 generalize hh1:s.heap.push _=h1
 have k1:∀a o,s.heap.get? a=some o->h1.get? a=some o:=λa o e=>by rw [<-hh1];exact au _ e
 have hSn:h1.get? h1.objs.size=none:=cu _
 have eJ:h1.IsListIter J ax 0:=⟨_,by rw [<-hh1,<-hJ];exact aU _ rfl,rfl,rfl⟩
 have hJS:J≠h1.objs.size:=λq=>by
  obtain⟨o,q1,_⟩:=eJ
  rw [q,hSn]at q1
  cases q1
 generalize hS:h1.objs.size=S at hSn hJS ⊢
 generalize hh2:h1.push _=h2
 have k2:∀a o,h1.get? a=some o->h2.get? a=some o:=λa o e=>by rw [<-hh2];exact au _ e
 have eS:h2.get? S=some (cF #[] 0):=by rw [<-hh2,<-hS];exact aU _ rfl
 have st:a8 H0 eb I ρ s I ρ R { s with heap:=h2 }:=a8.quiet G nb (λa o ζ e=>k2 a o (k1 a o e)) (λa ha=>ha.elim) rfl rfl
 have G2:=st.good
 have hoJ:=bA G hJn
 have hSn0:s.heap.get? S=none:=by
  cases e:s.heap.get? S with
  | none=>rfl
  | some o=>rw [k1 S o e]at hSn;cases hSn
 have hoS:=bA G hSn0
 have eJ2:h2.IsListIter J ax 0:=by
  obtain⟨o,q1,q2⟩:=eJ
  exact⟨o,k2 _ _ q1,q2⟩
 have hJs:J ∉ H0.stk:=G.freshStk hJn
 have hSs:S ∉ H0.stk:=G.freshStk hSn0
 cases ss with
 | nil=>cases hb
 | cons y rest=>
  have hb:rest.foldl (λb y=>if s8 y b then y else b) y=b:=aV hb
  have hr0:aY I ρ ((y::rest).map wL) (xs.drop 0):=by simpa using hr
  obtain⟨v,h6,h7,h8⟩:=hr0.get rfl
  rw [hname]
  refine ab ⟨bT gI _,?_⟩
  refine bB vQ ?_
  rw [bh gI _]
  show ar _ A.in1 (ir (.ref S)>>=_) _ _ _
  refine aa (c0 eS rfl ?_)
  show ar _ A.in1 (il (fR (.ref J)) _>>=_) _ _ _
  refine aa (cI (eB (s:={ s with heap:=h2 }) eJ2 ⟨_,G2.imm _ _ hax,rfl,k,rfl⟩ (x:=v) (by rw [bU];exact h6) λh3 hit' hs'=>?_))
  have hS':h3.get? S=some (cF #[] 0):=(hs'.2 S (di hJS)).trans eS
  show ar _ A.in1 (jW S (λζ => #[v,v])>>=_) _ _ _
  refine aa ?_
  refine cw hS' rfl ?_
  rw [hname]
  have z:aS H0 eb (λa=>a=J\/a=S) I ρ { s with heap:=h2 } I ρ R { s with heap:=h3.update S (bC λζ => #[v,v]) }:=aS.quiet G2 (λa ha=>ha.elim (λe=>e▸hoJ) λe=>e▸hoS) (λa o ha e=>(aD _ _ (λq=>ha (an q.symm))).trans ((hs'.2 a (λq=>ha (av q))).trans e)) rfl rfl λa ha=>ha.elim (λe=>e▸hJs) λe=>e▸hSs
  obtain⟨o,q1,q2⟩:=hit'
  refine ab ⟨bT gI _,Ha (m:=m) (hR.le (by exact Vu)) hJS hax rest 1 y v _ _ z.good ⟨o,(aD _ _ hJS.symm).trans q1,q2⟩ h8 h7 (cA _ hS' rfl) hoJ hoS λv' s' hv' x=>?_⟩
  refine⟨I,ρ,aS.close G st (aS.trans G2 z x) (λa ha=>ha.elim (λe=>e▸hJn) λe=>e▸hSn0),?_⟩
  rw [<-hb]
  exact hv'
theorem Qm(hR:cC H0 A m)(G:Gd H0 I ρ R s.heap){a b:List LS}{x y:af}(ha:cq I ρ (wL a) x)(hb:cq I ρ (wL b) y){Q:af->ag->Prop}(h:Q (.bool (tK a b)) s):ar (ay pw w) A (lA .Gt x y) Q E s:=by
 obtain⟨p,lt,n,rfl,h1,rfl⟩:=qg G ha
 obtain⟨q,lt2,n2,rfl,h2,rfl⟩:=qg G hb
 exact KE h1 h2 hR.uc h
theorem Hc{J ax S:aB}{xs:List af}{k:Nat}(hR:cC H0 A (m+1))(hJS:J≠S)(hax:I ax=some (cF xs.toArray k)){RR:fS->ag->Prop}:∀(rest:List (List LS)) (i:Nat) (best:List LS) (vb:af) (s:ag) (c:Nat),Gd H0 I ρ R s.heap->s.heap.IsListIter J ax i->aY I ρ (rest.map wL) (xs.drop i)->cq I ρ (wL best) vb ->
  s.heap.get? S=some (cF #[vb,vb] c)->¬fL I ρ J->¬fL I ρ S ->
  (∀v s',cq I ρ (wL (rest.foldl (λb y=>if tK y b then y else b) best)) v->aS H0 eb (λa=>a=J\/a=S) I ρ s I ρ R s'->RR (.ok (.ret v)) s') ->
  cB (ay pw w) A (.builtin "max.loop" ⟨[.ref J,.none,.ref S],[]⟩) RR s:=by
 have hname:(jC "max"++jC ".loop":String)="max.loop":=by decide
 intro rest
 induction rest with
 | nil=>
  intro i best vb s c G hit hr hb hS hoJ hoS hRR
  have hJs:J ∉ H0.stk:=by
   obtain⟨o,q1,_,q2⟩:=hit
   exact G.notStk q1 (bL q2)
  have hSs:S ∉ H0.stk:=G.notStk hS (bM rfl)
  refine bB i8 ?_
  rw [bh ct _]
  show ar _ A.in1 (ir (.ref S)>>=_) _ _ s
  refine aa (c0 hS rfl ?_)
  show ar _ A.in1 (il (fR (.ref J)) _>>=_) _ _ s
  refine aa (cI (kL hR.1 hit ⟨_,G.imm _ _ hax,rfl,k,rfl⟩ hr.none_ λh' he=>?_))
  have hS':=he S _ (di hJS) hS
  show ar _ A.in1 (jW S (λζ => #[])>>=_) _ _ _
  refine aa ?_
  refine cw hS' rfl (aa (dS (ab ?_)))
  refine hRR vb _ hb (aS.quiet G (λa ha=>ha.elim (λe=>e▸hoJ) λe=>e▸hoS) (λa o ha e=>?_) rfl rfl λa ha=>ha.elim (λe=>e▸hJs) λe=>e▸hSs)
  exact(aD _ _ (λq=>ha (an q.symm))).trans (he a o (λq=>ha (av q)) e)
 | cons y rest ih=>
  intro i best vb s c G hit hr hb hS hoJ hoS hRR
  have hJs:J ∉ H0.stk:=by
   obtain⟨o,q1,_,q2⟩:=hit
   exact G.notStk q1 (bL q2)
  have hSs:S ∉ H0.stk:=G.notStk hS (bM rfl)
  obtain⟨v,h6,h7,h8⟩:=hr.get rfl
  refine bB i8 ?_
  rw [bh ct _]
  show ar _ A.in1 (ir (.ref S)>>=_) _ _ s
  refine aa (c0 hS rfl ?_)
  show ar _ A.in1 (il (fR (.ref J)) _>>=_) _ _ s
  refine aa (cI (eB hit ⟨_,G.imm _ _ hax,rfl,k,rfl⟩ (x:=v) (by rw [bU];exact h6) λh' hit' hs'=>?_))
  have hS':h'.get? S=some (cF #[vb,vb] c):=(hs'.2 S (di hJS)).trans hS
  have z:aS H0 eb (λa=>a=J\/a=S) I ρ s I ρ R { s with heap:=h' }:=aS.quiet G (λa ha=>ha.elim (λe=>e▸hoJ) λe=>e▸hoS) (λa o ha e=>(hs'.2 a (λq=>ha (av q))).trans e) rfl rfl λa ha=>ha.elim (λe=>e▸hJs) λe=>e▸hSs
  have G1:=z.good
  show ar _ A.in1 (il (kh [v,v] (lA .Gt v vb>>=_)) _>>=_) _ _ _
  refine aa (cI (aW (aa (Qm hR.in1 G1 h7 hb ?_))))
  refine aa (aW (gk ?_))
  refine aa (dS (ab ?_))
  rw [kM]at hRR
  cases hbt:tK y best with
  | true=>
   have hbt':tK y best=true:=hbt
   simp only [hbt',if_true]at hRR
   simp only [if_true]
   refine aa ?_
   refine cw hS' rfl (aa (dS ?_))
   rw [hname]
   have z2:aS H0 eb (λa=>a=J\/a=S) I ρ { s with heap:=h' } I ρ R { s with heap:=h'.update S (bC λζ => #[v,v]) }:=aS.quiet G1 (λa ha=>ha.elim (λe=>e▸hoJ) λe=>e▸hoS) (λa o ha e=>(aD _ _ (λq=>ha (an q.symm))).trans e) rfl rfl λa ha=>ha.elim (λe=>e▸hJs) λe=>e▸hSs
   obtain⟨o,q1,q2⟩:=hit'
   refine ab ⟨bT ct _,ih (i+1) y v _ _ z2.good ⟨o,(aD _ _ hJS.symm).trans q1,q2⟩ h8 h7 (cA _ hS' rfl) hoJ hoS λv' s' hv' x=>?_⟩
   exact hRR v' s' hv' (aS.trans G z (aS.trans G1 z2 x))
  | false=>
   have hbt':tK y best=false:=hbt
   simp only [hbt',a0,if_false]at hRR
   simp only [a0,if_false]
   refine aa (dS ?_)
   rw [hname]
   refine ab ⟨bT ct _,ih (i+1) best vb _ c G1 hit' h8 hb hS' hoJ hoS λv' s' hv' x=>?_⟩
   exact hRR v' s' hv' (aS.trans G z x)
theorem Nc(hR:cC H0 A (m+2))(G:Gd H0 I ρ R s.heap){l:List PV}{ss:List (List LS)}{b:List LS}{u:af}(hu:cq I ρ (.list l) u)(hss:gc l=some ss)(hb:iI (λa b=>tK a b) ss=some b) :
  ar (ay pw w) A (call (.builtin "max") [u]) (fM H0 I ρ s (wL b) R) E s:=by
 have hl:=ww hss
 subst hl
 obtain⟨hlen,ax,xs,k,rfl,hax,hr⟩:=hu
 have hname:(jC "max"++jC ".loop":String)="max.loop":=by decide
 refine Mt F.kind_max F.plain_max F.entry_max (F.args_max1 _) ?_
 show ar _ A.in1 (dD "max" ["key","default"] 0 ⟨[],[]⟩>>=_) _ _ s
 refine aa (ci (show dD "max" ["key","default"] 0 ⟨[],[]⟩=b7 [none,none]from rfl) ?_)
 refine aa (ab ?_)
 have hal:=G.imm _ _ hax
 refine aa (kd ⟨_,hal,rfl,k,rfl⟩ ?_)
 refine aa (cf ?_)
 have hJn:s.heap.get? s.heap.objs.size=none:=cu _
 generalize hJ:s.heap.objs.size=J at hJn ⊢
 generalize hh1:s.heap.push _=h1
 have k1:∀a o,s.heap.get? a=some o->h1.get? a=some o:=λa o e=>by rw [<-hh1];exact au _ e
 have hSn:h1.get? h1.objs.size=none:=cu _
 have eJ:h1.IsListIter J ax 0:=⟨_,by rw [<-hh1,<-hJ];exact aU _ rfl,rfl,rfl⟩
 have hJS:J≠h1.objs.size:=λq=>by
  obtain⟨o,q1,_⟩:=eJ
  rw [q,hSn]at q1
  cases q1
 generalize hS:h1.objs.size=S at hSn hJS ⊢
 generalize hh2:h1.push _=h2
 have k2:∀a o,h1.get? a=some o->h2.get? a=some o:=λa o e=>by rw [<-hh2];exact au _ e
 have eS:h2.get? S=some (cF #[] 0):=by rw [<-hh2,<-hS];exact aU _ rfl
 have st:a8 H0 eb I ρ s I ρ R { s with heap:=h2 }:=a8.quiet G nb (λa o ζ e=>k2 a o (k1 a o e)) (λa ha=>ha.elim) rfl rfl
 have G2:=st.good
 have hoJ:=bA G hJn
 have hSn0:s.heap.get? S=none:=by
  cases e:s.heap.get? S with
  | none=>rfl
  | some o=>rw [k1 S o e]at hSn;cases hSn
 have hoS:=bA G hSn0
 have eJ2:h2.IsListIter J ax 0:=by
  obtain⟨o,q1,q2⟩:=eJ
  exact⟨o,k2 _ _ q1,q2⟩
 have hJs:J ∉ H0.stk:=G.freshStk hJn
 have hSs:S ∉ H0.stk:=G.freshStk hSn0
 cases ss with
 | nil=>cases hb
 | cons y rest=>
  have hb:rest.foldl (λb y=>if tK y b then y else b) y=b:=aV hb
  have hr0:aY I ρ ((y::rest).map wL) (xs.drop 0):=by simpa using hr
  obtain⟨v,h6,h7,h8⟩:=hr0.get rfl
  rw [hname]
  refine ab ⟨bT ct _,?_⟩
  refine bB i8 ?_
  rw [bh ct _]
  show ar _ A.in1 (ir (.ref S)>>=_) _ _ _
  refine aa (c0 eS rfl ?_)
  show ar _ A.in1 (il (fR (.ref J)) _>>=_) _ _ _
  refine aa (cI (eB (s:={ s with heap:=h2 }) eJ2 ⟨_,G2.imm _ _ hax,rfl,k,rfl⟩ (x:=v) (by rw [bU];exact h6) λh3 hit' hs'=>?_))
  have hS':h3.get? S=some (cF #[] 0):=(hs'.2 S (di hJS)).trans eS
  show ar _ A.in1 (jW S (λζ => #[v,v])>>=_) _ _ _
  refine aa ?_
  refine cw hS' rfl ?_
  rw [hname]
  have z:aS H0 eb (λa=>a=J\/a=S) I ρ { s with heap:=h2 } I ρ R { s with heap:=h3.update S (bC λζ => #[v,v]) }:=aS.quiet G2 (λa ha=>ha.elim (λe=>e▸hoJ) λe=>e▸hoS) (λa o ha e=>(aD _ _ (λq=>ha (an q.symm))).trans ((hs'.2 a (λq=>ha (av q))).trans e)) rfl rfl λa ha=>ha.elim (λe=>e▸hJs) λe=>e▸hSs
  obtain⟨o,q1,q2⟩:=hit'
  refine ab ⟨bT ct _,Hc (m:=m) (hR.le (by exact Vu)) hJS hax rest 1 y v _ _ z.good ⟨o,(aD _ _ hJS.symm).trans q1,q2⟩ h8 h7 (cA _ hS' rfl) hoJ hoS λv' s' hv' x=>?_⟩
  refine⟨I,ρ,aS.close G st (aS.trans G2 z x) (λa ha=>ha.elim (λe=>e▸hJn) λe=>e▸hSn0),?_⟩
  rw [<-hb]
  exact hv'
theorem fL.later(x:aS H0 X Z I ρ s I' ρ' R' s'){a:aB}(h:¬fL I ρ a)(e:s.heap.get? a≠none)(hz:¬Z a):¬fL I' ρ' a:=λq=>(x.new a q).elim h λq=>q.elim e hz
theorem Kg{J ax S:aB}{xs:List af}{k:Nat}(hR:cC H0 A (m+2))(hJS:J≠S){RR:fS->ag->Prop}:∀(rest:List (Nat × PV)) (i:Nat) (bn:Nat) (bx:PV) (vb:af) (t:tU) (I:dC) (ρ:dH) (s:ag) (c:Nat),Gd H0 I ρ R s.heap->s.heap.IsListIter J ax i->I ax=some (cF xs.toArray k)->(∀p∈rest,qX R p.2=some p.1)->aY I ρ (rest.map (·.2)) (xs.drop i)->cq I ρ bx vb ->
  s.heap.get? S=some (cF #[vb,.int bn t] c)->¬fL I ρ J->¬fL I ρ S ->
  (∀v I' ρ' s',cq I' ρ' (rest.foldl (λb y=>if decide (b.1<y.1)then y else b) (bn,bx)).2 v->aS H0 eb (λa=>a=J\/a=S) I ρ s I' ρ' R s'->RR (.ok (.ret v)) s') ->
  cB (ay pw w) A (.builtin "max.loop" ⟨[.ref J,.builtin "len",.ref S],[]⟩) RR s:=by
 have hname:(jC "max"++jC ".loop":String)="max.loop":=by decide
 intro rest
 induction rest with
 | nil=>
  intro i bn bx vb t I ρ s c G hit hax hlen hr hb hS hoJ hoS hRR
  have hJs:J ∉ H0.stk:=by
   obtain⟨o,q1,_,q2⟩:=hit
   exact G.notStk q1 (bL q2)
  have hSs:S ∉ H0.stk:=G.notStk hS (bM rfl)
  refine bB i8 ?_
  rw [bh ct _]
  show ar _ A.in1 (ir (.ref S)>>=_) _ _ s
  refine aa (c0 hS rfl ?_)
  show ar _ A.in1 (il (fR (.ref J)) _>>=_) _ _ s
  refine aa (cI (kL hR.1 hit ⟨_,G.imm _ _ hax,rfl,k,rfl⟩ hr.none_ λh' he=>?_))
  have hS':=he S _ (di hJS) hS
  show ar _ A.in1 (jW S (λζ => #[])>>=_) _ _ _
  refine aa ?_
  refine cw hS' rfl (aa (dS (ab ?_)))
  refine hRR vb _ _ _ hb (aS.quiet G (λa ha=>ha.elim (λe=>e▸hoJ) λe=>e▸hoS) (λa o ha e=>?_) rfl rfl λa ha=>ha.elim (λe=>e▸hJs) λe=>e▸hSs)
  exact(aD _ _ (λq=>ha (an q.symm))).trans (he a o (λq=>ha (av q)) e)
 | cons y rest ih=>
  intro i bn bx vb t I ρ s c G hit hax hlen hr hb hS hoJ hoS hRR
  obtain⟨yn,yx⟩:=y
  have hJs:J ∉ H0.stk:=by
   obtain⟨o,q1,_,q2⟩:=hit
   exact G.notStk q1 (bL q2)
  have hSs:S ∉ H0.stk:=G.notStk hS (bM rfl)
  obtain⟨v,h6,h7,h8⟩:=hr.get rfl
  refine bB i8 ?_
  rw [bh ct _]
  show ar _ A.in1 (ir (.ref S)>>=_) _ _ s
  refine aa (c0 hS rfl ?_)
  show ar _ A.in1 (il (fR (.ref J)) _>>=_) _ _ s
  refine aa (cI (eB hit ⟨_,G.imm _ _ hax,rfl,k,rfl⟩ (x:=v) (by rw [bU];exact h6) λh' hit' hs'=>?_))
  have hS':h'.get? S=some (cF #[vb,.int bn t] c):=(hs'.2 S (di hJS)).trans hS
  have z:aS H0 eb (λa=>a=J\/a=S) I ρ s I ρ R { s with heap:=h' }:=aS.quiet G (λa ha=>ha.elim (λe=>e▸hoJ) λe=>e▸hoS) (λa o ha e=>(hs'.2 a (λq=>ha (av q))).trans e) rfl rfl λa ha=>ha.elim (λe=>e▸hJs) λe=>e▸hSs
  have G1:=z.good
  show ar _ A.in1 (il (kh [v] (call (.builtin "len") [v])) _>>=_) _ _ _
  refine aa (cI (aW (ao (BG G1 h7 (hlen _ (.head _))) (λu s2 q=>?_) λζ ζ e=>e)))
  obtain⟨I2,ρ2,x2,hu⟩:=q
  obtain⟨t2,rfl⟩:=hu
  have hS2:=x2.kept hS' (bM rfl) (λq=>hoS (an q)) id
  have hit2:s2.heap.IsListIter J ax (i+1):=by
   obtain⟨o,q1,q2,q3⟩:=hit'
   exact⟨o,x2.kept q1 (bL q3) (λq=>hoJ (an q)) id,q2,q3⟩
  have hoJ2:¬fL I2 ρ2 J:=fL.later (x2.z (Z:=eb)) hoJ (by obtain⟨o,q1,_⟩:=hit';rw [q1];exact λh=>nomatch h) id
  have hoS2:¬fL I2 ρ2 S:=fL.later (x2.z (Z:=eb)) hoS (by rw [hS'];exact λh=>nomatch h) id
  have G2:=x2.good
  have z2:aS H0 eb (λa=>a=J\/a=S) I ρ s I2 ρ2 R s2:=aS.trans G z x2.z
  have h72:=h7.le x2
  have h82:=h8.le x2
  have hb2:=hb.le x2
  have hax2:=x2.le _ _ hax
  show ar _ A.in1 (il (kh [v,.int yn t2] (lA .Gt (.int yn t2) (.int bn t)>>=_)) _>>=_) _ _ _
  refine aa (cI (aW (aa (P.gt_int (a:=yn) (b:=bn) ?_))))
  refine aa (aW (gk ?_))
  refine aa (dS (ab ?_))
  rw [kM]at hRR
  cases hbt:decide ((yn:Int)>bn)with
  | true=>
   have hlt:bn<yn:=by have:=of_decide_eq_true hbt;exact Wl this
   simp only [hlt,decide_true,if_true]at hRR
   simp only [if_true]
   refine aa ?_
   refine cw hS2 rfl (aa (dS ?_))
   rw [hname]
   have z3:aS H0 eb (λa=>a=J\/a=S) I2 ρ2 s2 I2 ρ2 R { s2 with heap:=s2.heap.update S (bC λζ => #[v,.int yn t2]) }:=aS.quiet G2 (λa ha=>ha.elim (λe=>e▸hoJ2) λe=>e▸hoS2) (λa o ha e=>(aD _ _ (λq=>ha (an q.symm))).trans e) rfl rfl λa ha=>ha.elim (λe=>e▸hJs) λe=>e▸hSs
   obtain⟨o,q1,q2⟩:=hit2
   refine ab ⟨bT ct _,ih (i+1) yn yx v t2 I2 ρ2 _ _ z3.good ⟨o,(aD _ _ hJS.symm).trans q1,q2⟩ hax2 (λp hp=>hlen p (.tail _ hp)) h82 h72 (cA _ hS2 rfl) hoJ2 hoS2 λv' I' ρ' s' hv' x=>?_⟩
   exact hRR v' I' ρ' s' hv' (aS.trans G z2 (aS.trans G2 z3 x))
  | false=>
   have hlt:¬bn<yn:=by have:=of_decide_eq_false hbt;exact Wk this
   simp only [hlt,decide_false,a0,if_false]at hRR
   simp only [a0,if_false]
   refine aa (dS ?_)
   rw [hname]
   refine ab ⟨bT ct _,ih (i+1) bn bx vb t I2 ρ2 _ c G2 hit2 hax2 (λp hp=>hlen p (.tail _ hp)) h82 hb2 hS2 hoJ2 hoS2 λv' I' ρ' s' hv' x=>?_⟩
   exact hRR v' I' ρ' s' hv' (aS.trans G z2 x)
theorem EJ{R:List aO}:∀{l:List PV} {r:List (Nat × PV)},(l.mapM λv=>(qX R v).map λn=>(n,v))=some r->r.map (·.2)=l /\ ∀p∈r,qX R p.2=some p.1:=by
 intro l
 induction l with
 | nil=>
  intro r h
  have:r=[]:=by simpa using h.symm
  subst this
  exact⟨rfl,λp hp=>nomatch hp⟩
 | cons x l ih=>
  intro r h
  rw [gw]at h
  cases hx:qX R x with
  | none=>rw [hx]at h;cases h
  | some a=>
   cases hq:(l.mapM λv=>(qX R v).map λn=>(n,v))with
   | none=>rw [hx,hq]at h;cases h
   | some qs=>
    rw [hx,hq]at h
    have h:(a,x)::qs=r:=aV h
    subst h
    obtain⟨h1,h2⟩:=ih hq
    refine⟨by rw [aN,h1],λp hp=>?_⟩
    rcases aw.mp hp with rfl | hp
    ·exact hx
    ·exact h2 p hp
theorem EC(hR:cC H0 A (m+2))(G:Gd H0 I ρ R s.heap){l:List PV}{b:PV}{u:af}(hu:cq I ρ (.list l) u)(hb:maxLen R l=some b) :
  ar (ay pw w) A (call (.builtin "max") [u] [(("key":Str),.builtin "len")]) (fM H0 I ρ s b R) E s:=by
 unfold maxLen at hb
 cases hm:(l.mapM λv=>(qX R v).map λn=>(n,v))with
 | none=>rw [hm]at hb;cases hb
 | some ps=>
 rw [hm]at hb
 obtain⟨hl,hlen⟩:=EJ hm
 subst hl
 obtain⟨_,ax,xs,k,rfl,hax,hr⟩:=hu
 have hname:(jC "max"++jC ".loop":String)="max.loop":=by decide
 refine kmb_tree PySem.F.kind_max PySem.F.plain_max PySem.F.entry_max (kmb_max_key _ _) ?_
 show ar _ A.in1 (dD "max" ["key","default"] 0 ⟨[],[(et "key",.builtin "len")]⟩>>=_) _ _ s
 refine aa (ci (show dD "max" ["key","default"] 0 ⟨[],[(et "key",.builtin "len")]⟩=b7 [some (.builtin "len"),none]from rfl) ?_)
 refine aa (ab ?_)
 have hal:=G.imm _ _ hax
 refine aa (kd ⟨_,hal,rfl,k,rfl⟩ ?_)
 refine aa (cf ?_)
 have hJn:s.heap.get? s.heap.objs.size=none:=cu _
 generalize hJ:s.heap.objs.size=J at hJn ⊢
 generalize hh1:s.heap.push _=h1
 have k1:∀a o,s.heap.get? a=some o->h1.get? a=some o:=λa o e=>by rw [<-hh1];exact au _ e
 have hSn:h1.get? h1.objs.size=none:=cu _
 have eJ:h1.IsListIter J ax 0:=⟨_,by rw [<-hh1,<-hJ];exact aU _ rfl,rfl,rfl⟩
 have hJS:J≠h1.objs.size:=λq=>by
  obtain⟨o,q1,_⟩:=eJ
  rw [q,hSn]at q1
  cases q1
 generalize hS:h1.objs.size=S at hSn hJS ⊢
 generalize hh2:h1.push _=h2
 have k2:∀a o,h1.get? a=some o->h2.get? a=some o:=λa o e=>by rw [<-hh2];exact au _ e
 have eS:h2.get? S=some (cF #[] 0):=by rw [<-hh2,<-hS];exact aU _ rfl
 have st:a8 H0 eb I ρ s I ρ R { s with heap:=h2 }:=a8.quiet G nb (λa o ζ e=>k2 a o (k1 a o e)) (λa ha=>ha.elim) rfl rfl
 have G2:=st.good
 have hoJ:=bA G hJn
 have hSn0:s.heap.get? S=none:=by
  cases e:s.heap.get? S with
  | none=>rfl
  | some o=>rw [k1 S o e]at hSn;cases hSn
 have hoS:=bA G hSn0
 have eJ2:h2.IsListIter J ax 0:=by
  obtain⟨o,q1,q2⟩:=eJ
  exact⟨o,k2 _ _ q1,q2⟩
 have hJs:J ∉ H0.stk:=G.freshStk hJn
 have hSs:S ∉ H0.stk:=G.freshStk hSn0
 cases ps with
 | nil=>cases hb
 | cons y rest=>
  obtain⟨yn,yx⟩:=y
  have hb:(rest.foldl (λb y=>if decide (b.1<y.1)then y else b) (yn,yx)).2=b:=aV hb
  have hr0:aY I ρ (((yn,yx)::rest).map (·.2)) (xs.drop 0):=by simpa using hr
  obtain⟨v,h6,h7,h8⟩:=hr0.get rfl
  rw [hname]
  refine ab ⟨bT ct _,?_⟩
  refine bB i8 ?_
  rw [bh ct _]
  show ar _ A.in1 (ir (.ref S)>>=_) _ _ _
  refine aa (c0 eS rfl ?_)
  show ar _ A.in1 (il (fR (.ref J)) _>>=_) _ _ _
  refine aa (cI (eB (s:={ s with heap:=h2 }) eJ2 ⟨_,G2.imm _ _ hax,rfl,k,rfl⟩ (x:=v) (by rw [bU];exact h6) λh3 hit' hs'=>?_))
  have hS':h3.get? S=some (cF #[] 0):=(hs'.2 S (di hJS)).trans eS
  have z:aS H0 eb (λa=>a=J\/a=S) I ρ { s with heap:=h2 } I ρ R { s with heap:=h3 }:=aS.quiet G2 (λa ha=>ha.elim (λe=>e▸hoJ) λe=>e▸hoS) (λa o ha e=>(hs'.2 a (λq=>ha (av q))).trans e) rfl rfl λa ha=>ha.elim (λe=>e▸hJs) λe=>e▸hSs
  have G3:=z.good
  show ar _ A.in1 (il (kh [v] (call (.builtin "len") [v])) _>>=_) _ _ _
  refine aa (cI (aW (ao (BG G3 h7 (hlen _ (.head _))) (λu s4 q=>?_) λζ ζ e=>e)))
  obtain⟨I4,ρ4,x4,hu⟩:=q
  obtain⟨t4,rfl⟩:=hu
  have hS4:=x4.kept hS' (bM rfl) (λq=>hoS (an q)) id
  have hit4:s4.heap.IsListIter J ax (0+1):=by
   obtain⟨o,q1,q2,q3⟩:=hit'
   exact⟨o,x4.kept q1 (bL q3) (λq=>hoJ (an q)) id,q2,q3⟩
  have hoJ4:¬fL I4 ρ4 J:=fL.later (x4.z (Z:=eb)) hoJ (by obtain⟨o,q1,_⟩:=hit';rw [q1];exact λh=>nomatch h) id
  have hoS4:¬fL I4 ρ4 S:=fL.later (x4.z (Z:=eb)) hoS (by rw [hS'];exact λh=>nomatch h) id
  have G4:=x4.good
  show ar _ A.in1 (jW S (λζ => #[v,.int yn t4])>>=_) _ _ _
  refine aa ?_
  refine cw hS4 rfl ?_
  rw [hname]
  have z5:aS H0 eb (λa=>a=J\/a=S) I4 ρ4 s4 I4 ρ4 R { s4 with heap:=s4.heap.update S (bC λζ => #[v,.int yn t4]) }:=aS.quiet G4 (λa ha=>ha.elim (λe=>e▸hoJ4) λe=>e▸hoS4) (λa o ha e=>(aD _ _ (λq=>ha (an q.symm))).trans e) rfl rfl λa ha=>ha.elim (λe=>e▸hJs) λe=>e▸hSs
  obtain⟨o,q1,q2⟩:=hit4
  refine ab ⟨bT ct _,Kg (m:=m) hR hJS rest 1 yn yx v t4 I4 ρ4 _ _ z5.good ⟨o,(aD _ _ hJS.symm).trans q1,q2⟩ (x4.le _ _ hax) (λp hp=>hlen p (.tail _ hp)) (h8.le x4) (h7.le x4) (cA _ hS4 rfl) hoJ4 hoS4 λv' I' ρ' s' hv' x=>?_⟩
  refine⟨I',ρ',aS.close G st (aS.trans G2 z (aS.trans G3 x4.z (aS.trans G4 z5 x))) (λa ha=>ha.elim (λe=>e▸hJn) λe=>e▸hSn0),?_⟩
  rw [<-hb]
  exact hv'
theorem oZ(B:dy w H0.heap)(hn:2<=n){g kx:Str}{np kp kp2 pos:dN}{l:List PV}(hg:gl cx g=true)(hgv:eZ g=some (.builtin "max"))(hk:gl cx kx=true)(hkv:eZ kx=some (.builtin "len"))(h1:dM H0 w n cx e σ R (.list l) R1)(hns:eL e=true)
  (hv:maxLen R1 l=some v):dM H0 w n cx (.Call (.Name g np) [e] [⟨some "key",.Name kx kp,kp2⟩] pos) σ R v R1:=by
 intro A E I ρ env s hR G O
 have e2:dM H0 w n cx (.Name kx kp) σ R1 (.val (.builtin "len")) R1:=tQ B hk hkv
 refine fk (db (cz B G O hg hgv ?_) (c9 O (O.glo g hg)))
 have hns':∀x∈[e],eL x=true:=λx hx=>by rw [aC]at hx;subst hx;exact hns
 refine callWith_kw ?_ (by rw [jz hns'];rfl) (rq hns') rfl rfl
 rw [jz hns']
 refine fI (ao (h1.then hR G O λI1 ρ1 u s1 x1 hu O1 G1=>?_) (λζ ζ h₁=>hH h₁) λζ ζ e=>e)
 refine Mo (e2.then hR G1 O1 λI2 ρ2 y s2 x2 hy O2 G2=>kwAll_nil ?_)
 cases hy
 exact ao (EC (m:=0) (hR.le (by exact Wj hn)) G2 (hu.le x2) hv) (λζ ζ q=>fM.mono_ G (x1.trans G x2) q) λζ ζ e=>e
section srt
variable {cmp:Nat->Nat->(Bool->ag->Prop)->ag->Prop} {r:Nat->Nat} {N:Nat}
noncomputable def PP(r:Nat->Nat)(p:Array Nat)(k:Nat):Nat:=r (p[k]?.getD 0)
theorem jS(p:Array Nat)(k:Nat):p.getD k 0=p[k]?.getD 0:=by simp [Array.getD_eq_getD_getElem?]
noncomputable def AG(r:Nat->Nat)(p:Array Nat)(n:Nat):Prop:=∀a b,a<=b->b<n->PP r p a<=PP r p b
noncomputable def AH(r:Nat->Nat)(p:Array Nat)(n:Nat):Prop:=∀a b,a<=b->b<n->PP r p b<=PP r p a
noncomputable def Pm(N:Nat)(p:Array Nat):Prop:=p.Perm (bk (cM N))
theorem Pm.size{p:Array Nat}(h:Pm N p):p.size=N:=by
 have:=Array.Perm.size_eq h
 simpa using this
theorem Pm.lt{p:Array Nat}(h:Pm N p)(hN:0<N)(k:Nat):p.getD k 0<N:=by
 rw [jS]
 cases e:p[k]? with
 | none=>exact hN
 | some x=>
  have hm:x∈p:=Array.mem_of_getElem? e
  have:=(yK h).mp hm
  simpa using this
noncomputable def HC(cmp:Nat->Nat->(Bool->ag->Prop)->ag->Prop)(r:Nat->Nat)(N:Nat)(s:ag):Prop:=∀i j (C:Bool->ag->Prop),i<N->j<N->C (decide (r i<r j)) s->cmp i j C s
theorem IL(hc:HC cmp r N s)(hN:0<N){p:Array Nat}(hp:Pm N p){Q:Nat->ag->Prop}:∀(f n:Nat),1<=n->n+f<=N->AG r p n->(∀m,n<=m->m<=n+f->AG r p m->(m<n+f->PP r p m<PP r p (m-1))->Q m s)->(kas_asc p f n).kasWp cmp Q s:=by
 intro f
 induction f with
 | zero=>
  intro n _ _ h q
  exact q n (aF _) (aF _) h (λh=>absurd h (eY _))
 | succ f ih=>
  intro n h1 hz h q
  show cmp _ _ _ s
  refine hc _ _ _ (hp.lt hN _) (hp.lt hN _) ?_
  rw [jS,jS]
  show((if decide (PP r p n<PP r p (n-1))=true then KasT.ret n else kas_asc p f (n+1)):KasT Nat).kasWp cmp Q s
  by_cases hlt:PP r p n<PP r p (n-1)
  ·rw [if_pos (decide_eq_true hlt)]
   exact q n (aF _) (by exact Q7) h λζ=>hlt
  ·rw [if_neg (by rw [decide_eq_false hlt];decide)]
   refine ih (n+1) (by exact OK) (by exact QO hz) (λa b hab hb=>?_) λm h2 h3 h4 h5=>q m (by exact QN h2) (by exact QM h3) h4 λh=>h5 (by exact Wi h)
   rcases eX b n with hbn | hbn
   ·exact h a b hab hbn
   ·have:b=n:=by exact QL hb hbn
    subst this
    rcases eX a b with hab' | hab'
    ·exact ah (h a (b-1) (by exact Q6 hab') (by exact Q5 hab')) (by exact Q4 hlt)
    ·have:a=b:=by exact OL hab hab'
     rw [this]
     exact aF _
set_option tactic.hygienic true in
theorem Cv{p:Array Nat}{i j:Nat}(hj:j<=p.size)(k:Nat):PP r (vI p i j) k=if i<=k/\k<j then PP r p (i+j-1-k)else PP r p k:=by
 unfold PP vI
 rw [getElem?_mirror hj _ (by exact Wh)]
 split
 ·rename_i h
  rw [if_pos (by exact Wg h)]
 ·rename_i h
  split
  ·rename_i h2
   have:i+j-1-k=k:=by exact Wf h h2
   rw [this]
  ·rfl
theorem Pm.rev{p:Array Nat}(h:Pm N p)(i j:Nat):Pm N (vI p i j):=(mirror_perm _ _ _ _).trans h
set_option tactic.hygienic true in
theorem se{p:Array Nat}{i j:Nat}(hj:j<=p.size)(he:∀a,i<=a->a<j->PP r p a=PP r p (j-1))(k:Nat):PP r (vI p i j) k=PP r p k:=by
 rw [Cv hj]
 split
 ·rename_i h
  rw [he (i+j-1-k) (by exact We h) (by exact Wd h),he k h.1 h.2]
 ·rfl
theorem AG.of_eq{p p':Array Nat}{n:Nat}(h:AG r p n)(he:∀k,PP r p' k=PP r p k):AG r p' n:=λa b h1 h2=>by rw [he,he];exact h a b h1 h2
theorem AH.of_eq{p p':Array Nat}{n:Nat}(h:AH r p n)(he:∀k,PP r p' k=PP r p k):AH r p' n:=λa b h1 h2=>by rw [he,he];exact h a b h1 h2
theorem AH.rev{p:Array Nat}{n:Nat}(hz:n<=p.size)(h:AH r p n):AG r (vI p 0 n) n:=λa b h1 h2=>by
 rw [Cv hz,Cv hz,if_pos (by exact Wc h1 h2),if_pos (by exact Wb h2)]
 exact h _ _ (by exact Wa h1) (by exact V9 h2)
theorem AH.snoc{p:Array Nat}{n:Nat}(h1:1<=n)(h:AH r p n)(hl:PP r p n<=PP r p (n-1)):AH r p (n+1):=λa b hab hb=>by
 rcases eX b n with hbn | hbn
 ·exact h a b hab hbn
 ·have:b=n:=by exact QL hb hbn
  subst this
  rcases eX a b with hab' | hab'
  ·exact ah hl (h a (b-1) (by exact Q6 hab') (by exact Q5 hab'))
  ·have:a=b:=by exact OL hab hab'
   rw [this]
   exact aF _
theorem La(hc:HC cmp r N s)(hN:0<N){Q:Array Nat × Nat × Nat->ag->Prop}:∀(f:Nat) (p:Array Nat) (n q:Nat),Pm N p->1<=n->n+f<=N->q+1<=n->AH r p n->(∀a,n-(q+1)<=a->a<n->PP r p a=PP r p (n-1)) ->
  (∀p' n' q',Pm N p'->n<=n'->n'<=n+f->q'+1<=n'->AH r p' n'->(∀a,n'-(q'+1)<=a->a<n'->PP r p' a=PP r p' (n'-1))->Q (p',n',q') s)->(kas_desc f p n q).kasWp cmp Q s:=by
 intro f
 induction f with
 | zero=>
  intro p n q hp h1 hz hq h he k
  exact k p n q hp (aF _) (aF _) hq h he
 | succ f ih=>
  intro p n q hp h1 hz hq h he k
  show cmp _ _ _ s
  refine hc _ _ _ (hp.lt hN _) (hp.lt hN _) ?_
  rw [jS,jS]
  by_cases hlt:PP r p n<PP r p (n-1)
  ·have e:decide (r (p[n]?.getD 0)<r (p[n-1]?.getD 0))=true:=decide_eq_true hlt
   simp only [e,if_true]
   by_cases hq0:q>0
   ·rw [if_pos hq0]
    have hs:n<=p.size:=by rw [hp.size];exact V8 hz
    have hee:=se (r:=r) (i:=n-(q+1)) (j:=n) hs he
    refine ih _ (n+1) 0 (hp.rev _ _) (by exact OK) (by exact QO hz) (by exact Q3) ((AH.snoc h1 h (bg hlt)).of_eq hee) (λa h2 h3=>?_) λp' n' q' a1 a2 a3 a4 a5 a6=>k p' n' q' a1 (by exact QN a2) (by exact QM a3) a4 a5 a6
    have:a=n+1-1:=by exact Q2 h2 h3
    rw [this]
   ·rw [if_neg hq0]
    refine ih p (n+1) 0 hp (by exact OK) (by exact QO hz) (by exact Q3) (AH.snoc h1 h (bg hlt)) (λa h2 h3=>?_) λp' n' q' a1 a2 a3 a4 a5 a6=>k p' n' q' a1 (by exact QN a2) (by exact QM a3) a4 a5 a6
    have:a=n+1-1:=by exact Q2 h2 h3
    rw [this]
  ·have e:decide (r (p[n]?.getD 0)<r (p[n-1]?.getD 0))=false:=decide_eq_false hlt
   simp only [e,a0,if_false]
   show cmp _ _ _ s
   refine hc _ _ _ (jS p (n-1)▸hp.lt hN _) (jS p n▸hp.lt hN _) ?_
   by_cases hgt:PP r p (n-1)<PP r p n
   ·have e:decide (r (p[n-1]?.getD 0)<r (p[n]?.getD 0))=true:=decide_eq_true hgt
    simp only [e,if_true]
    exact k p n q hp (aF _) (by exact Q7) hq h he
   ·have e:decide (r (p[n-1]?.getD 0)<r (p[n]?.getD 0))=false:=decide_eq_false hgt
    simp only [e,a0,if_false]
    refine ih p (n+1) (q+1) hp (by exact OK) (by exact QO hz) (by exact V7 hq) (AH.snoc h1 h (by exact Q4 hgt)) (λa h2 h3=>?_) λp' n' q' a1 a2 a3 a4 a5 a6=>k p' n' q' a1 (by exact QN a2) (by exact QM a3) a4 a5 a6
    show _=PP r p n
    rcases eX a n with ha | ha
    ·rw [he a (by exact V6 h2) ha];exact Vt hlt hgt
    ·have:a=n:=by exact QL h3 ha
     rw [this]
theorem zg(hc:HC cmp r N s)(hN:0<N){Q:Nat × Array Nat->ag->Prop}{p:Array Nat}{n:Nat}(hp:Pm N p)(h1:1<=n)(hz:n<=N)(h:AH r p n)(k:∀m p',Pm N p'->1<=m->m<=N->AG r p' m->Q (m,p') s):(FA n N p).kasWp cmp Q s:=by
 unfold FA
 rw [kN]
 have hs:n<=p.size:=by rw [hp.size];exact hz
 exact IL hc hN (hp.rev 0 n) _ n h1 (by exact Q1 hz) (h.rev hs) λm a1 a2 a3 ζ=>k m _ (hp.rev 0 n) (by exact V5 h1 a1) (by exact Vs hz a2) a3
theorem sI(hc:HC cmp r N s)(hN:0<N){Q:Nat × Array Nat->ag->Prop}{p:Array Nat}{n:Nat}(hp:Pm N p)(h1:1<=n)(hz:n+1<=N)(h:AH r p n)(hl:PP r p n<PP r p (n-1))(k:∀m p',Pm N p'->1<=m->m<=N->AG r p' m->Q (m,p') s):(vJ n N p).kasWp cmp Q s:=by
 unfold vJ
 rw [kN]
 refine La hc hN _ p (n+1) 0 hp (by exact OK) (by exact V4 hz) (by exact Q3) (AH.snoc h1 h (bg hl)) (λa h2 h3=>?_) λp' n' q' a1 a2 a3 a4 a5 a6=>?_
 ·have:a=n+1-1:=by exact Q2 h2 h3
  rw [this]
 ·show((if q'>0 then FA n' N (vI p' (n'-(q'+1)) n')else FA n' N p'):KasT (Nat × Array Nat)).kasWp cmp Q s
  have hs:n'<=p'.size:=by rw [a1.size];exact Q0 hz a3
  split
  ·exact zg hc hN (a1.rev _ _) (by exact Vr a4) (by exact Q0 hz a3) (a5.of_eq (se hs a6)) k
  ·exact zg hc hN a1 (by exact Vr a4) (by exact Q0 hz a3) a5 k
theorem It(hc:HC cmp r N s)(hN:0<N){Q:Nat × Array Nat->ag->Prop}{p:Array Nat}(hp:Pm N p)(k:∀m p',Pm N p'->1<=m->m<=N->AG r p' m->Q (m,p') s):(kas_count N p).kasWp cmp Q s:=by
 unfold kas_count
 rw [kN]
 refine IL hc hN hp _ 1 (aF _) (by exact V3 hN) (λa b hab hb=>?_) λn a1 a2 a3 a4=>?_
 ·have:a=b:=by exact UT hab hb
  rw [this];exact aF _
 ·show((if(n==N)=true then .ret (n,p)else if n>1 then .ask (p.getD 0 0) (p.getD (n-1) 0) λc=>if c=true then .ret (n,p)else vJ n N (vI p 0 n)else vJ n N p):KasT (Nat × Array Nat)).kasWp cmp Q s
  by_cases hn:n=N
  ·rw [if_pos (by rw [hn];exact beq_self_eq_true _)]
   exact k n p hp a1 (by exact M4 hn) a3
  ·rw [if_neg (by rw [beq_eq_false_iff_ne.mpr hn];decide)]
   have hst:=a4 (by exact US hN a2 hn)
   by_cases h1:n>1
   ·rw [if_pos h1]
    show cmp _ _ _ s
    refine hc _ _ _ (hp.lt hN _) (hp.lt hN _) ?_
    rw [jS,jS]
    by_cases hlt:PP r p 0<PP r p (n-1)
    ·have e:decide (r (p[0]?.getD 0)<r (p[n-1]?.getD 0))=true:=decide_eq_true hlt
     simp only [e,if_true]
     exact k n p hp a1 (by exact Pw a2 h1) a3
    ·have e:decide (r (p[0]?.getD 0)<r (p[n-1]?.getD 0))=false:=decide_eq_false hlt
     simp only [e,a0,if_false]
     have hall:∀a,0<=a->a<n->PP r p a=PP r p (n-1):=λa ζ ha=>by
      have b1:=a3 0 a (bo _) ha
      have b2:=a3 a (n-1) (by exact Q6 ha) (by exact Q5 ha)
      exact UR hlt b1 b2
     have hs:n<=p.size:=by rw [hp.size];exact Pw a2 h1
     have hee:=se (r:=r) (i:=0) (j:=n) hs hall
     refine sI hc hN (hp.rev 0 n) a1 (by exact UQ a2 hn h1) (λa b hab hb=>?_) (by rw [hee,hee];exact hst) k
     rw [hee,hee,hall a (bo _) (by exact UP hab hb),hall b (bo _) hb]
     exact aF _
   ·rw [if_neg h1]
    refine sI hc hN hp a1 (by exact UO hN hn h1) (λa b hab hb=>?_) hst k
    have:a=b:=by exact UN h1 hab hb
    rw [this];exact aF _
theorem GO(hc:HC cmp r N s)(hN:0<N){Q:Nat->ag->Prop}{p:Array Nat}{k:Nat}(hp:Pm N p)(hs:AG r p k):∀(f l q:Nat),l<=q->q<=k->q-l<=f->(∀a,a<l->PP r p a<=PP r p k)->(∀a,q<=a->a<k->PP r p k<=PP r p a) ->
  (∀l,l<=k->(∀a,a<l->PP r p a<=PP r p k)->(∀a,l<=a->a<k->PP r p k<=PP r p a)->Q l s)->(FB p k f l q).kasWp cmp Q s:=by
 intro f
 induction f with
 | zero=>
  intro l q h1 h2 h3 hl hr kk
  have:l=q:=by exact UM h1 h3
  subst this
  exact kk l h2 hl hr
 | succ f ih=>
  intro l q h1 h2 h3 hl hr kk
  show((if l≥q then .ret l else .ask (p.getD k 0) (p.getD ((l+q) / 2) 0) λc=>if c=true then FB p k f l ((l+q) / 2)else FB p k f ((l+q) / 2+1) q):KasT Nat).kasWp cmp Q s
  by_cases hge:l≥q
  ·rw [if_pos hge]
   have:l=q:=by exact OL h1 hge
   subst this
   exact kk l h2 hl hr
  ·rw [if_neg hge]
   show cmp _ _ _ s
   refine hc _ _ _ (hp.lt hN _) (hp.lt hN _) ?_
   rw [jS,jS]
   by_cases hlt:PP r p k<PP r p ((l+q) / 2)
   ·have e:decide (r (p[k]?.getD 0)<r (p[(l+q) / 2]?.getD 0))=true:=decide_eq_true hlt
    simp only [e,if_true]
    exact ih l _ (by exact UL hge) (by exact UK h2 hge) (by exact UJ h3) hl (λa ha hak=>ah (bg hlt) (hs _ _ ha hak)) kk
   ·have e:decide (r (p[k]?.getD 0)<r (p[(l+q) / 2]?.getD 0))=false:=decide_eq_false hlt
    simp only [e,a0,if_false]
    exact ih _ q (by exact UI hge) h2 (by exact UH h3) (λa ha=>ah (hs a ((l+q) / 2) (by exact UG ha) (by exact UF h2 hge)) (by exact Q4 hlt)) hr kk
theorem N1(hc:HC cmp r N s)(hN:0<N){Q:Array Nat->ag->Prop}:∀(f:Nat) (p:Array Nat) (k:Nat),Pm N p->f+k=N->AG r p k->(∀p',Pm N p'->AG r p' N->Q p' s)->(kas_bin f p k).kasWp cmp Q s:=by
 intro f
 induction f with
 | zero=>
  intro p k hp hk hs q
  have:k=N:=by exact UE hk
  subst this
  exact q p hp hs
 | succ f ih=>
  intro p k hp hk hs q
  show((FB p k k 0 k).bind λl=>kas_bin f (Mu p k (k-l)) (k+1)).kasWp cmp Q s
  rw [kN]
  refine GO hc hN hp hs k 0 k (bo _) (aF _) (by exact UD) (λa ha=>absurd ha (ji _)) (λa h1 h2=>absurd h2 (by exact Pu h1)) λl h1 h2 h3=>?_
  have hks:k<p.size:=by rw [hp.size];exact UC hk
  have hb:∀x,PP r (Mu p k (k-l)) x=if x=l then PP r p k else if l<x/\x<=k then PP r p (x-1)else PP r p x:=λx=>by
   unfold PP
   rw [getElem?_bubble hks _ (by exact UB),show k-(k-l)=l from UA h1]
   by_cases c:x=l
   ·rw [if_pos c,if_pos c]
   ·rw [if_neg c,if_neg c]
    by_cases d:l<x/\x<=k
    ·rw [if_pos d,if_pos d]
    ·rw [if_neg d,if_neg d]
  have lo:∀x,x<l->PP r (Mu p k (k-l)) x=PP r p x:=λx hx=>by rw [hb,if_neg (dW hx),if_neg λd=>Nat.lt_asymm hx d.1]
  have at_:PP r (Mu p k (k-l)) l=PP r p k:=by rw [hb,if_pos rfl]
  have hi:∀x,l<x->x<k+1->PP r (Mu p k (k-l)) x=PP r p (x-1):=λx hx hk=>by rw [hb,if_neg (gQ hx),if_pos ⟨hx,fx hk⟩]
  refine ih _ (k+1) ((bubble_perm _ _ _).trans hp) (by exact Pt hk) (λa b hab hb'=>?_) q
  rcases mK b l with g | g | g
  ·rw [lo a (bp hab g),lo b g];exact hs _ _ hab (dk g h1)
  ·rw [g,at_]
   rcases Nat.lt_or_eq_of_le (g▸hab)with g' | g'
   ·rw [lo a g'];exact h2 _ g'
   ·rw [g',at_];exact aF _
  ·have hb1:b-1<k:=dk (pR (gQ (Nat.zero_lt_of_lt g))) (fx hb')
   rw [hi b g hb']
   rcases mK a l with g' | g' | g'
   ·rw [lo a g'];exact hs _ _ (ah (bg g') (pW g)) hb1
   ·rw [g',at_];exact h3 _ (pW g) hb1
   ·rw [hi a g' (bp hab hb')];exact hs _ _ (pS hab 1) hb1
set_option tactic.hygienic true in
theorem JS(hc:HC cmp r N s)(hN:0<N){Q:Array Nat->ag->Prop}(q:∀p,Pm N p->AG r p N->Q p s):(kas_sort N).kasWp cmp Q s:=by
 unfold kas_sort
 rw [kN]
 refine It hc hN (Array.Perm.refl _) λm p h1 h2 h3 h4=>?_
 show((if m<N then kas_bin (N-max m 1) p (max m 1)else .ret p):KasT (Array Nat)).kasWp cmp Q s
 have hm:max m 1=m:=by exact Uz h2
 rw [hm]
 split
 ·next h=>exact N1 hc hN _ p m h1 (bP (bg h)) h4 q
 ·next h=>
  have:m=N:=bW h3 (cn h)
  subst this
  exact q p h1 h4
end srt
set_option tactic.hygienic true in
theorem Cq{pos p':dN}{c x:af}(l:List af)(h:TriplesOk l)(e:pq p' (l++[gz pos.line,gz pos.col,c])=some x):pq p' l=some x\/x=c:=by
 fun_induction TriplesOk l with
 | case1=>
  simp only [ew,pq,gz]at e
  split at e
  ·right;exact(aV e).symm
  ·cases e
 | case2 a t b u y rest ih=>
  simp only [eP,pq]at e ⊢
  split at e
  ·rename_i hc;rw [if_pos hc];exact av e
  ·rename_i hc;rw [if_neg hc];exact ih h e
 | case3 l h1 h2=>exact h.elim
theorem rm{sc:Scope}(h:∀x∈sc.names,x.2 ≠ .free):AQ sc env=b7 []:=by
 simp only [AQ]
 rw [forIn_yield_id [] (λx hx c=>by
  obtain⟨n,kind⟩:=x
  have:(kind==d8)=false:=by simpa using h _ hx
  simp only [this,a0,if_false])]
 rfl
theorem Fe{h:fv}{c:aB}{q:Str}(x:h.CodeRec (.ref c) q):∃o,h.get? c=some o/\Ff (some o)=some q:=by
 obtain⟨c',o,vs,t,e1,e2,e3,e4⟩:=x
 injection e1 with e1
 subst e1
 refine⟨o,e2,?_⟩
 obtain⟨oc,od,dat,sl⟩:=o
 simp only at e3
 subst e3
 show(match (_:Option af)with
  | some (iE q _)=>some q
  | _=>none)=some q
 rw [e4]
set_option tactic.hygienic true in
theorem Gw{α:Type}{l:List α}{k:Nat}{x:α}(h:l[k]? = some x):l.set k x=l:=by
 apply List.ext_getElem?
 intro i
 rw [F0]
 split
 ·rename_i e
  subst e
  split
  ·exact h.symm
  ·rename_i hl
   rw [g9 (dj.mp hl)]at h
   cases h
 ·rfl
theorem Hp(B:dy w H0.heap)(G:Gd H0 I ρ R s.heap)(O:b4 I ρ cx σ env s.heap)(hlaw:cx.names.lookup ("met":Str)=some .cell)(htab:R[0]? = some .tab){ps:iA}{body:Expr}{sc:Scope}{lpos:dN}
  (hdef:defaultsOf ps env=([],[]))(hcl:∀x∈sc.names,x.2 ≠ .free) :
  ar (ay pw w) A (ed (.Lambda ps body sc lpos) env) (λu s'=>∃I' f c' pm ctv o,u = .ref f/\a8 H0 eb I ρ s I' ρ R s'/\I' f=some (kla_obj "<lambda>" jX ps body sc [] pm c' ctv)/\I' c'=some o/\Ff (some o)=some jX) E s:=by
 obtain⟨hcode,hqual⟩:=O.law hlaw
 have B':=G.baseAt B
 obtain⟨mg,bm,ob,u1,u2,u3,u4,u5,u6,u7⟩:=B'.u
 obtain⟨p,hp⟩:∃p,ρ[0]? = some p:=by
  have hl:0<ρ.length:=by rw [G.len];exact(eE.mp htab).1
  exact⟨_,bR hl⟩
 obtain⟨t1,t2,tps,t3,t4,t5⟩:=G.recs 0 p .tab hp htab
 have hT:s.heap.get? 949=some (mP tps):=by rw [<-t1];exact t3
 have hC:=B'.hd
 have hne1:bm≠949:=λq=>by
  rw [q,hT]at u4
  cases u4
  cases u5
 have hgP:da≠949:=by decide
 have hbG:bm≠da:=λq=>by
  obtain⟨o,es,n,e1,e2,_⟩:=u1
  rw [<-q,u4]at e1
  cases e1
  rw [u7]at e2
  cases e2
 have hB:s.heap.BuiltinsAt mg 949:=⟨bm,ob,u2,u3,hbG,hne1,u4,u5,u6,u7⟩
 have hge:env.globals=da:=O.gle
 have hq:(env.qual++"<lambda>":Str)=jX:=by rw [hqual];decide+kernel
 refine kla_eval hdef ?_
 rw [hq]
 have hown:∀{a:aB},s.heap.get? a=none->¬fL I ρ a:=λe=>bA G e
 cases hf:pq lpos tps.toList with
 | some cv=>
  obtain⟨c',o,rfl,hIc,hcq⟩:=t5 lpos cv hf
  refine kla_makeFunctionHit (rm hcl) hge u1 hcode hC hT t4 hf hB λctv h' tk hk hsz=>?_
  have hn:s.heap.get? h'.objs.size=none:=by
   cases e:s.heap.get? h'.objs.size with
   | none=>rfl
   | some o=>exact absurd (c8 e) (dj.mpr hsz)
  have x0:a8 H0 eb I ρ s I ρ R { s with heap:=h'.push { cls:=.type "function",data:=.func (kla_fn "<lambda>" jX ps body sc [] ((mg "__name__").getD .none) (.ref c') ctv) },toks:=tk }:=
   a8.quiet G nb (λa o ζ e=>au _ (hk a o e)) (λζ h=>h.elim) rfl rfl
  have x1:=x0.addfresh (o:={ cls:=.type "function",data:=.func (kla_fn "<lambda>" jX ps body sc [] ((mg "__name__").getD .none) (.ref c') ctv) }) hn (aU _ rfl) (hown hn) (G.freshStk hn)
  refine⟨_,h'.objs.size,c',_,ctv,o,rfl,x1,if_pos rfl,?_,hcq⟩
  exact x1.le _ _ hIc
 | none=>
  refine kla_makeFunction (rm hcl) hge u1 hcode hC hT t4 hf hgP hB λc' ctv h' tk hx hge1 hlt hrec htb=>?_
  obtain⟨o,hoc,hcq⟩:=Fe hrec
  have hnf:s.heap.get? h'.objs.size=none:=by
   cases e:s.heap.get? h'.objs.size with
   | none=>rfl
   | some o=>exact absurd (c8 e) (dj.mpr (ah hge1 (bg hlt)))
  have hnc:s.heap.get? c'=none:=by
   cases e:s.heap.get? c' with
   | none=>rfl
   | some o=>exact absurd (c8 e) (dj.mpr hge1)
  generalize hfo:kla_obj "<lambda>" jX ps body sc [] ((mg "__name__").getD .none) c' ctv=fo
  have hfr:fo.isFreed=false:=by rw [<-hfo];rfl
  have e2:(h'.push fo).get? 949=some (mP (tps ++ #[gz lpos.line,gz lpos.col,.ref c'])):=au _ htb
  have hcf:c'≠h'.objs.size:=dW hlt
  have hc9:c'≠949:=λq=>by rw [q,hT]at hnc;cases hnc
  have hf9:h'.objs.size≠949:=λq=>by rw [q,hT]at hnf;cases hnf
  have ot:∀a,a≠949->((h'.push fo).update 949 λζ=>mP tps).get? a=(h'.push fo).get? a:=λa ha=>aD _ _ (λq=>ha q.symm)
  have x0:a8 H0 eb I ρ s I ρ R { s with heap:=(h'.push fo).update 949 λζ=>mP tps,toks:=tk }:=a8.quiet G nb (λa ob ζ e=>by
   by_cases ha:a=949
   ·subst ha
    rw [hT]at e
    cases e
    exact cA (h:=h'.push fo) (λζ=>mP tps) e2 rfl
   ·exact(ot a ha).trans (au _ (hx a ob ha e))) (λζ h=>h.elim) rfl rfl
  have x1:=x0.addfresh hnc ((ot c' hc9).trans (au fo hoc)) (hown hnc) (G.freshStk hnc)
  have hno:¬fL (jV I c' o) ρ h'.objs.size:=λq=>by
   rcases q with q | q
   ·unfold jV at q
    rw [if_neg (di hcf)]at q
    exact hown hnf (av q)
   ·exact hown hnf (an q)
  have x2:=x1.addfresh hnf ((ot _ hf9).trans (aU _ hfr)) hno (G.freshStk hnf)
  have hIc:jV (jV I c' o) h'.objs.size fo c'=some o:=by
   unfold jV
   rw [if_neg hcf,if_pos rfl]
  have hp9:p=(949,949):=sj t1 (t2.trans t1)
  have x3:=a8.write (X:=eb) (s:={ s with heap:=(h'.push fo).update 949 λζ=>mP tps,toks:=tk }) (s':={ s with heap:=h'.push fo,toks:=tk }) x2.good hp htab (λq=>nomatch q)
   (λb ob h1 ζ e=>(ot b (by rw [hp9]at h1;exact h1)).symm.trans e) (r':=.tab) ⟨t1,t2,_,by rw [t1];exact e2,by simpa using TriplesOk_snoc _ _ _ _ t4,λpos c e=>?_⟩ (by rw [hp9,e2];exact⟨λh=>(nomatch h),λh=>(nomatch h)⟩) rfl rfl
  ·rw [Gw htab]at x3
   exact⟨_,h'.objs.size,c',_,ctv,o,rfl,x2.trans G x3,by rw [hfo];exact if_pos rfl,hIc,hcq⟩
  ·have e:pq pos (tps.toList++[gz lpos.line,gz lpos.col,jY c'])=some c:=by simpa using e
   rcases Cq _ t4 e with e | rfl
   ·obtain⟨c1,o1,a1,a2,a3⟩:=t5 pos c e
    exact⟨c1,o1,a1,x2.le _ _ a2,a3⟩
   ·exact⟨c',o,rfl,hIc,hcq⟩
theorem E3{d:FD}(K:Lq d)(hlaw:(d.scope.names.lookup ("met":Str)==some .cell)=false){f:aB}{qual:Str}{cd:aB}(hR:cC H0 A (n+2)){binds:List (Str × af)}{σ0:bq}{s1:ag}(G:Gd H0 I ρ R s.heap)(x1:a8 H0 eb I ρ s I' ρ' R s1)(B:dy w H0.heap)(hrel:fW I' ρ' σ0 binds)(hnd:(σ0.map (·.1)).Nodup)
  (hpar:∀x∈σ0,d.scope.names.lookup x.1=some .local\/d.scope.names.lookup x.1=some .cell){RR:fS->ag->Prop}{body:Expr}
  (hbody:∀(I1:dC) (ρ1:dH) (env:d9) (s2:ag),b4 I1 ρ1 ⟨d.scope.names,R.length⟩ σ0 env s2.heap->Gd ⟨H0.heap,env.locals::H0.stk⟩ I1 ρ1 R s2.heap->cC ⟨H0.heap,env.locals::H0.stk⟩ (A.deeper env) (n+1)->env.frame=some env.locals->(∀b,kK env b->s.heap.get? b=none) ->
   a8 H0 eb I ρ s I1 ρ1 R s2->ar (ay pw w) (A.deeper env) (ed body env) (λv s'=>RR (.ok (.ret v)) s')
    (λe s'=>ar (ay pw w) (A.deeper env) (leaving env e) (λζ s''=>RR (.error e) s'') (λe' s''=>RR (.error e') s'') s') s2) :
   ar (ay pw w) A.in1 (kg d.scope da [] binds (qual++".<locals>.") (some f) (.ref cd) none jK)
    (λenv s₂=>s₂.heap.NoLimit/\cB (ay pw w) A (.expr body env) RR s₂) (λe s'=>RR (.error e) s') s1:=by
 have G1:=x1.good
 have hkd:∀y∈binds,d.scope.names.lookup y.1=some .local\/(d.scope.names.lookup y.1=some .cell/\((pt (s1.heap.objs.size+1) d.scope.names []).lookup y.1).isSome=true):=λy hy=>by
  have hm:y.1∈σ0.map (·.1):=by rw [<-hrel.names];exact dE hy
  obtain⟨z,hz,hz'⟩:=aH.mp hm
  have:=hpar z hz
  rw [hz']at this
  rcases this with h | h
  ·exact av h
  ·exact an ⟨h,jy y.1 _ _ _ (av (mem_of_lookup h))⟩
 refine mM K.kind hkd λenv henv s2 x2=>?_
 have O2:=vr K hrel hnd hpar G1 henv x2 (λq=>by rw [q]at hlaw;cases hlaw)
 have x12:a8 H0 eb I' ρ' s1 I' ρ' R s2:=by
  obtain⟨h',tk,e⟩:=x2.toInCall.same
  exact a8.quiet G1 nb (λa o ζ e=>x2.toInCall.keep a o e) (λζ h=>h.elim) (by rw [e]) (by rw [e])
 have x02:=x1.trans G x12
 have G2:=x12.good
 have hfm:env.frame=some env.locals:=by rw [henv];rfl
 have hkm:env.scope.kind ≠ .module:=by rw [henv];show d.scope.kind≠_;rw [K.kind];decide
 have hfr:∀b,kK env b->s.heap.get? b=none:=λb hb=>by
  have hle:s1.heap.objs.size<=b:=by
   rcases hb with rfl | ⟨y,hy⟩
   ·rw [henv];exact aF _
   ·have:=x2.above y b (mem_of_lookup hy)
    rw [henv]at this
    exact bg this
  cases e':s.heap.get? b with
  | none=>rfl
  | some o'=>
   exfalso
   refine x1.alive b (by rw [e'];exact λh=>nomatch h) ?_
   cases e'':s1.heap.get? b with
   | none=>rfl
   | some o''=>exact absurd (c8 e'') (dj.mpr hle)
 have hst:sN s2.heap env.locals:=by
  obtain⟨m,⟨o,es,ep,q1,q2,_⟩,_⟩:=O2.ns
  exact⟨o,es,ep,q1,q2⟩
 refine⟨(G2.baseAt B).lim,kla_codeExpr ?_⟩
 exact hbody I' ρ' env s2 O2 (G2.push (O2.sep _ (av rfl)) hst) (hR.deeper env hfm hkm) hfm hfr x02
set_option tactic.hygienic true in
theorem Bg(c:Nat):∀l:LS,(aL c l).length<=l.length+1:=by
 intro l
 induction l with
 | nil=>
  exact aF _
 | cons x r ih=>
  have ih:=ih
  rw [b9]
  split
  ·rw [aq,aq];exact VA ih
  ·split
   ·rw [aq,aq,cj];exact Uy
   ·rename_i h t e
    rw [e]at ih
    rw [aq]at ih ⊢
    rw [aq];exact Ux ih
theorem Hq(B:dy w H0.heap)(hR:cC H0 A (n+2))(G:Gd H0 I ρ R s.heap){f c':aB}{o:jf}{ps:iA}{sc:Scope}{x cs:Str}{px apos cpos p2:dN}{k2:Nat}{pm ctv:af}{l:LS}{u:af}
  (hf:I f=some (kla_obj "<lambda>" jX ps (.Call (.Attribute (.Name x px) "split" apos) [.Constant (.str cs) k2 p2] [] cpos) sc [] pm c' ctv))(hc:I c'=some o)(hcq:Ff (some o)=some jX)
  (hcs:ls cs=[47])(hline:(apos.endLine==cpos.line)=true)(hpo:ps.posonlyargs=[])(hpa:ps.args.map (·.arg)=[x])(hpv:ps.vararg=none)(hok:zY ⟨x,ps,[],sc⟩=true)(hloc:∀y∈sc.names,y.2 = .local)(hx:sc.names.lookup x=some .local)
  (hu:cq I ρ (.str l) u)(hl:l.length<SZ){RR:fS->ag->Prop}(h:∀v s',fM H0 I ρ s (.list ((aL 47 l).map .str)) R v s'->RR (.ok (.ret v)) s') :
  cB (ay pw w) A (.call (.ref f) ⟨[u],[]⟩) RR s:=by
 have K:=rX hok
 have hd0:A.depth<AM:=by
  have:=hR.2.1
  show A.depth<1000
  exact UU this
 have hrec:s.heap.CodeRec (.ref c') jX:=vn (by rw [G.imm _ _ hc];exact hcq)
 refine kla_callFunE hd0 (G.imm _ _ hf) rfl K.co K.gen rfl hrec ?_
 have hb:bindG ps ([]:List af) [u] []=some [(x,u)]:=by
  unfold bindG
  simp only [hpo,hpa,hpv,lw,ew,Hu,gj]
  simp [Jq]
 refine sK (dv:=[]) K.kwo K.kwa (av ⟨rfl,rfl⟩) hb ?_
 unfold rp
 show match ps.vararg with | none=>_ | some va=>_
 rw [hpv]
 have hmet:(sc.names.lookup ("met":Str)==some .cell)=false:=by
  cases e:sc.names.lookup ("met":Str)with
  | none=>rfl
  | some k=>
   have:=hloc _ (mem_of_lookup e)
   simp only at this
   subst this
   rfl
 refine E3 (d:=⟨x,ps,[],sc⟩) (σ0:=[(x,.str l)]) K hmet hR G (a8.self G nb) B ?_ (by simp) ?_ λI1 ρ1 env s2 O2 G2 hR2 ζ hfr x02=>?_
 ·exact⟨u,[],rfl,hu,rfl⟩
 ·intro y hy
  rw [aC]at hy
  subst hy
  exact av hx
 ·have gx:gl ⟨sc.names,R.length⟩ x=false:=by show(sc.names.lookup x==some .globalImplicit)=false;rw [hx];rfl
  have hv:fF x [(x,PV.str l)]=some (.str l):=by simp
  have e1:dM ⟨H0.heap,env.locals::H0.stk⟩ w n ⟨sc.names,R.length⟩ (.Name x px) [(x,.str l)] R (.str l) R:=nn hv
  have e2:dM ⟨H0.heap,env.locals::H0.stk⟩ w n ⟨sc.names,R.length⟩ (.Constant (.str cs) k2 p2) [(x,.str l)] R (.str [47]) R:=Ab (by show grd (ja (ls cs)) (mkS (ls cs))=_;rw [hcs];rfl)
  have e3:=z7 (H0:=⟨H0.heap,env.locals::H0.stk⟩) (pos:=cpos) (apos:=apos) e1 e2 (by rw [ae];exact ah (Bg _ _) hl) (λenv=>rfl) (λenv=>rfl) hline
  refine ao (e3 _ (λζ ζ=>False) I1 ρ1 env s2 hR2 G2 O2) (λv s3 q=>?_) λζ ζ e=>e.elim
  obtain⟨I3,ρ3,x3,hv3⟩:=q
  exact h v s3 ⟨I3,ρ3,a8.back G x02 x3.weaken hfr,hv3⟩
theorem pN{α:Type}{p q:α->Bool}:∀{l:List α},(∀x∈l,p x=true->q x=true)->(∃x∈l,q x=true/\p x=false)->l.countP p<l.countP q
 | [],_,⟨x,hx,_⟩=>nomatch hx
 | y::l,h,⟨x,hx,h1,h2⟩=>by
  have hm:l.countP p<=l.countP q:=AZ λz hz=>h z (.tail _ hz)
  rw [Ji,Ji]
  rcases aw.mp hx with rfl | hx
  ·rw [if_pos h1,if_neg (by rw [h2];decide)]
   exact Ps hm
  ·have ih:=pN (λz hz=>h z (.tail _ hz)) ⟨x,hx,h1,h2⟩
   have hy:=h y (.head _)
   cases hp:p y with
   | true=>rw [hy hp];simp only [if_true];exact Uw ih
   | false=>exact dk ih (dA _ _)
noncomputable def rO(key:Nat->List LS)(N i:Nat):Nat:=(cM N).countP λk=>decide (key k<key i)
theorem wK{a b c:List LS}(h1:¬b<a)(h2:¬c<b):¬c<a:=by
 rw [mu]at *
 exact Mx h1 h2
theorem C2{key:Nat->List LS}{N i j:Nat}(hi:i<N)(hj:j<N):decide (rO key N i<rO key N j)=decide (key i<key j):=by
 by_cases h:key i<key j
 ·rw [decide_eq_true h]
  refine decide_eq_true (pN (λk ζ hk=>?_) ⟨i,iu.mpr hi,decide_eq_true h,decide_eq_false (wm _)⟩)
  have hk:=of_decide_eq_true hk
  exact decide_eq_true (List.lt_trans hk h)
 ·rw [decide_eq_false h]
  refine decide_eq_false (dj.mpr (AZ λk ζ hk=>?_))
  have hk:=of_decide_eq_true hk
  refine decide_eq_true ?_
  refine Classical.byContradiction λq=>?_
  exact wK h q hk
set_option tactic.hygienic true in
theorem join_split(c:Nat):∀l:LS,ce [c] (aL c l)=l:=by
 intro l
 induction l with
 | nil=>
  exact rfl
 | cons x r ih=>
  have ih:=ih
  rw [b9]
  split
  ·rename_i e
   subst e
   cases hs:aL x r with
   | nil=>exact absurd hs (fe x r)
   | cons h t=>rw [hs]at ih;simp only [ce,ew,eP];rw [ih]
  ·split
   ·rename_i e;exact absurd e (fe c r)
   ·rename_i h t e
    rw [e]at ih
    cases t with
    | nil=>simp only [ce]at ih ⊢;rw [ih]
    | cons h2 t2=>simp only [ce,eP]at ih ⊢;rw [ih]
theorem D3{c:Nat}{a b:LS}(h:aL c a=aL c b):a=b:=by rw [<-join_split c a,h,join_split]
noncomputable abbrev jJ(a b:LS):Bool :=!decide (aL 47 b<aL 47 a)
theorem EM(a b c:LS)(h1:jJ a b=true)(h2:jJ b c=true):jJ a c=true:=by
 simp only [jJ,cG,decide_eq_false_iff_not]at *
 exact wK h1 h2
theorem EN(a b:LS):(jJ a b||jJ b a)=true:=by
 simp only [jJ,fT,cG,decide_eq_false_iff_not,mu]
 exact My _ _
theorem Hw(a b:LS)(h1:jJ a b=true)(h2:jJ b a=true):a=b:=by
 simp only [jJ,cG,decide_eq_false_iff_not,mu]at h1 h2
 exact D3 (Jg h1 h2)
theorem BJ{l l':List LS}(hp:l.Perm l')(hs:l.Pairwise λa b=>jJ a b=true):l=l'.mergeSort jJ:=
 tX (λa b ζ ζ=>Hw a b) hs (jl EM EN l') (hp.trans (gn _ _).symm)
theorem D6{ss:List LS}{p:Array Nat}(hp:Pm ss.length p)(hs:AG (rO (λi=>aL 47 (ss.getD i [])) ss.length) p ss.length):(p.toList.map λi=>ss.getD i [])=ss.mergeSort jJ:=by
 have hl:p.toList.Perm (cM ss.length):=by
  have:=Array.perm_iff_toList_perm.mp hp
  simpa using this
 refine BJ ?_ ?_
 ·have h1:=hl.map λi=>ss.getD i []
  have h2:(cM ss.length).map (λi=>ss.getD i [])=ss:=by
   apply Jh
   ·simp
   ·intro i h1 h2
    simp [dg,h2]
  rwa [h2]at h1
 ·rw [List.pairwise_map,List.pairwise_iff_getElem]
  intro i j hi hj hij
  have hsz:=hp.size
  have hi':i<p.size:=by simpa using hi
  have hj':j<p.size:=by simpa using hj
  have h1:=hs i j (bg hij) (by exact M3 hsz hj')
  unfold PP at h1
  rw [iJ hi',iJ hj']at h1
  simp only [sk]at h1
  have li:p[i]<ss.length:=by have:=hp.lt (by exact Pr hsz hj') i;rwa [jS,iJ hi']at this
  have lj:p[j]<ss.length:=by have:=hp.lt (by exact Uv li) j;rwa [jS,iJ hj']at this
  have h2:=C2 (key:=λi=>aL 47 (ss.getD i [])) lj li
  rw [decide_eq_false (dj.mpr h1)]at h2
  have h3:=of_decide_eq_false h2.symm
  simp only [Array.getElem_toList]
  exact(by simp only [jJ,cG,decide_eq_false_iff_not];exact h3)
theorem Kl(hR:cC H0 A m)(G:Gd H0 I ρ R s.heap){a b:List LS}{x y:af}(ha:cq I ρ (wL a) x)(hb:cq I ρ (wL b) y){Q:Bool->ag->Prop}(h:Q (decide (a<b)) s):ar (ay pw w) A (keyLt' Js x y) Q E s:=by
 obtain⟨p,lt,n,rfl,h1,rfl⟩:=qg G ha
 obtain⟨q,lt2,n2,rfl,h2,rfl⟩:=qg G hb
 rw [keyLt'_oneType,oneLt'_eq]
 simp only [if_true]
 refine aa (wpAny_cRoomFor hR.uc ?_)
 refine aa (wpAny_callSpecialIfBound?_slot (T:="list") (id:="list.__lt__") ⟨_,h1,rfl⟩ yR (call_meets yR ⟨_,h1,rfl⟩ PySem.F.entry_list_lt (PySem.F.args_list_lt_2 _ _) (zI p q lt lt2 n n2) ⟨h1,h2,?_⟩))
 exact gk h
noncomputable abbrev lk(s:LS):PV:=wL (aL 47 s)
noncomputable def DF(H0:Bs)(w:bF)(A:bD)(R:List aO)(I0:dC)(f:af):Prop:=∀(I:dC) (ρ:dH) (s:ag) (l:LS) (u:af),Gd H0 I ρ R s.heap->(∀a o,I0 a=some o->I a=some o)->cq I ρ (.str l) u->l.length<SZ ->
 ar (ay pw w) A (call f [u]) (fM H0 I ρ s (lk l) R) (λζ ζ=>False) s
theorem aY.snoc{l:List PV}{xs:List af}{v:PV}{u:af}(h:aY I ρ l xs)(hu:cq I ρ v u):aY I ρ (l++[v]) (xs++[u]):=h.append (by exact⟨u,[],rfl,hu,rfl⟩)
theorem EL{I0:dC}{f:af}(hk:DF H0 w A R I0 f){D kS:aB}(hDk:D≠kS){Q:PUnit->ag->Prop}{body:af->PUnit->vN (ForInStep PUnit)}
  (hbody:∀x s (Q:ForInStep PUnit->ag->Prop),ar (ay pw w) A (call f [x]) (λk s'=>ar (ay pw w) A (sY (.ref kS) (·.push k)) (λζ s''=>Q (.yield ⟨⟩) s'') E s') (λζ ζ=>False) s->ar (ay pw w) A (body x ⟨⟩) Q E s){e1:Nat}:∀(rest done:List LS) (rv kv:List af) (I:dC) (ρ:dH) (s:ag) (e:Nat),Gd H0 I ρ R s.heap->(∀a o,I0 a=some o->I a=some o)->aY I ρ (rest.map .str) rv->aY I ρ (done.map lk) kv->s.heap.get? D=some (cF #[] e1)->s.heap.get? kS=some (cF kv.toArray e)->¬fL I ρ D->¬fL I ρ kS ->
   (∀x∈rest,x.length<SZ)->done.length+rest.length<64 ->
   (∀kv' I' ρ' s' e',Gd H0 I' ρ' R s'.heap->aY I' ρ' ((done++rest).map lk) kv'->aS H0 eb (λa=>a=D\/a=kS) I ρ s I' ρ' R s'->s'.heap.get? D=some (cF #[] e1)->s'.heap.get? kS=some (cF kv'.toArray e')->¬fL I' ρ' D->¬fL I' ρ' kS->Q ⟨⟩ s') ->
   ar (ay pw w) A (pn rv DK body) Q E s:=by
 intro rest
 induction rest with
 | nil=>
  intro done rv kv I ρ s e G _ hr hkv hD hS hoD hoS _ _ hQ
  cases hr
  rw [wn]
  have hDs:D ∉ H0.stk:=G.notStk hD (bM rfl)
  have hSs:kS ∉ H0.stk:=G.notStk hS (bM rfl)
  exact ab (hQ kv I ρ s e G (by rw [aP];exact hkv) (aS.quiet G (λa ha=>ha.elim (λe=>e▸hoD) λe=>e▸hoS) (λa o ζ e=>e) rfl rfl λa ha=>ha.elim (λe=>e▸hDs) λe=>e▸hSs) hD hS hoD hoS)
 | cons x rest ih=>
  intro done rv kv I ρ s e G hI hr hkv hD hS hoD hoS hlen h64 hQ
  obtain⟨u,rv',rfl,hu,hr'⟩:=hr
  rw [ey]
  refine aa (hbody u s _ (ao (hk I ρ s x u G hI hu (hlen x (.head _))) (λk s1 q=>?_) λζ ζ e=>e))
  obtain⟨I1,ρ1,x1,hk1⟩:=q
  have hD1:=x1.kept hD (bM rfl) (λq=>hoD (an q)) id
  have hS1:=x1.kept hS (bM rfl) (λq=>hoS (an q)) id
  have hoD1:¬fL I1 ρ1 D:=fL.later (x1.z (Z:=eb)) hoD (by rw [hD];exact λh=>nomatch h) id
  have hoS1:¬fL I1 ρ1 kS:=fL.later (x1.z (Z:=eb)) hoS (by rw [hS];exact λh=>nomatch h) id
  have G1:=x1.good
  have hDs:D ∉ H0.stk:=G1.notStk hD1 (bM rfl)
  have hSs:kS ∉ H0.stk:=G1.notStk hS1 (bM rfl)
  have hkl:kv.length=done.length:=by rw [hkv.length,ae]
  rw [aq]at h64
  refine tn hS1 rfl ?_ (by rw [aT,sizeLine_eq];exact Uu h64 hkl) (ah (aA (Jo ..)) (by rw [aT,sizeLine_eq];exact Ut h64 hkl))
  have ea:(bk kv).push k=bk (kv++[k]):=by simp
  obtain⟨e2,he2⟩:∃e2,(s1.heap.update kS (bC (·.push k))).get? kS=some (cF (bk (kv++[k])) e2):=⟨_,by rw [<-ea];exact eN hS1 (·.push k)⟩
  have z:aS H0 eb (λa=>a=D\/a=kS) I1 ρ1 s1 I1 ρ1 R { s1 with heap:=s1.heap.update kS (bC (·.push k)) }:=aS.quiet G1 (λa ha=>ha.elim (λe=>e▸hoD1) λe=>e▸hoS1) (λa o ha e=>(aD _ _ (λq=>ha (an q.symm))).trans e) rfl rfl λa ha=>ha.elim (λe=>e▸hDs) λe=>e▸hSs
  show ar (ay pw w) A (pn rv' DK body) Q E _
  refine ih (done++[x]) rv' (kv++[k]) I1 ρ1 _ e2 z.good (λa o e=>x1.le a o (hI a o e)) (hr'.le x1) (by rw [bV];exact(hkv.le x1).snoc hk1) ((aD _ _ (di hDk)).trans hD1) he2 hoD1 hoS1 (λy hy=>hlen y (.tail _ hy)) (by rw [ai,oK];exact Us h64) λkv' I' ρ' s' e' G' h1 y h2 h3 h4 h5=>?_
  exact hQ kv' I' ρ' s' e' G' (by rw [aQ]at h1;exact h1) (aS.trans G x1.z (aS.trans G1 z y)) h2 h3 h4 h5
theorem xR:∀{ss:List LS} {kv:List af},aY I ρ (ss.map lk) kv->∀i,i<ss.length->cq I ρ (lk (ss.getD i [])) (kv.getD i Value.none):=by
 intro ss
 induction ss with
 | nil=>
  intro _ _ i hi
  exact absurd hi (ji _)
 | cons x ss ih=>
  intro kv h i hi
  obtain⟨u,r,rfl,h1,h2⟩:=h
  cases i with
  | zero=>exact h1
  | succ i=>exact ih h2 i (AU hi)
theorem JF:∀{ss:List LS} {kv:List af},aY I ρ (ss.map .str) kv->∀i,i<ss.length->cq I ρ (.str (ss.getD i [])) (kv.getD i Value.none):=by
 intro ss
 induction ss with
 | nil=>
  intro _ _ i hi
  exact absurd hi (ji _)
 | cons x ss ih=>
  intro kv h i hi
  obtain⟨u,r,rfl,h1,h2⟩:=h
  cases i with
  | zero=>exact h1
  | succ i=>exact ih h2 i (AU hi)
theorem MQ{ss:List LS}{kv:List af}(h:aY I ρ (ss.map .str) kv):∀p:List Nat,(∀i∈p,i<ss.length)->aY I ρ ((p.map λi=>ss.getD i []).map .str) (p.map λi=>kv.getD i Value.none):=by
 intro p
 induction p with
 | nil=>
  intro _
  exact aY.nil
 | cons i p ih=>
  intro hp
  exact⟨_,_,rfl,JF h i (hp i (.head _)),ih λj hj=>hp j (.tail _ hj)⟩
theorem CU{D kS:aB}{st:SortSt}{e1 e:Nat}{kv out:List af}{P:mU->ag->Prop}(hDk:D≠kS)(hD:s.heap.get? D=some (cF #[] e1))(hS:s.heap.get? kS=some (cF kv.toArray e))(hout:(arrOf st).map (·.2)=bk out)(hz:out.length<64)(hkz:kv.length<64)(hf:failedOf st=none)
  (h:∀h' e2 e3,(∀a o,a≠D->a≠kS->s.heap.get? a=some o->h'.get? a=some o)->h'.get? D=some (cF out.toArray e2)->h'.get? kS=some (cF #[] e3)->P (.done (.ret .none)) { s with heap:=h' }):ar (ay pw w) A (ksk_tail D false e1 (.ref kS) st) P E s:=by
 obtain⟨e3,he3⟩:∃e3,(s.heap.update kS (bC λζ=>(#[]:Array af))).get? kS=some (cF #[] e3):=⟨_,eN hS λζ => #[]⟩
 have hD1:(s.heap.update kS (bC λζ=>(#[]:Array af))).get? D=some (cF #[] e1):=(aD _ _ (di hDk)).trans hD
 obtain⟨e2,he2⟩:∃e2,((s.heap.update kS (bC λζ=>(#[]:Array af))).update D (bC λζ=>bk out)).get? D=some (cF (bk out) e2):=⟨_,eN hD1 λζ=>bk out⟩
 unfold ksk_tail
 try dsimp only
 rw [hout]
 refine aa (tn hS rfl ?_ (by rw [aT,sizeLine_eq];exact Ur hkz) (bo _))
 refine aa (dS ?_)
 refine aa (seqEpoch_at hD1 rfl ?_)
 refine aa (tn hD1 rfl ?_ (bo _) (by show(bk out).size<=_;rw [aT,sizeLine_eq];exact Uq hz))
 rw [hf]
 simp only [bne_self_eq_false,a0,if_false]
 refine ab (h _ e2 e3 (λa o h1 h2 h3=>?_) he2 ?_)
 ·exact(aD _ _ (di h1)).trans ((aD _ _ (di h2)).trans h3)
 ·exact(aD _ _ hDk).trans he3
theorem NY(hR:cC H0 A m)(G:Gd H0 I ρ R s.heap){D kS:aB}{ss:List LS}{vs kv:List af}{e1 e:Nat}{P:mU->ag->Prop}(hDk:D≠kS)(hD:s.heap.get? D=some (cF #[] e1))(hS:s.heap.get? kS=some (cF kv.toArray e))(hvs:aY I ρ (ss.map .str) vs)(hkv:aY I ρ (ss.map lk) kv)(h0:0<ss.length)(h64:ss.length<64)
  (h:∀h' e2 e3 out,(∀a o,a≠D->a≠kS->s.heap.get? a=some o->h'.get? a=some o)->h'.get? D=some (cF (bk out) e2)->h'.get? kS=some (cF #[] e3)->aY I ρ ((ss.mergeSort jJ).map .str) out->P (.done (.ret .none)) { s with heap:=h' }) :
  ar (ay pw w) A (ksk_end D false vs.toArray e1 (.ref kS) kv.toArray) P E s:=by
 have hvl:vs.length=ss.length:=by rw [hvs.length,ae]
 have hkl:kv.length=ss.length:=by rw [hkv.length,ae]
 unfold ksk_end
 try dsimp only
 simp only [a0,if_false]
 by_cases h2:2<=ss.length
 ·have hn2:¬vs.toArray.size<2:=by rw [aT];exact Up hvl h2
  rw [if_neg hn2,if_neg hn2]
  refine aa (kas_kind (T:=.type "list") (by exact Pq hkl h2) (λv hv=>?_) (by decide) (by decide) ?_)
  ·obtain⟨i,hi,rfl⟩:=List.mem_iff_getElem.mp hv
   have hi':i<ss.length:=by exact M3 hkl hi
   have:=xR hkv i hi'
   rw [dg (l:=kv),bR hi]at this
   obtain⟨p,lt,n,e5,h1,_⟩:=qg G this
   simp only [sk]at e5
   rw [e5]
   exact(Looks.ld h1).andThen .now
  ·have hc:HC (kas_ask pw w A Js kv) (rO (λi=>aL 47 (ss.getD i [])) ss.length) ss.length s:=λi j C hi hj hC=>by
    show ar _ A (keyLt' Js (kv.getD i Value.none) (kv.getD j Value.none)) C (λζ ζ=>False) s
    refine Kl hR G (xR hkv i hi) (xR hkv j hj) ?_
    rw [C2 (key:=λi=>aL 47 (ss.getD i [])) hi hj]at hC
    exact hC
   have hsort:(kas_sort vs.length).kasWp (kas_ask pw w A Js kv) (λp s'=>s'=s/\Pm ss.length p/\AG (rO (λi=>aL 47 (ss.getD i [])) ss.length) p ss.length) s:=by
    rw [hvl]
    exact JS hc h0 λp h1 h2=>⟨rfl,h1,h2⟩
   refine aa (ao (kat_run (Q:=λst' s'=>∃p:Array Nat,p.size=vs.length/\arrOf st'=p.map (kas_item (kv.toArray.zip vs.toArray))/\failedOf st'=none/\s'=s/\Pm ss.length p/\AG (rO (λi=>aL 47 (ss.getD i [])) ss.length) p ss.length)
    (by exact Pp hvl hkl) (by exact Pq hvl h2) (by exact M2 h64 hvl) (λp' st' s' a1 a2 a3 a4=>⟨p',a1,a2,a3,a4⟩) hsort) ?_ λζ ζ x=>x)
   rintro ⟨⟨⟩,st'⟩ s' ⟨p,hp,har,hf,rfl,hpm,hst⟩
   try dsimp only
   refine CU hDk hD hS (kat_snds (by exact Pp hvl hkl) har) (by rw [ae,CR,hp];exact M2 h64 hvl) (by exact M2 h64 hkl) hf λh' e2 e3 k1 k2 k3=>h h' e2 e3 _ k1 k2 k3 ?_
   rw [<-D6 hpm hst]
   exact MQ hvs p.toList λi hi=>by
    have:=(yK hpm).mp (Array.mem_toList_iff.mp hi)
    simpa using this
 ·have hn2:vs.toArray.size<2:=by rw [aT];exact Uo hvl h2
  rw [if_pos hn2,if_pos hn2]
  refine aa (ab ?_)
  refine aa (ab ?_)
  try dsimp only
  have ho:(arrOf (SortSt.mk' general' (kv.toArray.zip vs.toArray) #[] 7 none)).map (·.2)=vs.toArray:=by
   show(kv.toArray.zip vs.toArray).map (·.2)=vs.toArray
   apply Array.toList_inj.mp
   rw [Array.toList_map,ksk_zip]
   simp [Jf,hvl,hkl]
  refine CU hDk hD hS ho (by exact Po hvl h2) (by exact Po hkl h2) rfl λh' e2 e3 k1 k2 k3=>h h' e2 e3 vs k1 k2 k3 ?_
  obtain⟨x,hx⟩:=AC.mp (bW (fx (d7 h2)) h0)
  subst hx
  have:[x].mergeSort jJ=[x]:=by simp
  rw [this]
  exact hvs
set_option tactic.hygienic true in
theorem Gr(hR:cC H0 A (m+3))(G:Gd H0 I ρ R s.heap){ss:List LS}{u f:af}{fa:aB}(hf:f = .ref fa)(hu:cq I ρ (.list (ss.map .str)) u)(hk:DF H0 w A.in1.in1 R I f)(h0:0<ss.length)(h64:ss.length<64)(hlen:∀x∈ss,x.length<SZ) :
  ar (ay pw w) A (call (.builtin "sorted") [u] [(("key":Str),f)]) (fM H0 I ρ s (.list ((ss.mergeSort jJ).map .str)) R) E s:=by
 subst hf
 obtain⟨hl,ax,vs,k,rfl,hax,hvs⟩:=hu
 have hal:=G.imm _ _ hax
 have hvl:vs.length=ss.length:=by rw [hvs.length,ae]
 refine call_function_entry_kw PyProof.Rows.kind_sorted PyProof.Rows.plain_sorted PyProof.Rows.entry_sorted (ksk_s1 _ _) ?_
 unfold Builtin.«sorted»
 refine aa (m:=checkCount "sorted" 1 1 _) (ab ?_)
 refine aa (collect_list ⟨_,hal,rfl,k,rfl⟩ ?_ (by rw [sizeLine_eq];exact Kf h64 hvl))
 refine aa (wpAny_newList ?_ (by rw [sizeLine_eq];exact Kf h64 hvl))
 generalize hh1:(s.heap.push (seqObj "list" #[] 0)).update s.heap.objs.size (bC (· ++ vs.toArray))=h1
 have k1:∀a o,s.heap.get? a=some o->h1.get? a=some o:=λa o e=>by
  rw [<-hh1,Heap.get?_update_ne _ _ _ _ (dW (c8 e))]
  exact au _ e
 have hDn1:h1.get? h1.objs.size=none:=cu _
 generalize hD:h1.objs.size=D at hDn1 ⊢
 generalize hh2:h1.push _=h2
 have k2:∀a o,h1.get? a=some o->h2.get? a=some o:=λa o e=>by rw [<-hh2];exact au _ e
 have eD:h2.get? D=some (cF vs.toArray 0):=by rw [<-hh2,<-hD];exact aU _ rfl
 have hDn:s.heap.get? D=none:=by
  cases e:s.heap.get? D with
  | none=>rfl
  | some o=>rw [k1 D o e]at hDn1;cases hDn1
 refine aa (aW (wpAny_call_entry_kw PyProof.Rows.slot_list_sort ⟨_,eD,rfl⟩ PyProof.Rows.entry_list_sort ?body (ksk_l1 _ _)))
 case body=>
  show ar (ay pw w) A.in1.in1 (Builtin.«list.sort» ⟨[.ref D],[(et "key",.ref fa)]⟩) _ _ _
  rw [ksk_t1]
  unfold ksk_tree
  refine aa (listItems_at eD rfl ?_)
  refine aa (tn eD rfl ?_ (by rw [aT,sizeLine_eq];exact Kf h64 hvl) (bo _))
  obtain⟨e1,he1⟩:∃e1,(h2.update D (bC λζ=>(#[]:Array af))).get? D=some (cF #[] e1):=⟨_,eN eD λζ => #[]⟩
  have k3:∀a o,a≠D->h2.get? a=some o->(h2.update D (bC λζ=>(#[]:Array af))).get? a=some o:=λa o ha e=>(aD _ _ ha.symm).trans e
  generalize h2.update D (bC λζ=>(#[]:Array af))=h3 at he1 k3 ⊢
  refine aa (seqEpoch_at he1 rfl ?_)
  refine aa (rD ?_ (by show vs.toArray.toList.length<=_;simp;rw [sizeLine_eq];exact Kf h64 hvl))
  refine aa (wpAny_newList ?_ (bo _))
  generalize hh4:h3.push _=h4
  have k4:∀a o,h3.get? a=some o->h4.get? a=some o:=λa o e=>by rw [<-hh4];exact au _ e
  have hKn:h4.get? h4.objs.size=none:=cu _
  generalize hkS:h4.objs.size=kS at hKn ⊢
  generalize hh5:h4.push _=h5
  have k5:∀a o,h4.get? a=some o->h5.get? a=some o:=λa o e=>by rw [<-hh5];exact au _ e
  have eK:h5.get? kS=some (cF #[] 0):=by rw [<-hh5,<-hkS];exact aU _ rfl
  have eD5:h5.get? D=some (cF #[] e1):=k5 _ _ (k4 _ _ he1)
  have hDk:D≠kS:=λq=>by rw [<-q,k4 _ _ he1]at hKn;cases hKn
  have hold:∀a o,s.heap.get? a=some o->h5.get? a=some o:=λa o e=>k5 _ _ (k4 _ _ (k3 _ _ (λq=>by rw [q,hDn]at e;cases e) (k2 _ _ (k1 _ _ e))))
  have hKn0:s.heap.get? kS=none:=by
   cases e:s.heap.get? kS with
   | none=>rfl
   | some o=>
    rw [k4 _ _ (k3 _ _ (λq=>by rw [q,hDn]at e;cases e) (k2 _ _ (k1 _ _ e)))]at hKn
    cases hKn
  have st:a8 H0 eb I ρ s I ρ R { s with heap:=h5 }:=a8.quiet G nb (λa o ζ e=>hold a o e) (λa ha=>ha.elim) rfl rfl
  have G5:=st.good
  refine aW ?_
  unfold ksk_rest
  refine aa (iX ?_)
  first
   | rw [List.forIn_toArray]
   | (rw [<-lF];simp only [qq])
   | rw [<-lF]
  refine aa (EL (e1:=e1) hk hDk (λx s' Q hx=>?_) ss [] vs [] I ρ { s with heap:=h5 } 0 G5 (λζ ζ e=>e) hvs (by exact aY.nil) eD5 eK (bA G hDn) (bA G hKn0) hlen (by simpa using h64) λkv I' ρ' s' e' G' hkv y hD' hK' hoD hoK=>?_)
  ·refine aa (nR (ao hx (λk' s'' hk'=>?_) λζ ζ hF=>hF.elim))
   exact aa (ao hk' (λζ s3 h3'=>ab h3') λζ ζ e=>e)
  ·try dsimp only
   refine aa (listItems_at hK' rfl ?_)
   have G1:=y.good
   refine NY (m:=m+1) hR.in1.in1 G1 (ss:=ss) hDk hD' hK' (hvs.leZ y) (by simpa using hkv) h0 h64 λh' e2 e3 out k6 k7 k8 hout=>?_
   have hDs:D ∉ H0.stk:=G1.notStk hD' (bM rfl)
   have hKs:kS ∉ H0.stk:=G1.notStk hK' (bM rfl)
   have z:aS H0 eb (λa=>a=D\/a=kS) I' ρ' s' I' ρ' R { s' with heap:=h' }:=aS.quiet G1 (λa ha=>ha.elim (λe=>e▸hoD) λe=>e▸hoK) (λa o ha e=>k6 a o (λq=>ha (av q)) (λq=>ha (an q)) e) rfl rfl λa ha=>ha.elim (λe=>e▸hDs) λe=>e▸hKs
   have x:a8 H0 eb I ρ s I' ρ' R { s' with heap:=h' }:=aS.close G st (aS.trans G5 y z) λa ha=>ha.elim (λe=>e▸hDn) λe=>e▸hKn0
   have x2:=x.addfresh hDn k7 hoD hDs
   have hml:(ss.mergeSort jJ).length=ss.length:=(gn _ _).length_eq
   refine⟨_,rfl,ab ⟨_,rfl,_,ρ',x2,?_⟩⟩
   refine⟨by rw [ae,hml];exact bg (bI h64 (by decide)),D,out,e2,rfl,by unfold jV;rw [if_pos rfl],hout.addle hoD⟩
theorem BP(h:lP R=true):R[0]? = some .tab:=uR h
inductive yA:List cS->Prop
 | mk (ps:iA) (x:Str) (px apos:dN) (cs:Str) (k2:Nat) (p2 cpos:dN) (sc:Scope) (lpos kpos:dN) (hcs:ls cs=[47]) (hline:apos.endLine=cpos.line) (hpo:ps.posonlyargs=[]) (hpa:ps.args.map (·.arg)=[x]) (hpv:ps.vararg=none) (hpd:ps.defaults=[]) (hpk:ps.kw_defaults=[])
   (hok:zY ⟨x,ps,[],sc⟩=true) (hloc:sc.names.all (λy=>y.2 == .local)=true) (hx:sc.names.lookup x=some .local):yA [⟨some "key",.Lambda ps (.Call (.Attribute (.Name x px) "split" apos) [.Constant (.str cs) k2 p2] [] cpos) sc lpos,kpos⟩]
theorem eg{P:Prop}(h:false=true):P:=(bc h).elim
theorem EK{kws:List cS}(h:Df kws=true):yA kws:=by
 refine fg (C:=λl b=>b=true->yA l) kws (λζ=>eg) (λk h=>?_) h
 obtain⟨a,e,kpos⟩:=k
 obtain⟨ha,h⟩:=eA h
 cases aJ ha
 refine Kp (C:=λe b=>b=true->yA [⟨some "key",e,kpos⟩]) e (λζ=>eg) (λps b sc lpos h=>?_) h
 refine ro (C:=λb y=>y=true->yA [⟨some "key",.Lambda ps b sc lpos,kpos⟩]) b (λζ=>eg) (λf as ks cpos h=>?_) h
 refine Ao (C:=λf y=>y=true->yA [⟨some "key",.Lambda ps (.Call f as ks cpos) sc lpos,kpos⟩]) f (λζ=>eg) (λo m apos h=>?_) h
 refine gJ (C:=λo y=>y=true->yA [⟨some "key",.Lambda ps (.Call (.Attribute o m apos) as ks cpos) sc lpos,kpos⟩]) o (λζ=>eg) (λx px h=>?_) h
 refine fg (C:=λas y=>y=true->yA [⟨some "key",.Lambda ps (.Call (.Attribute (.Name x px) m apos) as ks cpos) sc lpos,kpos⟩]) as (λζ=>eg) (λc h=>?_) h
 refine tD (C:=λc y=>y=true->yA [⟨some "key",.Lambda ps (.Call (.Attribute (.Name x px) m apos) [c] ks cpos) sc lpos,kpos⟩]) c (λζ=>eg) (λcs k2 p2 h=>?_) h
 obtain⟨h1,h⟩:=eA h
 obtain⟨h2,h⟩:=eA h
 obtain⟨h3,h⟩:=eA h
 obtain⟨h4,h⟩:=eA h
 obtain⟨h5,h⟩:=eA h
 obtain⟨h6,h⟩:=eA h
 obtain⟨h7,h⟩:=eA h
 obtain⟨h8,h⟩:=eA h
 obtain⟨h9,h⟩:=eA h
 obtain⟨h10,h⟩:=eA h
 obtain⟨h11,h12⟩:=eA h
 cases eO.mp h1
 cases aJ h2
 exact⟨ps,x,px,apos,cs,k2,p2,cpos,sc,lpos,kpos,aJ h3,aJ h4,eO.mp h5,aJ h6,cK.mp h7,eO.mp h8,eO.mp h9,h10,h11,aJ h12⟩
theorem B6(B:dy w H0.heap)(hn:3<=n){g:Str}{np pos:dN}{kws:List cS}{l:List PV}{ss:List LS}(hg:gl cx g=true)(hgv:eZ g=some (.builtin "sorted"))(hlaw:cx.names.lookup ("met":Str)=some .cell)(h1:dM H0 w n cx e σ R (.list l) R1)(hns:eL e=true)
  (hlam:Df kws=true)(hss:ft l=some ss)(h0:0<ss.length)(h64:ss.length<64)(hall:ss.all (λs=>decide (s.length<SZ))=true)(htab:lP R1=true) :
  dM H0 w n cx (.Call (.Name g np) [e] kws pos) σ R (.list ((ss.mergeSort λa b =>!decide (aL 47 b<aL 47 a)).map .str)) R1:=by
 obtain⟨ps,x,px,apos,cs,k2,p2,cpos,sc,lpos,kpos,hcs,hline,hpo,hpa,hpv,hpd,hpk,hok,hloc,hx⟩:=EK hlam
 intro A E I ρ env s hR G O
 refine fk (db (cz B G O hg hgv ?_) (c9 O (O.glo g hg)))
 have hns':∀x∈[e],eL x=true:=λx hx=>by rw [aC]at hx;subst hx;exact hns
 refine callWith_kw ?_ (by rw [jz hns'];rfl) (rq hns') rfl rfl
 rw [jz hns']
 refine fI (ao (h1.then hR G O λI1 ρ1 u s1 x1 hu O1 G1=>?_) (λζ ζ h₁=>hH h₁) λζ ζ e=>e)
 have hdef:defaultsOf ps env=([],[]):=by
  obtain⟨a1,a2,a3,a4,a5,a6,a7⟩:=ps
  simp only at hpd hpk
  subst hpd hpk
  rfl
 refine Mo (ao (Hp B G1 O1 hlaw (BP htab) hdef (λy hy q=>by have z:=bu.mp hloc y hy;rw [q]at z;cases z)) (λy s2 q=>?_) λζ ζ e=>e)
 obtain⟨I2,f,c',pm,ctv,o,rfl,x2,hf,hc,hcq⟩:=q
 refine kwAll_nil ?_
 have hl:=zm hss
 subst hl
 refine ao (Gr (m:=0) (hR.le (by exact Un hn)) x2.good (fa:=f) rfl (hu.le x2) (λI3 ρ3 s3 l3 u3 G3 hI3 hu3 hl3=>?_) h0 h64 (λx hx=>by simpa using bu.mp hall x hx)) (λζ ζ q=>fM.mono_ G (x1.trans G x2) q) λζ ζ e=>e
 have hR2:cC H0 A.in1.in1 (0+2):=cC.in1 (cC.in1 (hR.le (by exact Um hn)))
 refine fj (Hq (n:=0) B hR2 G3 (hI3 _ _ hf) (hI3 _ _ hc) hcq hcs (by rw [hline];exact beq_self_eq_true _) hpo hpa hpv hok (λy hy=>aJ (bu.mp hloc y hy)) hx hu3 hl3 λv s' q=>q)
noncomputable abbrev hB(b:Bool):Int:=if b then 1 else 0
noncomputable def mo(w:bF):Bool:=w.params.followText "set-order"
noncomputable abbrev MM(w:bF):jf:={ cls:=.type "set",dict:=none,data:=.set #[] 0 (.fresh 0 0 (!mo w)),slots := #[] }
noncomputable def nE(w:bF)(b:Bool):SetTable:=(layNew (.fresh 0 0 (!mo w)) #[] (hB b) (.bool b)).2.1
noncomputable abbrev ur(w:bF)(b:Bool):jf:={ cls:=.type "set",dict:=none,data:=.set #[(hB b,.bool b)] 1 (nE w b),slots := #[] }
theorem UZ(w:bF)(b:Bool):layNew (.fresh 0 0 (!mo w)) #[] (hB b) (.bool b)=(#[(hB b,.bool b)],nE w b,false,false):=by
 unfold nE
 generalize mo w=led
 cases b<;>cases led<;>decide+kernel
theorem oN(w:bF)(b:Bool):(nE w b).plain=true/\(nE w b).tooFull=false/\(nE w b).fits 1=true/\(nE w b).led = !mo w/\FE (nE w b).place 0=0 /\ ∃j,(nE w b).place[0]? = some j/\FE (nE w b).place (j+1)=1:=by
 unfold nE
 generalize mo w=led
 cases b<;>cases led<;>exact⟨by decide+kernel,by decide+kernel,by decide+kernel,by decide+kernel,by decide+kernel,_,rfl,by decide+kernel⟩
theorem Ld(b:Bool):byScan (.bool b) #[]=true:=by cases b<;>decide+kernel
theorem Lc(b:Bool):byScan (.bool b) #[(hB b,.bool b)]=true:=by cases b<;>decide+kernel
theorem EW(b:Bool):Builtin.«int.__hash__» ⟨[.bool b],[]⟩=(do ret (<-mkInt (hB b))):=by cases b<;>first | rfl | kernel_rfl
theorem sB{b:Bool}{Q:Int->ag->Prop}(h:Q (hB b) { s with toks:=s.toks+1 }):ar (ay pw w) A (pyHash (.bool b)) Q E s:=by
 have hT:s.TypeIs (.bool b) "bool":=rfl
 unfold pyHash
 have hv:[dT b].any Value.onHeap=false:=rfl
 refine aa ?_
 rw [cRoomFor,if_neg (by rw [hv];exact bc)];refine ab ?_
 refine aa (gh hT jk.lookup ?_)
 show ar _ _ (if(some (Value.builtin "int.__hash__")==some Value.none)=true then _ else _) Q E s
 rw [if_neg (by rw [beq_builtin_none];exact bc)]
 refine aa (gh hT jk.lookup ?_)
 show ar _ _ (lD (.bool b) "__hash__" _>>=_) Q E s
 refine aa (wpAny_callSpecialIfBoundUnlessNone?_slot hT jk
  (em jk hT entry_int_hash
   (by
    rw [EW]
    refine wpAny_ret_mkInt ?_
    show ar _ _ (if(decide (-(2:Int) ^ 63<=hB b)&&decide (hB b<2 ^ 63))=true then _ else _) Q E _
    rw [if_pos (by cases b<;>decide)]
    refine ab ?_
    have e:(if(hB b == -1)=true then-2 else hB b)=hB b:=by cases b<;>decide
    rw [e]
    exact h) (args_int_hash _)))
theorem GB{D:aB}{b:Bool}(hD:s.heap.get? D=some (MM w)){Q:af->ag->Prop}(h:∀h',so D s.heap h'->h'.get? D=some (ur w b)->Q .none { s with heap:=h',toks:=s.toks+1 }) :
  ar (ay pw w) A (call (.builtin "set.add") [.ref D,.bool b]) Q E s:=by
 obtain⟨t1,t2,t3,t4,t5,t6⟩:=oN w b
 refine em yQ ⟨_,hD,rfl⟩ yH ?_ (xm _ _)
 unfold Builtin.«set.add» pB
 simp only [tu,bind_assoc]
 unfold j2 setAdd
 refine aa (ab ?_)
 try dsimp only
 refine aa (ab ?_)
 try dsimp only
 refine aa ?_
 refine aW ?_
 refine aa (sB ?_)
 unfold setAddHashed setAddHashedIn
 refine aW (aa (dR (s:={ s with toks:=s.toks+1 }) hD rfl rfl ?_))
 dsimp only
 have hb:=Ld b
 rw [hb]
 simp only [↓reduceIte]
 unfold setAddByScan
 refine aa ?_
 refine aa (iX ?_)
 refine aa (ci (show setScan D (.bool b) (hB b) true #[]=b7 .absent from rfl) ?_)
 dsimp only
 rw [UZ]
 dsimp only
 refine aa (ab ?_)
 rw [t1]
 simp only [↓reduceIte]
 refine aa (ci (show hashByValue 8 (.bool b)=b7 true from rfl) ?_)
 simp only [↓reduceIte]
 have hset:(s.heap.update D (Obj.putSet #[(hB b,.bool b)] (nE w b))).get? D=some (ur w b):=by
  have:=cA (h:=s.heap) (Obj.putSet #[(hB b,.bool b)] (nE w b)) hD (by rw [putSet_of (es := #[]) (ep:=0) (t:=.fresh 0 0 (!mo w)) _ _ rfl];rfl)
  rw [putSet_of (es := #[]) (ep:=0) (t:=.fresh 0 0 (!mo w)) _ _ rfl]at this
  exact this
 refine aa (wpAny_storeSet_of (s:={ s with toks:=s.toks+1 }) hD rfl ?_ (by show 1<=_;rw [sizeLine_eq];decide))
 rw [t2]
 simp only [Bool.not_false,yI,a0,if_false,jI]
 refine ab (ab ?_)
 exact ab ⟨_,rfl,h _ (jM ..) hset⟩
theorem GA{D:aB}{b:Bool}(hD:s.heap.get? D=some (ur w b)){Q:af->ag->Prop}(h:Q .none { s with toks:=s.toks+1 }) :
  ar (ay pw w) A (call (.builtin "set.add") [.ref D,.bool b]) Q E s:=by
 obtain⟨t1,t2,t3,t4,t5,t6⟩:=oN w b
 refine em yQ ⟨_,hD,rfl⟩ yH ?_ (xm _ _)
 unfold Builtin.«set.add» pB
 simp only [tu,bind_assoc]
 unfold j2 setAdd
 refine aa (ab ?_)
 try dsimp only
 refine aa (ab ?_)
 try dsimp only
 refine aa ?_
 refine aW ?_
 refine aa (sB ?_)
 unfold setAddHashed setAddHashedIn
 refine aW (aa (dR (s:={ s with toks:=s.toks+1 }) hD rfl t3 ?_))
 dsimp only
 have hb:=Lc b
 rw [hb]
 simp only [↓reduceIte]
 unfold setAddByScan
 refine aa ?_
 refine aa (iX ?_)
 have hsc:setScan D (.bool b) (hB b) true #[(hB b,.bool b)]=setScanFrom D (.bool b) (hB b) true [(hB b,.bool b)] 0:=rfl
 rw [hsc]
 unfold setScanFrom
 rw [if_pos (beq_self_eq_true _)]
 refine aa ?_
 refine aa ?_
 unfold setEpoch
 refine aa (dR (s:={ s with toks:=s.toks+1 }) hD rfl t3 (ab ?_))
 refine aa ?_
 unfold eqBool
 refine aW ?_
 rw [if_pos (beq_self_eq_true _)]
 refine aa (iX (ab ?_))
 simp only [MB,↓reduceIte]
 refine ab (ab (ab ?_))
 exact ab ⟨_,rfl,h⟩
theorem fN:Slot "set_iterator" "__next__" "set_iterator.__next__":=
 .of (owner:="set_iterator") (n:="__next__") (by rw [d6,ch];kernel_rfl) (by decide+kernel) (by decide+kernel) (by decide+kernel)
  (by first | exact .inl (by decide+kernel) | exact .inr (by decide+kernel)) (by rw [fz];kernel_rfl)
theorem lq:kl vG "set_iterator.__next__"=some Builtin.«set_iterator.__next__»:=gO ∅
theorem lW(a:af):l6 "set_iterator.__next__" ⟨[a],[]⟩:=by unfold l6;kernel_rfl
theorem tc:kl vG "set.__iter__"=some Builtin.«frozenset.__iter__»:=entryFor_alias (id':="frozenset.__iter__") ∅ rfl (by decide+kernel) ∅
theorem vw(a:af):l6 "set.__iter__" ⟨[a],[]⟩:=by unfold l6;kernel_rfl
noncomputable abbrev mf(D:aB)(slot i:Int):jf:={ cls:=.type "set_iterator",dict:=none,data:=.fields #[.int slot 0,.int i 0,.ref D,.int 1 0,.int 1 0],slots := #[] }
theorem Gz{D:aB}{b:Bool}(hD:s.heap.get? D=some (ur w b)){Q:af->ag->Prop}(h:Q (.ref s.heap.objs.size) { s with heap:=s.heap.push (mf D 0 0) }):ar (ay pw w) A (mR (.ref D)) Q E s:=by
 obtain⟨t1,t2,t3,t4,t5,t6⟩:=oN w b
 refine wpAny_pyIter_slot ⟨_,hD,rfl⟩ nA (em nA ⟨_,hD,rfl⟩ tc ?_ (vw _))
 unfold Builtin.«frozenset.__iter__» JC JD j2 setDrawn setEpoch AL Mm
 refine aa (aa (ab (ab ?_)))
 refine aa (aa (aa (dR hD rfl t3 (ab (ab ?_)))))
 refine aa (aa (dR hD rfl t3 (aa (aa (gN (ab (ab ?_)))))))
 have key:∀(c:Bool) (X Y:vN mU) (P:mU->ag->Prop),c=false->ar (ay pw w) A.in1 Y P E s->ar (ay pw w) A.in1 (if c=true then X else Y) P E s:=λc X Y P hc hY=>by rw [hc,if_neg bc];exact hY
 refine key _ _ _ _ ?_ ?_
 ·show(!w.params.followText "set-order"&&(!(nE w b).plain&&decide ((1:Nat)>1)))=false
  rw [decide_eq_false (by exact Ul),jI,jI]
 refine aa (ab ?_)
 refine aa (aa (dR hD rfl t3 (ab ?_)))
 refine aa (cf (ab ⟨_,rfl,"set_iterator",_,⟨_,aU _ rfl,rfl⟩,fN.lookup,h⟩))
noncomputable def rR(w:bF)(b:Bool):Nat:=if mo w then 0 else((nE w b).place[0]?).getD 0+1
theorem GR{α:Type}(f:Nat->Nat)(x:α):pickOrder f #[x] = #[x]:=by
 have h:∀k,k=0->(match [x][k]? with | some y=>pickOrder.go f 0 1 ([x].eraseIdx k) (#[].push y) | none => #[]) = #[x]:=λk e=>by subst e;rfl
 exact h _ (Nat.mod_one _)
theorem rW{M:vO}{α:Type}{c:Bool}{X Y:vN α}{P:α->ag->Prop}(hc:c=false)(hY:ar M A Y P E s):ar M A (if c=true then X else Y) P E s:=by rw [hc,if_neg bc];exact hY
theorem Dl{M:vO}{α:Type}{c:Bool}{X Y:vN α}{P:α->ag->Prop}(hc:c=true)(hX:ar M A X P E s):ar M A (if c=true then X else Y) P E s:=by rw [hc,if_pos rfl];exact hX
theorem sx{D:aB}{b:Bool}(hD:s.heap.get? D=some (ur w b)){g slot:Nat}{Q:Option (af × Nat)->ag->Prop}(hg:(g=0/\slot=0)\/(g=1/\slot=rR w b))
  (h:Q (if g=0 then some (.bool b,rR w b)else none) s):ar (ay pw w) A (setNext D slot g 1) Q E s:=by
 obtain⟨t1,t2,t3,t4,t5,j,t6,t7⟩:=oN w b
 unfold setNext AL
 refine aa (dR hD rfl t3 (aa (aa (gN (ab ?_)))))
 cases hbt:mo w with
 | true=>
  have hn:rR w b=0:=by unfold rR;rw [hbt,if_pos rfl]
  refine Dl hbt ?_
  refine rW (by decide) ?_
  refine aa ?_
  unfold setWalk AL
  refine aa (dR hD rfl t3 (aa (aa (gN (ab ?_)))))
  refine Dl hbt ?_
  refine aa (gN (ab ?_))
  try dsimp only
  rw [GR]
  rcases hg with ⟨rfl,rfl⟩ | ⟨rfl,rfl⟩
  ·rw [if_pos rfl,hn]at h
   exact ab h
  ·rw [if_neg (by decide)]at h
   exact ab h
 | false=>
  have hn:rR w b=j+1:=by unfold rR;rw [hbt,t6];rfl
  refine rW hbt ?_
  refine rW ?_ ?_
  ·show(!(nE w b).plain&&decide ((1:Nat)>1))=false
   rw [t1];rfl
  refine aa ?_
  show ar _ _ (if(!(nE w b).led && !(#[(hB b,dT b)]).isEmpty)=true then _ else _) _ _ _
  refine rW (by rw [t4,hbt];rfl) (ab ?_)
  rcases hg with ⟨rfl,rfl⟩ | ⟨rfl,rfl⟩
  ·rw [if_pos rfl,hn]at h
   rw [t5]
   show ar _ _ (b7 (match (#[(hB b,dT b)])[0]?,(nE w b).place[0]? with | some (_,x),some j=>some (x,j+1) | _,_=>none)) Q E s
   rw [t6]
   exact ab h
  ·rw [if_neg (by decide)]at h
   rw [hn,t7]
   exact ab h
theorem Gy{D J:aB}{b:Bool}(hD:s.heap.get? D=some (ur w b))(hJ:s.heap.get? J=some (mf D 0 0)){Q:Option af->ag->Prop}
  (h:∀h',so J s.heap h'->h'.get? J=some (mf D (rR w b) 1)->Q (some (.bool b)) { s with heap:=h' }):ar (ay pw w) A (fR (.ref J)) Q E s:=by
 obtain⟨t1,t2,t3,t4,t5,j,t6,t7⟩:=oN w b
 unfold fR
 refine aa (nR (gM (name:=et "__next__") ⟨_,hJ,rfl⟩ fN
  (em fN ⟨_,hJ,rfl⟩ lq ?_ (lW _))))
 unfold Builtin.«set_iterator.__next__» Mm
 refine aa (ab ?_)
 refine aa (wpAny_fieldsOf hJ rfl ?_)
 try dsimp only
 refine aa (aa (dR hD rfl t3 (ab ?_)))
 refine rW (by rfl) ?_
 try dsimp only
 refine aa (sx hD (av ⟨rfl,rfl⟩) ?_)
 rw [if_pos (show tY 0=0 from rfl)]
 try dsimp only
 have e1:(s.heap.update J (rB λvs=>vs.setIfInBounds 0 (gz (rR w b)))).get? J=some (mf D (rR w b) 0):=cA (h:=s.heap) _ hJ rfl
 have e2:((s.heap.update J (rB λvs=>vs.setIfInBounds 0 (gz (rR w b)))).update J (rB λvs=>vs.setIfInBounds 1 (gz (0+1)))).get? J=some (mf D (rR w b) 1):=cA _ e1 rfl
 refine aa (AI hJ rfl (by simp) ?_)
 refine aa (AI (s:={ s with heap:=s.heap.update J (rB λvs=>vs.setIfInBounds 0 (gz (rR w b))) }) e1 rfl (by simp) ?_)
 exact ab ⟨_,rfl,ab (h _ ((jM ..).trans (jM ..)) e2)⟩
theorem JU(hh:A.handled=none){D J:aB}{b:Bool}(hD:s.heap.get? D=some (ur w b))(hJ:s.heap.get? J=some (mf D (rR w b) 1)){Q:Option af->ag->Prop}
  (h:∀h',CO J s.heap h'->Q none { s with heap:=h' }):ar (ay pw w) A (fR (.ref J)) Q E s:=by
 obtain⟨t1,t2,t3,t4,t5,j,t6,t7⟩:=oN w b
 unfold fR
 refine aa (nR (gM (name:=et "__next__") ⟨_,hJ,rfl⟩ fN
  (em fN ⟨_,hJ,rfl⟩ lq ?_ (lW _))))
 unfold Builtin.«set_iterator.__next__» Mm
 refine aa (ab ?_)
 refine aa (wpAny_fieldsOf hJ rfl ?_)
 try dsimp only
 refine aa (aa (dR hD rfl t3 (ab ?_)))
 refine rW (by rfl) ?_
 try dsimp only
 refine aa (sx hD (an ⟨rfl,rfl⟩) ?_)
 rw [if_neg (by decide)]
 try dsimp only
 refine aa (AI hJ rfl (by simp) ?_)
 refine aa ?_
 simp only [newExc,newTuple]
 refine aa (cf ?_ (by size_fits))
 refine aa (m:=firstArgMember _ _) (ci (a:=Value.none) (by first | rfl | (simp only [firstArgMember];rfl)) ?_)
 refine cf ?_ (by size_fits)
 refine aa (m:=PySem.handled) (wpAny_handled ?_)
 rw [show A.in1.handled=none from hh]
 refine aa (ab (wpAny_throw ?_))
 refine aa (kQ (T:="StopIteration") (b:=true) ⟨_,aU _ rfl,rfl⟩ AO ?_)
 exact ab (h _ (((jM ..).extBut.push _).push _))
theorem Bn(hh:A.handled=none){D:aB}{b:Bool}(hD:s.heap.get? D=some (ur w b)){Q:List af->ag->Prop}(h:∀h',(∀a o,s.heap.get? a=some o->h'.get? a=some o)->Q [.bool b] { s with heap:=h' }) :
  ar (ay pw w) A (unpackItems (.ref D) 1 none) Q E s:=by
 have hne:D≠s.heap.objs.size:=dW (c8 hD)
 have old:∀{h1 h2:fv},(∀a o,s.heap.get? a=some o->h1.get? a=some o)->CO s.heap.objs.size h1 h2->∀a o,s.heap.get? a=some o->h2.get? a=some o:=λk x a o e=>x a o (dW (c8 e)) (k a o e)
 unfold unpackItems
 refine aa ?_
 unfold notIterableAtAll
 refine aa (gh ⟨_,hD,rfl⟩ nA.lookup ?_)
 refine ab ?_
 simp only [a0,if_false]
 refine aa (aW (Gz hD ?_))
 have eJ:(s.heap.push (mf D 0 0)).get? s.heap.objs.size=some (mf D 0 0):=aU _ rfl
 have k0:∀a o,s.heap.get? a=some o->(s.heap.push (mf D 0 0)).get? a=some o:=λa o e=>au _ e
 refine aa (aW ?_)
 refine aa (Gy (s:={ s with heap:=s.heap.push (mf D 0 0) }) (k0 _ _ hD) eJ λh1 hs1 eJ1=>?_)
 have k1:=old k0 hs1.extBut
 try dsimp only
 refine aa (aW ?_)
 refine ab (ab ?_)
 rw [if_neg (show ¬([dT b].length<1)from by simp)]
 refine aa (aW (JU (s:={ s with heap:=h1 }) hh (k1 _ _ hD) eJ1 λh2 hs2=>?_))
 simp only [Option.isSome_none,a0,if_false]
 exact ab (h h2 (old k1 hs2))
noncomputable def Gs(w:bF)(b:Bool)(done:List PV):jf:=if done.isEmpty then MM w else ur w b
theorem sw(w:bF)(b:Bool)(done:List PV):∀es ep,(Gs w b done).data ≠ .dict es ep:=λes ep=>by
 unfold Gs
 split<;>exact λq=>nomatch q
theorem yl(elt target iter:Expr)(ifs:List Expr)(scope:Scope)(pos:dN)(it acc:af)(env:d9) :
  compTurn (.SetComp elt [⟨target,iter,ifs,0⟩] scope pos) 0 it acc env=(do
   nI iter.pos
   match <-fR it with
   | none=>b7 (.done .next)
   | some v=>
    c6 target it v
    iD target env v
    let mut ok:=true
    for c in ifs do
     if ok then ok <-isTrue c env (ed c env)
    if ok then
     (do let v <-ed elt env;nI elt.pos;let _ <-call (.builtin "set.add") [acc,v])
    again (.compLoop (.SetComp elt [⟨target,iter,ifs,0⟩] scope pos) 0 it acc env)):=by rfl
theorem mF{elt target iter:Expr}{ifs:List Expr}{scope:Scope}{pos:dN}{it acc:af}{R:fS->ag->Prop}(I:Nat->ag->Prop)
  (turn:∀n s,I n s->ar (ay pw w) A (fR it) (λr s₁=>match r with
   | none=>R (.ok .next) s₁
   | some v=>ar (ay pw w) A (iD target env v) (λζ s₂=>
     ar (ay pw w) A (pn ifs true λc r=>if r=true then do let ok <-isTrue c env (ed c env);b7 (j0 ok)else b7 (j0 r)) (λok s₃=>
      if ok=true then ar (ay pw w) A (ed elt env) (λx s₄=>
       ar (ay pw w) A (call (.builtin "set.add") [acc,x]) (λζ s₅=>∃m,m<n/\I m s₅) (Az (ay pw w) A env λe s'=>R (.error e) s') s₄) (Az (ay pw w) A env λe s'=>R (.error e) s') s₃
      else ∃m,m<n/\I m s₃) (Az (ay pw w) A env λe s'=>R (.error e) s') s₂) (Az (ay pw w) A env λe s'=>R (.error e) s') s₁) (Az (ay pw w) A env λe s'=>R (.error e) s') s)
  (n:Nat)(h:I n s)(ht:∀v,c6 target it v=b7 ()) :
  cB (ay pw w) A (.compLoop (.SetComp elt [⟨target,iter,ifs,0⟩] scope pos) 0 it acc env) R s:=by
 refine codeAny_loop rfl I (λn s hI=>?_) n h
 show ar _ A ((compTurn (.SetComp elt [⟨target,iter,ifs,0⟩] scope pos) 0 it acc env).onRaise (λx=>do noteFrame x env;theTreesLotGoes x)) _ _ s
 refine wpAny_noted ?_
 rw [yl]
 refine aa (fu (aa (ao (turn n s hI) (λr s₁ h₁=>?_) λζ ζ h'=>h')))
 cases r with
 | none=>exact ab h₁
 | some v=>
  refine aa (ci (ht v) ?_)
  refine aa (ao h₁ (λζ s₂ h₂=>aa (ao h₂ (λok s₃ h₃=>?_) λζ ζ h'=>h')) λζ ζ h'=>h')
  cases ok with
  | false=>exact ab ⟨rfl,h₃⟩
  | true=>
   exact aa (aa (ao h₃ (λx s₄ h₄=>aa (fu (aa (ao h₄ (λζ s₅ h₅=>ab (ab ⟨rfl,h₅⟩)) λζ ζ h'=>h')))) λζ ζ h'=>h'))
theorem Cd{tgt iter elt:Expr}{ifs:List Expr}{sc:Scope}{pos:dN}{it:af}{D:aB}{cenv:d9}{RR:fS->ag->Prop}(hnm:qh tgt=true):rA w A (.SetComp elt [⟨tgt,iter,ifs,0⟩] sc pos) tgt elt ifs it D "set.add" cenv RR:=λInv turn n s h=>
 mF Inv (λk s h=>turn _ _ _ _ _ k s h (λs' h=>h) (λv s' h=>h) (λs' h=>h) (λs' h=>h) (λu s' h=>h) (λm s' a b=>⟨m,a,b⟩)) n h (λv=>xX hnm _ _)
noncomputable def VZ(w:bF)(b:Bool)(D:aB)(done:List PV)(I:dC)(ρ:dH)(s:ag):Prop:=s.heap.get? D=some (Gs w b done) /\ ¬fL I ρ D
theorem Ln{D:aB}{ys:List PV}{b:Bool}(hall:∀y∈ys,y = .bool b):QS H0 w A D "set.add" ys (VZ w b D) where
 keep:=λdone I ρ s I' ρ' R' s' X0 Z0 h x hx hz=>x.held h.1 (sw w b done) h.2 hx hz
 add:=by
  intro done v r u I ρ R s E Q hys G h hu k
  obtain⟨h1,h2⟩:=h
  have hvb:v = .bool b:=hall v (by rw [hys];exact cg _ aj)
  rw [hvb]at hu
  have fin:∀h7,(∀a,a≠D->h7.get? a=s.heap.get? a)->h7.get? D=some (ur w b)->Q { s with heap:=h7,toks:=s.toks+1 }:=λh7 hs7 hl7=>
   k _ (aS.quiet G (λa ha=>ha▸h2) (λa o ha e=>(hs7 a ha).trans e) rfl rfl (λa ha=>ha▸G.notStk h1 (sw w b done))) ⟨hl7.trans (by unfold Gs;cases done<;>rfl),h2⟩
  refine hu.bool_el ?_
  cases done with
  | nil=>exact GB h1 λh7 hs7 hl7=>fin h7 hs7.2 hl7
  | cons d ds=>exact GA h1 (fin s.heap (λζ ζ=>rfl) h1)
theorem nG{elt target iter:Expr}{ifs:List Expr}{scope:Scope}{pos:dN}{it acc:af}{R:fS->ag->Prop}
  (h0:cB (ay pw w) A (.compLoop (.SetComp elt [⟨target,iter,ifs,0⟩] scope pos) 0 it acc env) R s)
  (h:ar (ay pw w) A (mR it) (λit' s'=>cB (ay pw w) A (.compLoop (.SetComp elt [⟨target,iter,ifs,0⟩] scope pos) 0 it' acc env) R s')
   (Az (ay pw w) A env λx s'=>R (.error x) s') s) :
  cB (ay pw w) A (.compStart (.SetComp elt [⟨target,iter,ifs,0⟩] scope pos) 0 it acc env) R s:=by
 refine qn ?_
 show ar _ _ ((compStart (.SetComp elt [⟨target,iter,ifs,0⟩] scope pos) 0 it acc env).onRaise (λx=>do noteFrame x env;nI theWindowsPlace)) _ _ s
 refine wpAny_notedAt ?_
 unfold compStart
 show ar _ _ (ask>>=_) _ _ s
 refine aa (gN (wpAny_ite ?_))
 split
 ·first
   | exact aa (ab (ab (t8 rfl h0)))
   | exact ab (t8 rfl h0)
 ·first
   | exact aa (iX (aa (fu (aa (ao h (λit' s' h'=>ab (t8 rfl h')) λζ ζ x=>x)))))
   | (refine aa (iX ?_);show ar _ _ (nI iter.pos>>=_) _ _ s;exact aa (fu (aa (ao h (λit' s' h'=>ab (t8 rfl h')) λζ ζ x=>x))))
theorem Cc{b:Bool}{tgt iter elt:Expr}{ifs:List Expr}{sc:Scope}{pos:dN}{it:af}{St:List PV->dC->dH->ag->Prop}{use:Option (af->vN Unit)}{Q:af->ag->Prop}{l ys:List PV}{F:Aw}
  (hR:cC H0 A (n+1))(K:As cx σ sc)(G:Gd H0 I ρ R s.heap)(O:b4 I ρ cx σ env s.heap)(hZF:∀a,Z a->¬kK env a)(its:IU H0 w A tgt it Z St)(st:St l I ρ s)
  (htst:∀σ R,az (wf H0 w n ⟨sc.names,cx.base⟩ ifs σ R) (F.tvs ⟨sc.names,cx.base⟩ .And ifs σ R))(helt:∀σ R,az (ti H0 w n ⟨sc.names,cx.base⟩ elt σ R) (F.ev ⟨sc.names,cx.base⟩ elt σ R))(hnm:cL tgt=true)
  (hm:mj (ny F ⟨sc.names,cx.base⟩ tgt elt ifs (eT sc.names σ)) l R=some (ys,R'))(hall:∀y∈ys,y = .bool b)
  (hQ:∀I' ρ' s' C D m',s.heap.get? C=none->s.heap.get? D=none->C≠D->aS H0 eb (λa=>Z a\/a=D\/a=C) I ρ s I' ρ' R' s'->s'.heap.Ns C m'->¬fL I' ρ' C->VZ w b D ys I' ρ' s'->rF (ay pw w) A E use Q (.ref D) C (.ok .next) s') :
  ar (ay pw w) A (newSet (.type "set")) (λacc s3=>ar (ay pw w) A (kg sc env.globals (iS env sc.names []) [] env.qual none .none (some env)) (λcenv s4=>
    cB (ay pw w) A (.compStart (.SetComp elt [⟨tgt,iter,ifs,0⟩] sc pos) 0 it acc { cenv with scope:=relabel sc env }) (rF (ay pw w) A E use Q acc cenv.locals) s4) E s3) E s:=by
 unfold newSet AL
 refine aa (aa (gN (ab ?_)))
 exact cf (w9 (F:=F) (o:=MM w) hR K G O hZF its st htst helt hnm hm rfl rfl (Ln hall) (λs' e h=>⟨e,h⟩) (λζ ζ=>Cd (rU hnm)) (λcenv RR s4 h0 h=>nG h0 (h _)) λI' ρ' s' C m' hC hD hCD x hns hCo hac=>hQ I' ρ' s' C _ m' hC hD hCD x hns hCo hac)
theorem B3{tgt iter elt:Expr}{ifs:List Expr}{sc:Scope}{pos spos px tp:dN}{k:Nat}{x:Str}{l ys:List PV}{b:Bool}{F:Aw}(K0:qI cx σ sc=true)(hi:FN H0 w n cx tgt iter σ R l σ R1)
  (htst:∀σ R,az (wf H0 w n ⟨sc.names,cx.base⟩ ifs σ R) (F.tvs ⟨sc.names,cx.base⟩ .And ifs σ R))(helt:∀σ R,az (ti H0 w n ⟨sc.names,cx.base⟩ elt σ R) (F.ev ⟨sc.names,cx.base⟩ elt σ R))(hnm:cL tgt=true)
  (hm:mj (ny F ⟨sc.names,cx.base⟩ tgt elt ifs (eT sc.names σ)) l R1=some (ys,R2))(hne:ys≠[])(hall:∀y∈ys,y = .bool b)(hs:qG cx σ x (.bool b)=some σ') :
  yN H0 w n cx (.Assign [.Tuple [.Name x px] k tp] (.SetComp elt [⟨tgt,iter,ifs,0⟩] sc pos) spos) σ R .next σ' R2:=by
 intro A E I ρ env s hR G O
 have K:=rL K0
 refine sQ ?_ rfl rfl
 show ar _ A (comprehension (.SetComp elt [⟨tgt,iter,ifs,0⟩] sc pos) sc env (firstIterPos [⟨tgt,iter,ifs,0⟩] pos) (newSet (.type "set")) false (ed iter env)) _ E s
 refine nQ (use:=none) rfl (hi.1 env) (lb K O).1 K.kind (λx hx hl=>by rw [K.uniq x hx,hl]) (ao (hi.2 A _ I ρ env s hR G O) (λu s1 q=>ao q (λit s2 q=>?_) λζ ζ e=>e) λζ ζ e=>e)
 obtain⟨I2,ρ2,Z,St,its,st,x2,O2,hz⟩:=q
 refine Cc (b:=b) hR K x2.good O2 (λa ha hf=>O.alive a hf (hz a ha)) its st htst helt hnm hm hall λI' ρ' s' C D m' hC hD hCD x' hns hCo hac=>⟨m',hns,λh' hs'=>?_⟩
 have hDs':h'.get? D=some (ur w b):=(hs'.2 D (di hCD)).trans (hac.1.trans (by unfold Gs;cases ys<;>first | exact absurd rfl hne | rfl))
 have x7:a8 H0 eb I ρ s I' ρ' R2 { s' with heap:=h' }:=aS.close G x2 (x'.trans x2.good (aS.moreZ (Z:=λa=>a=C) (aS.quiet x'.good (λa ha=>ha▸hCo) (λa o ha e=>(hs'.2 a ha).trans e) rfl rfl (λa ha=>ha▸x2.good.freshStk hC)) λa ha=>an (an ha)))
  λa ha=>ha.elim (hz a) λha=>ha.elim (λe=>e▸mH x2 hD) λe=>e▸mH x2 hC
 show ar _ A (iD (.Tuple [.Name x px] k tp) env (.ref D)) _ E _
 rw [arm_assign_Tuple]
 refine aa (fu ?_)
 unfold unpack
 refine aa (aW (Bn (s:={ s' with heap:=h' }) hR.1 hDs' λh2 hk2=>?_))
 have x9:=x7.trans G (a8.quiet (s':={ s' with heap:=h2 }) x7.good nb (λa o ζ e=>hk2 a o e) (λζ h=>h.elim) rfl rfl)
 refine Mv (ao (pg (v:=.bool b) x9.good (O.step x9) hs jq) (λζ s5 q=>?_) λζ ζ e=>e)
 obtain⟨I5,ρ5,x5,O5⟩:=q
 exact assignInOrder_nil ⟨I5,ρ5,x9.weaken.trans G x5,O5,rfl⟩
theorem dB.mono{n0:Nat}(h:dB H0 w n0 sp)(hn:n0<=n):dB H0 w n sp:=λf pos kw R v R' e A E I ρ s pvs kvs hR G hp hk=>h f pos kw R v R' e A E I ρ s pvs kvs (hR.le hn) G hp hk
noncomputable def QK:EV->Bool
 | .oth=>false
 | .slice _ _ _=>false
 | .lam _ _ _=>false
 | .setc _ _ _=>false
 | _=>true
noncomputable def BR:EV->Bool
 | .listc _ _ _=>true
 | _=>false
structure W3(e:Expr):Prop where
 star:eL e=true
 marks:∀op,nU op e=false
 sub:∀o k,lz e false o k=vH [o,k] (lv o k)
 swap:BR (jh e)=false->∀(t:Option Expr) (line:Nat) (env:d9),xi e t line env=b7 false
theorem oj(e:Expr):QK (jh e)=true->W3 e:=by
 intro h
 have k:(BR (jh e)=false->∀(t:Option Expr) (line:Nat) (env:d9),xi e t line env=b7 false)/\eL e=true/\(∀op,nU op e=false) /\ ∀o k,lz e false o k=vH [o,k] (lv o k):=by
  refine fH (C:=λe v=>QK v=true->(BR v=false->∀(t:Option Expr) (line:Nat) (env:d9),xi e t line env=b7 false)/\eL e=true/\(∀op,nU op e=false) /\ ∀o k,lz e false o k=vH [o,k] (lv o k)) e ?_ ?_ ?_ ?_ ?_ ?_ ?_ ?_ ?_ ?_ ?_ ?_ ?_ ?_ ?_ ?_ ?_ h
  all_goals first
   | exact λζ h=>eg h
   | exact λζ ζ h=>eg h
   | exact λζ ζ ζ h=>eg h
   | exact λζ ζ ζ ζ h=>eg h
   | exact λζ ζ ζ=>⟨λζ ζ ζ ζ=>rfl,rfl,λζ=>rfl,λζ ζ=>rfl⟩
   | exact λζ ζ ζ ζ=>⟨λζ ζ ζ ζ=>rfl,rfl,λζ=>rfl,λζ ζ=>rfl⟩
   | exact λζ ζ ζ ζ ζ=>⟨λζ ζ ζ ζ=>rfl,rfl,λζ=>rfl,λζ ζ=>rfl⟩
   | exact λζ ζ ζ ζ ζ=>⟨λh=>(nomatch h),rfl,λζ=>rfl,λζ ζ=>rfl⟩
 exact⟨k.2.1,k.2.2.1,k.2.2.2,k.1⟩
inductive Fy(H0:Bs)(w:bF)(n:Nat)(cx:Cx)(elt:Expr)(gs:List fK)(sc:Scope)(σ:bq)(R:List aO)(y:List PV × List aO):Prop
 | mk (t it:Expr) (ifs:List Expr) (l:List PV) (R1:List aO) (F:Aw) (e:gs=[⟨t,it,ifs,0⟩]) (ht:cL t=true) (hs:qI cx σ sc=true) (hi:FN H0 w n cx t it σ R l σ R1) (htst:∀σ R,az (wf H0 w n ⟨sc.names,cx.base⟩ ifs σ R) (F.tvs ⟨sc.names,cx.base⟩ .And ifs σ R))
   (helt:∀σ R,az (ti H0 w n ⟨sc.names,cx.base⟩ elt σ R) (F.ev ⟨sc.names,cx.base⟩ elt σ R)) (hm:mj (ny F ⟨sc.names,cx.base⟩ t elt ifs (eT sc.names σ)) l R1=some (y.1,y.2)):Fy H0 w n cx elt gs sc σ R y
noncomputable def L5(H0:Bs)(w:bF)(n:Nat)(cx:Cx)(σ:bq)(R:List aO)(v:EV)(y:PV × List aO):Prop:=match v with
 | .listc elt gs sc=>∃ys,y.1 = .list ys/\ys.length<=SZ/\Fy H0 w n cx elt gs sc σ R (ys,y.2)
 | _=>True
structure I9(H0:Bs)(w:bF)(n:Nat)(cx:Cx)(e:Expr)(σ:bq)(R:List aO)(y:PV × List aO):Prop where
 s:dM H0 w n cx e σ R y.1 y.2
 ok:QK (jh e)=true
 c:L5 H0 w n cx σ R (jh e) y
inductive Oo(H0:Bs)(w:bF)(n:Nat)(cx:Cx)(l:Expr)(σ:bq)(R:List aO)(y:Bool × List aO):List mX->List Expr->Prop
 | mk (op:mX) (r:Expr) (h:On H0 w n cx l op r σ R y.1 y.2):Oo H0 w n cx l σ R y [op] [r]
noncomputable def Qk(H0:Bs)(w:bF)(n:Nat)(cx:Cx)(σ:bq)(R:List aO)(es:List Expr)(y:List PV × List aO):Prop:=match es with
 | []=>y=([],R)
 | e::r=>r=[]->∃a,y.1=[a]/\dM H0 w n cx e σ R a y.2
structure wi(H0:Bs)(w:bF)(n:Nat)(cx:Cx)(es:List Expr)(σ:bq)(R:List aO)(y:List PV × List aO):Prop where
 s:qm H0 w n cx es σ R y.1 y.2
 ok:∀e∈es,eL e=true
 len:y.1.length=es.length
 sh:Qk H0 w n cx σ R es y
noncomputable def Qw(H0:Bs)(w:bF)(n:Nat)(cx:Cx)(σ:bq)(R:List aO)(op:BoolOp)(es:List Expr)(y:Bool × List aO):Prop:=Fw H0 w n cx op es σ R y.1 y.2
structure QC(H0:Bs)(w:bF)(n:Nat)(cx:Cx)(σ:bq)(R:List aO)(ks:List cS)(y:List (Str × PV) × List aO):Prop where
 s:I8 H0 w n cx ks σ R y.1 y.2
 nil:ks=[]->y=([],R)
noncomputable def QA(H0:Bs)(w:bF)(n:Nat)(cx:Cx)(σ:bq)(R:List aO)(e:Option Expr)(y:Option Int × List aO):Prop:=IZ H0 w n cx e σ R y.1 y.2
noncomputable def VX(H0:Bs)(w:bF)(n:Nat)(cx:Cx)(σ:bq)(R:List aO)(tgt e:Expr)(y:List PV × List aO):Prop:=FN H0 w n cx tgt e σ R y.1 σ y.2
noncomputable def QR(H0:Bs)(w:bF)(n:Nat)(cx:Cx)(σ:bq)(R:List aO)(tgt e:Expr)(y:List PV × bq × List aO):Prop:=FN H0 w n cx tgt e σ R y.1 y.2.1 y.2.2
structure QB(H0:Bs)(w:bF)(n:Nat)(cx:Cx)(σ:bq)(R:List aO)(e:Expr)(y:PV × List aO):Prop where
 s:dM H0 w n cx e σ R y.1 y.2
 ok:eL e=true
structure Mj(H0:Bs)(w:bF)(n:Nat)(cx:Cx)(σ:bq)(R:List aO)(es:List Expr)(y:List PV × List aO):Prop where
 s:qm H0 w n cx es σ R y.1 y.2
 ok:∀e∈es,eL e=true
structure All(H0:Bs)(w:bF)(n:Nat)(F:Aw):Prop where
 ev:∀cx e σ R,az (I9 H0 w n cx e σ R) (F.ev cx e σ R)
 callv:∀cx g np args kws pos σ R,gl cx g=true->az (ti H0 w n cx (.Call (.Name g np) args kws pos) σ R) (F.callv cx (lV (eZ g) args kws) args kws σ R)
 orv:∀cx op es pos σ R,az (ti H0 w n cx (.BoolOp op es pos) σ R) (F.orv cx op es σ R)
 sbv:∀cx ve x i pos σ R R1,dM H0 w n cx ve σ R x R1->(cL ve||ml x)=true->az (ti H0 w n cx (.Subscript ve i pos) σ R) (F.sbv cx x i σ R1)
 cmpv:∀cx elt gs sc σ R,az (Fy H0 w n cx elt gs sc σ R) (F.cmpv cx elt gs sc σ R)
 cp:∀cx l ops rs σ R,az (λy=>Oo H0 w n cx l σ R y ops rs) (F.cp cx l ops rs σ R)
 tv:∀cx e σ R,az (Ol H0 w n cx e σ R) (F.tv cx e σ R)
 tvs:∀cx op es σ R,az (Qw H0 w n cx σ R op es) (F.tvs cx op es σ R)
 tst:∀cx es σ R,az (wf H0 w n cx es σ R) (F.tvs cx .And es σ R)
 evs:∀cx es σ R,az (wi H0 w n cx es σ R) (F.evs cx es σ R)
 evk:∀cx ks σ R,az (QC H0 w n cx σ R ks) (F.evk cx ks σ R)
 evo:∀cx e σ R,az (QA H0 w n cx σ R e) (F.evo cx e σ R)
 itv:∀cx tgt e σ R,(iH cx e=true->fB tgt=true)->az (VX H0 w n cx σ R tgt e) (F.itv cx e σ R)
 evm:∀cx e σ R,az (QB H0 w n cx σ R e) (F.evm cx e σ R)
 evms:∀cx es σ R,az (Mj H0 w n cx σ R es) (F.evms cx es σ R)
 ex:∀cx s σ R,az (Ax H0 w n cx s σ R) (F.ex cx s σ R)
 forIt:∀cx tgt e σ R,(iH cx e=true->fB tgt=true)->az (QR H0 w n cx σ R tgt e) (F.forIt cx e σ R)
 asg:∀cx t e pos σ R,az (Ax H0 w n cx (.Assign [t] e pos) σ R) (F.asg cx t e σ R)
 aug:∀cx t op e pos σ R,az (Ax H0 w n cx (.AugAssign t op e pos) σ R) (F.aug cx t op e σ R)
 exs:∀cx ss σ R,az (CA H0 w n cx ss σ R) (F.exs cx ss σ R)
variable {F:Aw}
theorem I9.star{y:PV × List aO}(h:I9 H0 w n cx e σ R y):eL e=true:=(oj e h.ok).star
theorem I9.one{y:PV × List aO}(h:I9 H0 w n cx e σ R y)(env:d9):bS [e] env=[(false,ed e env)]:=gd h.star
theorem wi.one{es:List Expr}{a:PV}(h:wi H0 w n cx es σ R ([a],R1)):∃e,es=[e]/\eL e=true/\dM H0 w n cx e σ R a R1:=by
 obtain⟨e,rfl⟩:=AC.mp h.len.symm
 obtain⟨b,q1,q2⟩:=h.sh rfl
 exact⟨e,rfl,h.ok e aj,(jH q1).1▸q2⟩
theorem wi.nil{es:List Expr}(h:wi H0 w n cx es σ R ([],R1)):es=[]/\R1=R:=by
 obtain⟨_,h2,h3,h4⟩:=h
 cases es with
 | nil=>exact⟨rfl,(eQ h4).2⟩
 | cons e r=>cases h3
theorem P1(H:All H0 w n F)(cx:Cx)(es:List Expr)(σ:bq)(R:List aO):az (wi H0 w n cx es σ R) (PB F cx es σ R):=by
 cases es with
 | nil=>exact az.some ⟨tO,λe he=>(nomatch he),rfl,rfl⟩
 | cons e es=>
  show az _ (bnd (F.ev cx e σ R) λv R1=>bnd (F.evs cx es σ R1) λvs R2=>some (v::vs,R2))
  refine az.bnd (H.ev cx e σ R) λv R1 h1=>az.bnd (H.evs cx es σ R1) λvs R2 h2=>az.some ⟨rg h1.s h2.s λenv=>gd h1.star,ix.mpr ⟨h1.star,h2.ok⟩,congrArg Nat.succ h2.len,λe=>?_⟩
  subst e
  obtain⟨q1,q2⟩:=eQ h2.sh
  exact⟨v,congrArg (v :: ·) q1,q2▸h1.s⟩
theorem Nk(H:All H0 w n F)(cx:Cx)(es:List Expr)(σ:bq)(R:List aO):az (Mj H0 w n cx σ R es) (LK F cx es σ R):=by
 cases es with
 | nil=>exact az.some ⟨tO,λe he=>nomatch he⟩
 | cons e es=>
  show az _ (bnd (F.evm cx e σ R) λv R1=>bnd (F.evms cx es σ R1) λvs R2=>some (v::vs,R2))
  exact az.bnd (H.evm cx e σ R) λv R1 h1=>az.bnd (H.evms cx es σ R1) λvs R2 h2=>az.some ⟨rg h1.s h2.s λenv=>gd h1.ok,ix.mpr ⟨h1.ok,h2.ok⟩⟩
set_option tactic.hygienic true in
theorem Ae{es:List Expr}(h:rV e=some es):∃p,e = .List es p:=by
 refine fH (C:=λe v=>L2 v=some es->∃p,e = .List es p) e ?_ ?_ ?_ ?_ ?_ ?_ ?_ (λl p h=>⟨p,aV h▸rfl⟩) ?_ ?_ ?_ ?_ ?_ ?_ ?_ ?_ ?_ h
 all_goals (intros;rename_i h;exact(gC h).elim)
theorem P3(H:All H0 w n F)(cx:Cx)(e:Expr)(σ:bq)(R:List aO):az (QB H0 w n cx σ R e) (PD F cx e σ R):=
 az.optO (λζ=>(H.ev cx e σ R).mono λy h=>⟨h.s,h.star⟩) λes he=>az.bnd (H.evms cx es σ R) λvs R1 h=>az.grd λhl=>az.some (by
  obtain⟨p,rfl⟩:=Ae he
  exact⟨KZ h.s (of_decide_eq_true hl),rfl⟩)
theorem P4(H:All H0 w n F)(cx:Cx)(ks:List cS)(σ:bq)(R:List aO):az (QC H0 w n cx σ R ks) (PE F cx ks σ R):=by
 cases ks with
 | nil=>exact az.some ⟨KT,λζ=>rfl⟩
 | cons k ks=>
  obtain⟨a,e,p⟩:=k
  cases a with
  | none=>exact az.none
  | some x=>
   show az _ (bnd (F.ev cx e σ R) λv R1=>bnd (F.evk cx ks σ R1) λvs R2=>some ((x,v)::vs,R2))
   exact az.bnd (H.ev cx e σ R) λv R1 h1=>az.bnd (H.evk cx ks σ R1) λvs R2 h2=>az.some ⟨H1 h1.s h2.s,λh=>nomatch h⟩
theorem P2(H:All H0 w n F)(cx:Cx)(e:Option Expr)(σ:bq)(R:List aO):az (QA H0 w n cx σ R e) (PC F cx e σ R):=by
 cases e with
 | none=>exact az.some HZ
 | some e=>
  show az _ (bnd (F.ev cx e σ R) λv R1=>intP v none λi=>some (some i,R1))
  exact az.bnd (H.ev cx e σ R) λv R1 h1=>Kz (λv=>dM H0 w n cx e σ R v R1) h1.s λi h=>az.some (HY h)
theorem PU(H:All H0 w n F)(cx:Cx)(op:BoolOp)(es:List Expr)(σ:bq)(R:List aO):az (Qw H0 w n cx σ R op es) (M8 F cx op es σ R):=by
 cases es with
 | nil=>exact az.some (JH (by cases op;exact av rfl;exact an rfl))
 | cons e es=>
  show az _ (bnd (F.tv cx e σ R) λb R1=>bif b==(op == .Or)then some (b,R1)else F.tvs cx op es σ R1)
  exact az.bnd (H.tv cx e σ R) λb R1 h1=>az.bif (λhb=>az.some (j4 h1 hb)) λhb=>(H.tvs cx op es σ R1).mono λy h2=>nX h1 hb h2
theorem PW(H:All H0 w n F)(cx:Cx)(es:List Expr)(σ:bq)(R:List aO):az (wf H0 w n cx es σ R) (M8 F cx .And es σ R):=by
 cases es with
 | nil=>exact az.some JI
 | cons e es=>
  show az _ (bnd (F.tv cx e σ R) λb R1=>bif b==(BoolOp.And == .Or)then some (b,R1)else F.tvs cx .And es σ R1)
  refine az.bnd (H.tv cx e σ R) λb R1 h1=>?_
  cases b with
  | false=>exact az.some (Gc h1)
  | true=>exact(H.tst cx es σ R1).mono λy h2=>MH h1 h2
theorem A8(h1:dM H0 w n cx e σ R v R1){c:Bool}(hc:qc R1 v=some c)(he:∀(env:d9) (whole:vN af),isTrue e env whole=(do let v <-whole;nI e.pos;kh [v] (FP v))):Cs H0 w n cx e σ R c R1:=by
 intro A E I ρ env s hR G O
 refine wpAny_isTrue_value (h1.then hR G O λI1 ρ1 u s1 x1 hu O1 G1=>?_) (he env _)
 exact ao (za vj G1 hc hu) (λζ ζ q=>ry.mono_ G x1 q) λζ ζ e=>e
theorem Dh(H:All H0 w n F)(he:∀(env:d9) (whole:vN af),isTrue e env whole=(do let v <-whole;nI e.pos;kh [v] (FP v))):az (Ol H0 w n cx e σ R) (wu F cx e σ R):=
 az.bnd (H.ev cx e σ R) λv R1 h1=>az.ret λb hb=>A8 h1.s hb he
set_option tactic.hygienic true in
theorem U1(H:All H0 w n F)(cx:Cx)(e:Expr)(σ:bq)(R:List aO):az (Ol H0 w n cx e σ R) (UW F cx e σ R):=
 fH (C:=λe v=>az (Ol H0 w n cx e σ R) (Vp F cx v e σ R)) e (λζ=>az.none) (λζ ζ=>Dh H λζ ζ=>rfl) (λζ ζ ζ=>Dh H λζ ζ=>rfl) (λζ ζ ζ ζ=>Dh H λζ ζ=>rfl) (λζ ζ ζ=>Dh H λζ ζ=>rfl) (λζ ζ ζ ζ=>az.none) (λζ ζ ζ=>az.none) (λζ ζ=>az.none)
  (λζ ζ ζ ζ=>az.none) (λζ ζ ζ ζ=>az.none) (λζ ζ ζ ζ=>az.none) (λop x p=>by
   cases op
   case Not=>
    show az _ (bnd (F.tv cx x σ R) λc R1=>some (!c,R1))
    exact az.bnd (H.tv cx x σ R) λc R1 h=>az.some (Ba h)
   all_goals exact az.none) (λζ ζ ζ ζ=>az.none) (λop es p=>(H.tvs cx op es σ R).mono λy h=>Gb h) (λl ops rs p=>(H.cp cx l ops rs σ R).mono λy h=>by
   obtain⟨op,r,hc⟩:=h
   exact i9 hc) (λζ ζ ζ=>az.none) (λζ ζ ζ ζ=>az.none)
theorem Gq{γ:Type}{C:Expr->γ->Prop}{d:γ}{k:Str->Expr->γ}(e:Expr)(hd:∀e,C e d)(hk:∀g np a p,C (.Call (.Name g np) [a] [] p) (k g a)):C e (CV e d k):=
 ro e hd λf as ks p=>gJ (C:=λf y=>C (.Call f as ks p) y) f (λζ=>hd _) λg np=>fg (C:=λas y=>C (.Call (.Name g np) as ks p) y) as (λζ=>hd _) λa=>gW (C:=λks y=>C (.Call (.Name g np) [a] ks p) y) ks (λζ=>hd _) (hk g np a p)
theorem Ev(h:xV r=true):∃k p,r = .Constant .none k p:=
 w8 (C:=λr b=>b=true->∃k p,r = .Constant .none k p) (k:=λc=>match c with | .none=>true | _=>false) r (λζ=>eg) (λc k p h=>by cases c<;>first | exact⟨k,p,rfl⟩ | exact eg h) h
theorem U4(B:dy w H0.heap)(H:All H0 w n F)(cx:Cx)(l:Expr)(ops:List mX)(rs:List Expr)(σ:bq)(R:List aO):az (λy=>Oo H0 w n cx l σ R y ops rs) (VH F cx l ops rs σ R):=
 fg (C:=λops o=>az (λy=>Oo H0 w n cx l σ R y ops rs) o) ops (λζ=>az.none) λop=>fg (C:=λrs o=>az (λy=>Oo H0 w n cx l σ R y [op] rs) o) rs (λζ=>az.none) λr=>az.bif (λhs=>az.grd λh1=>by
   obtain⟨q1,q2⟩:=eA h1
   obtain⟨ck,cp,rfl⟩:=Ev q2
   cases aJ q1
   refine Gq (C:=λl o=>uS cx l=true->az (λy=>Oo H0 w n cx l σ R y [.Is] [.Constant .none ck cp]) o) l (λζ ζ=>az.none) (λg np a p hs=>?_) hs
   obtain⟨g1,g2⟩:=eA hs
   exact az.bnd (H.ev cx a σ R) λv R1 h=>Ox (λv=>dM H0 w n cx a σ R v R1) h.s λx h1=>az.some ⟨_,_,Fg B g1 (aJ g2) h1 h.one⟩)
  λζ=>az.bnd (H.ev cx l σ R) λa R1 h1=>az.bnd (H.ev cx r σ R1) λb R2 h2=>az.ret λc hc=>⟨op,r,L4 h1.s h2.s hc ((oj r h2.ok).marks op)⟩
theorem PY(H:All H0 w n F)(cx:Cx)(op:BoolOp)(es:List Expr)(pos:dN)(σ:bq)(R:List aO):az (ti H0 w n cx (.BoolOp op es pos) σ R) (Pz F cx op es σ R):=az.grd λh=>by
 cases aJ h
 refine lJ (C:=λes o=>az (ti H0 w n cx (.BoolOp .Or es pos) σ R) o) es (λζ=>az.none) λa b=>az.bnd (H.ev cx a σ R) λx R1 h1=>az.opt λc hc=>?_
 cases c with
 | true=>exact az.some (H4 vj h1.s hc ⟨rfl,rfl⟩)
 | false=>exact(H.ev cx b σ R1).mono λy h2=>H4 vj h1.s hc h2.s
theorem Nj(H:All H0 w n F){ve:Expr}{x:PV}{i:Expr}{pos:dN}(h1:dM H0 w n cx ve σ R x R1)(hg:(cL ve||ml x)=true):az (ti H0 w n cx (.Subscript ve i pos) σ R) (bnd (F.ev cx i σ R1) λu R2=>intP u none λk=>fO (wV R2 x k) R2):=
 az.bnd (H.ev cx i σ R1) λu R2 h2=>Kz (λu=>dM H0 w n cx i σ R1 u R2) h2.s λk h3=>az.ret λv hv=>KX h1 hg h3 hv (oj i h2.ok).sub
theorem PX(H:All H0 w n F)(cx:Cx)(ve:Expr)(x:PV)(i:Expr)(pos:dN)(σ:bq)(R R1:List aO)(h1:dM H0 w n cx ve σ R x R1)(hg:(cL ve||ml x)=true):az (ti H0 w n cx (.Subscript ve i pos) σ R) (Py F cx x i σ R1):=by
 refine fH (C:=λi v=>az (ti H0 w n cx (.Subscript ve i pos) σ R) (OA F cx x i v σ R1)) i ?_ ?_ ?_ ?_ ?_ ?_ ?_ ?_ ?_ ?_ ?_ ?_ ?_ ?_ ?_ ?_ λa b c p=>tG (C:=λc o=>az (ti H0 w n cx (.Subscript ve (.Slice a b c p) pos) σ R) o) c
  (az.bnd (H.evo cx a σ R1) λi1 R2 h2=>az.bnd (H.evo cx b σ R2) λj1 R3 h3=>az.ret λv hv=>H3 h1 hg h2 h3 hv) (λζ=>az.none)
 all_goals (intros;exact Nj H h1 hg)
noncomputable def ql(cx:Cx)(e:Expr):IK->Prop
 | .range a=>∃f np p,e = .Call (.Name f np) [a] [] p/\gl cx f=true/\eZ f=some (.type "range")
 | .enum a=>∃f np p,e = .Call (.Name f np) [a] [] p/\gl cx f=true/\eZ f=some (.type "enumerate")
 | .plain=>∀(env:d9) x,ki e env x=b7 x
 | .bad=>True
set_option tactic.hygienic true in
theorem KB(cx:Cx)(e:Expr):ql cx e (ik cx e):=by
 refine fH (C:=λe v=>ql cx e (VK cx v)) e ?_ ?_ ?_ (λf as ks p=>fH (C:=λf v=>ql cx (.Call f as ks p) (VL cx v as ks)) f ?_ (λg np=>?_) ?_ ?_ ?_ ?_ ?_ ?_ ?_ ?_ ?_ ?_ ?_ ?_ ?_ ?_ ?_) ?_ ?_ ?_ ?_ ?_ ?_ ?_ ?_ ?_ ?_ ?_ ?_ ?_
 case refine_5=>
  refine fg (C:=λas y=>ql cx (.Call (.Name g np) as ks p) y) as (λζ=>trivial) λa=>gW (C:=λks y=>ql cx (.Call (.Name g np) [a] ks p) y) ks (λζ=>trivial) ?_
  refine ky (C:=ql cx (.Call (.Name g np) [a] [] p)) (λh=>⟨g,np,p,rfl,(eA h).1,aJ (eA h).2⟩) λζ=>ky (C:=ql cx (.Call (.Name g np) [a] [] p)) (λh=>⟨g,np,p,rfl,(eA h).1,aJ (eA h).2⟩) λζ=>trivial
 all_goals (intros;first | exact trivial | exact λζ ζ=>rfl)
theorem PZ(B:dy w H0.heap)(H:All H0 w n F)(cx:Cx)(tgt e:Expr)(σ:bq)(R:List aO)(hen:iH cx e=true->fB tgt=true):az (VX H0 w n cx σ R tgt e) (M9 F cx e σ R):=by
 have hk:=KB cx e
 unfold M9 Ku
 unfold iH at hen
 generalize ik cx e=k at hk hen ⊢
 cases k with
 | bad=>exact az.none
 | plain=>
  show az _ (bnd (F.ev cx e σ R) λv R1=>seqP v none λl=>some (l,R1))
  exact az.bnd (H.ev cx e σ R) λv R1 h=>QY (λv=>dM H0 w n cx e σ R v R1) h.s (λl h=>az.some (Hy h hk)) (λl h=>az.some (Kv h hk))
 | range a=>
  obtain⟨f,np,p,rfl,g1,g2⟩:=hk
  show az _ (bnd (F.ev cx a σ R) λv R1=>intP v none λi=>grd (decide (-1000000<=i)&&decide (i<=1000000)) (some (iG i,R1)))
  exact az.bnd (H.ev cx a σ R) λv R1 h=>Kz (λv=>dM H0 w n cx a σ R v R1) h.s λi h1=>az.grd λhb=>az.some (EO B g1 g2 h1 (yh hb).1 (yh hb).2 h.one)
 | enum a=>
  obtain⟨f,np,p,rfl,g1,g2⟩:=hk
  show az _ (bnd (F.ev cx a σ R) λv R1=>listP v none λl=>some (mC 0 l,R1))
  exact az.bnd (H.ev cx a σ R) λv R1 h=>Dc (λv=>dM H0 w n cx a σ R v R1) h.s λl h1=>az.some (Hz B (hen rfl) g1 g2 h1 h.one)
theorem Nl(H:All H0 w n F)(cx:Cx)(elt:Expr)(gs:List fK)(sc:Scope)(σ:bq)(R:List aO):az (Fy H0 w n cx elt gs sc σ R) (LL F cx elt gs sc σ R):=
 fg (C:=λgs o=>az (Fy H0 w n cx elt gs sc σ R) o) gs (λζ=>az.none) λg=>az.grd λhc=>by
  obtain⟨t,it,ifs,a⟩:=g
  obtain⟨q1,hc⟩:=eA hc
  obtain⟨q2,hc⟩:=eA hc
  obtain⟨q3,q4⟩:=eA hc
  cases of_decide_eq_true q1
  exact az.bnd (H.itv cx t it σ R λh=>by rw [h]at q3;exact eg q3) λl R1 hi=>λy hm=>⟨t,it,ifs,l,R1,F,rfl,q2,q4,hi,λσ R=>H.tst _ _ _ _,λσ R=>(H.ev _ _ _ _).mono λζ h=>h.s,hm⟩
theorem Ks(H:All H0 w n F)(cx:Cx)(tgt e:Expr)(σ:bq)(R:List aO)(hen:iH cx e=true->fB tgt=true):az (QR H0 w n cx σ R tgt e) (G8 F cx e σ R):=
 az.optO (λζ=>az.bnd (H.itv cx tgt e σ R hen) λl R1 h=>az.some h) λy hy=>az.some (by
  revert hy
  refine gJ (C:=λe o=>o=some y->QR H0 w n cx σ R tgt e (y.2,rb y.1 σ R)) e (λζ h=>(gC h).elim) λx p h=>?_
  obtain⟨v,hv,h⟩:=ig h
  revert h hv
  refine Kd (C:=λv o=>σ.lookup x=some v->o=some y->QR H0 w n cx σ R tgt (.Name x p) (y.2,rb y.1 σ R)) v (λζ ζ h=>(gC h).elim) λk hx h=>?_
  obtain⟨r,hr,h⟩:=ig h
  cases r with
  | lst l=>
   cases h
   exact Kw (nn hx) hr (λζ ζ=>rfl)
  | _=>cases h)
theorem P0(H:All H0 w n F)(cx:Cx)(ss:List ip)(σ:bq)(R:List aO):az (CA H0 w n cx ss σ R) (PA F cx ss σ R):=by
 cases ss with
 | nil=>exact az.some Dy
 | cons s ss=>
  show az _ (bnd (F.ex cx s σ R) λf y=>uz f y (F.exs cx ss y.1 y.2))
  refine az.bnd (H.ex cx s σ R) λf y h1=>?_
  cases f with
  | next=>exact(H.exs cx ss y.1 y.2).mono λz h2=>HT h1 h2
  | _=>exact az.some (rf h1 λq=>nomatch q)
end
end
end Mine
end
section
open PySem PySem.W PyProof.Rows PySem.Spec
namespace Mine
noncomputable section
section
variable {H0:Bs} {w:bF} {n m:Nat} {sp:Spec} {I I' I'':dC} {ρ ρ' ρ'':dH} {R R' R'' R1 R2 R3:List aO} {cx:Cx} {σ σ' σ1 σ2:bq} {env:d9} {A:bD} {E:af->ag->Prop} {s s' s'':ag} {e l r t o tgt:Expr} {v:PV} {f:Fl} {X Y Z:aB->Prop} {F:Aw}
theorem BK{x:Str}{st:ip}(h:∀σ',qG cx σ x v=some σ'->yN H0 w n cx st σ R .next σ' R1):az (Ax H0 w n cx st σ R) (D9 cx σ x v R1):=az.opt λσ' e=>az.some (h σ' e)
set_option tactic.hygienic true in
theorem P6(B:dy w H0.heap)(H:All H0 w n F)(cx:Cx)(t:Expr)(op:cy)(e:Expr)(pos:dN)(σ:bq)(R:List aO):az (Ax H0 w n cx (.AugAssign t op e pos) σ R) (PF F cx t op e σ R):=by
 refine fH (C:=λt v=>az (Ax H0 w n cx (.AugAssign t op e pos) σ R) (Qu F cx v op e σ R)) t ?_ (λx p=>(show az _ (optO (σ.lookup x) none λa=>bnd (F.ev cx e σ R) λb R1=>optO (rt op a b) none λv=>D9 cx σ x v R1)from az.opt λa ha=>az.bnd (H.ev cx e σ R) λb R1 h1=>az.opt λv hv=>BK λσ' hs=>B4 ha h1.s hv hs)) ?_ ?_ (λo a p=>?_) ?_ ?_ ?_ ?_ ?_ ?_ ?_ ?_ ?_ ?_ ?_ ?_
 case refine_4=>
  show az _ (bnd (F.ev cx o σ R) λov R1=>ju R1 ov λk C fs=>grd (ta C a) (optO (fs.lookup a) none λx=>bnd (F.ev cx e σ R1) λb R2=>ju R2 (.obj k) λζ D fs'=>grd (decide (D=C)&&decide (fs'.length<900)) (optO (rt op x b) none λv=>some (Fl.next,σ,R2.set k (.inst C (iF fs' a v))))))
  refine az.bnd (H.ev cx o σ R) λov R1 h1=>zS (λov=>dM H0 w n cx o σ R ov R1) h1.s λk C fs h1 hr=>az.grd λhf=>az.opt λx hx=>az.bnd (H.ev cx e σ R1) λb R2 h2=>zS (λv=>v = .obj k) rfl λk' D fs' q hr2=>az.grd λhc=>?_
  cases q
  obtain⟨q1,q2⟩:=yh hc
  cases q1
  exact az.opt λv hv=>az.some (B5 B h1 hr hf hx h2.s hr2 q2 hv)
 all_goals (intros;exact az.none)
noncomputable def sf(t e:Expr):AK->Prop
 | .disp x=>∃p es q,t = .Name x p/\e = .List es q
 | .one x elt gs sc=>∃px k p q,t = .Tuple [.Name x px] k p/\e = .SetComp elt gs sc q
 | .attr o a=>∃p,t = .Attribute o a p
 | .plain=>True
set_option tactic.hygienic true in
theorem Ll(t e:Expr):sf t e (ak t e):=by
 refine fH (C:=λt v=>sf t e (VT v e)) t ?_ (λx p=>?_) ?_ ?_ (λo a p=>⟨p,rfl⟩) ?_ (λts k p=>?_) ?_ ?_ ?_ ?_ ?_ ?_ ?_ ?_ ?_ ?_
 case refine_2=>exact(tG (C:=λo y=>o=rV e->sf (.Name x p) e y) (d:=.plain) (k:=λζ=>.disp x) (rV e) (λζ=>trivial) (λes h=>by obtain⟨q,rfl⟩:=Ae h.symm;exact⟨p,es,q,rfl,rfl⟩)) rfl
 case refine_6=>
  refine fg (C:=λts y=>sf (.Tuple ts k p) e y) ts (λζ=>trivial) λt1=>gJ (C:=λt1 y=>sf (.Tuple [t1] k p) e y) t1 (λζ=>trivial) λx px=>?_
  refine fH (C:=λe v=>sf (.Tuple [.Name x px] k p) e (VU x v)) e ?_ ?_ ?_ ?_ ?_ ?_ ?_ ?_ (λelt gs sc q=>⟨px,k,p,q,rfl,rfl⟩) ?_ ?_ ?_ ?_ ?_ ?_ ?_ ?_
  all_goals (intros;trivial)
 all_goals (intros;trivial)
theorem Bb(h:iC cx t v σ=some σ1)(htt:(fB t&&fB e)=false)(env:d9):tm [t] e env=b7 none:=by
 cases t<;>first | rfl | (cases e<;>first | rfl | (cases h;done) | cases htt) | cases h
theorem Ik(h:iC cx t v σ=some σ1)(env:d9):(mT [t] env).map (·.2)=[iD t env]:=by cases t<;>first | rfl | cases h
theorem DY{a:Str}{p:dN}(env:d9):tm [.Attribute o a p] e env=b7 none:=rfl
theorem D7{a:Str}{p pos:dN}(env:d9):tj [.Attribute o a p] e pos.line env=b7 false:=by cases e<;>rfl
set_option tactic.hygienic true in
theorem Hl(h:BR (jh e)=true):∃elt gs sc p,e = .ListComp elt gs sc p:=by
 refine fH (C:=λe v=>BR v=true->∃elt gs sc p,e = .ListComp elt gs sc p) e ?_ ?_ ?_ ?_ ?_ ?_ ?_ ?_ ?_ (λelt gs sc p ζ=>⟨elt,gs,sc,p,rfl⟩) ?_ ?_ ?_ ?_ ?_ ?_ ?_ h
 all_goals (intros;rename_i h;exact eg h)
theorem JN{elt:Expr}{gs:List fK}{sc:Scope}{p:dN}(env:d9)(ht:cL t=false)(pos:dN):tj [t] (.ListComp elt gs sc p) pos.line env=b7 false:=by
 cases t<;>first | rfl | cases ht
theorem Kr(B:dy w H0.heap)(H:All H0 w n F)(cx:Cx)(t e:Expr)(pos:dN)(σ:bq)(R:List aO)(htt:(!(fB t&&fB e))=true):az (Ax H0 w n cx (.Assign [t] e pos) σ R) (bnd (F.ev cx e σ R) λv R1=>optO (iC cx t v σ) none λσ'=>some (.next,σ',R1)):=by
 refine az.bnd (H.ev cx e σ R) λv R1 h1=>az.opt λσ1 hb=>az.some ?_
 have go:=λh=>r5 (pos:=pos) h1.s hb h (Bb hb (by cases q:fB t&&fB e with | false=>rfl | true=>rw [q]at htt;exact eg htt)) (Ik hb)
 cases hl:BR (jh e)with
 | false=>exact go λenv=>(oj e h1.ok).swap hl _ _ _
 | true=>
  obtain⟨elt,gs,sc,p,rfl⟩:=Hl hl
  cases hn:cL t with
  | false=>exact go λenv=>JN env hn pos
  | true=>
   obtain⟨x,px,rfl⟩:=oz hn
   obtain⟨ys,e1,hlen,t',it,ifs,l,R2,F',rfl,htn,hsc,hi,htst,helt,hm⟩:=h1.c
   cases e1
   exact KS hsc hi htst helt htn hm hlen hb
theorem P7(B:dy w H0.heap)(H:All H0 w n F)(cx:Cx)(t e:Expr)(pos:dN)(σ:bq)(R:List aO):az (Ax H0 w n cx (.Assign [t] e pos) σ R) (Na F cx t e σ R):=by
 have hk:=Ll t e
 unfold Na Fu
 generalize ak t e=k at hk ⊢
 cases k with
 | disp x=>
  obtain⟨p,es,q,rfl,rfl⟩:=hk
  exact az.bnd (H.evm cx _ σ R) λv R1 h=>BK λσ' hs=>r5 h.s hs (λζ=>rfl) (λζ=>rfl) (λζ=>rfl)
 | one x elt gs sc=>
  obtain⟨px,k,p,q,rfl,rfl⟩:=hk
  refine az.bnd (H.cmpv cx elt gs sc σ R) λys R2 h=>?_
  cases ys with
  | nil=>exact az.none
  | cons y r=>
   refine Qp (λy=>Fy H0 w n cx elt gs sc σ R (y::r,R2)) h λb h=>az.grd λhall=>BK λσ' hs=>?_
   obtain⟨t,it,ifs,l,R1,F',rfl,htn,hsc,hi,htst,helt,hm⟩:=h
   refine B3 (b:=b) hsc hi htst helt htn hm (λq=>nomatch q) (ix.mpr ⟨rfl,λz hz=>?_⟩) hs
   exact vu (C:=λz y=>y=true->z = .bool b) (k:=λc=>c==b) z (λζ=>eg) (λc h=>congrArg PV.bool (aJ h)) (bu.mp hall z hz)
 | attr o a=>
  obtain⟨p,rfl⟩:=hk
  exact az.bnd (H.ev cx e σ R) λv R1 h1=>az.bnd (H.ev cx o σ R1) λov R2 h2=>zS (λov=>dM H0 w n cx o σ R1 ov R2) h2.s λk C fs h2 hr=>az.grd λhc=>az.some (B1 B h1.s h2 hr (eA hc).1 (of_decide_eq_true (eA hc).2) D7 DY)
 | plain=>exact az.grd λhtt=>Kr B H cx t e pos σ R htt
set_option tactic.hygienic true in
theorem U2(B:dy w H0.heap)(H:All H0 w n F)(cx:Cx)(s:ip)(σ:bq)(R:List aO):az (Ax H0 w n cx s σ R) (VF F cx s σ R):=by
 cases s
 case Expr e pos=>
  show az _ (bnd (F.ev cx e σ R) λv R1=>grd (qP v) (some (Fl.next,σ,R1)))
  refine az.bnd (H.ev cx e σ R) λv R1 h1=>az.grd λhv=>az.some (gE h1.s hv λenv=>(oj e h1.ok).swap ?_ _ _ _)
  cases hl:BR (jh e)with
  | false=>rfl
  | true=>
   obtain⟨elt,gs,sc,p,rfl⟩:=Hl hl
   obtain⟨ys,e1,_⟩:=h1.c
   cases e1
   exact eg hv
 case Assign ts e pos=>exact fg (C:=λts o=>az (Ax H0 w n cx (.Assign ts e pos) σ R) o) ts (λζ=>az.none) λt=>H.asg cx t e pos σ R
 case AugAssign t op e pos=>exact H.aug cx t op e pos σ R
 case If t a b pos=>exact show az _ (bnd (F.tv cx t σ R) λc R1=>F.exs cx (bif c then a else b) σ R1)from az.bnd (H.tv cx t σ R) λc R1 h1=>(H.exs cx _ σ R1).mono λy h2=>LY h1 h2
 case While t b o pos=>exact gW (C:=λo y=>az (Ax H0 w n cx (.While t b o pos) σ R) y) o (λζ=>az.none) (HU (H.tv cx t) (H.exs cx b) _)
 case For t it b o pos=>exact gW (C:=λo y=>az (Ax H0 w n cx (.For t it b o pos) σ R) y) o (λζ=>az.none) (az.grd λhc=>az.bnd (H.forIt cx t it σ R λq=>by
   rw [q]at hc
   cases q2:fB t with
   | true=>rfl
   | false=>rw [q2]at hc;exact eg hc) λl y hi=>NT hi (H.exs cx b))
 case Try b hs o f pos=>exact gW (C:=λo y=>az (Ax H0 w n cx (.Try b hs o f pos) σ R) y) o (λζ=>az.none) (gW (C:=λf y=>az (Ax H0 w n cx (.Try b hs [] f pos) σ R) y) f (λζ=>az.none) (by
   cases hs with
   | nil=>exact az.none
   | cons h hs=>exact(H.exs cx b σ R).mono λy h=>NS h))
 case Return e pos=>exact tG (C:=λe y=>az (Ax H0 w n cx (.Return e pos) σ R) y) e az.none λe=>az.bnd (H.ev cx e _ _) λv R1 h=>az.some (oX h.s)
 case Break pos=>exact az.some HW
 case Continue pos=>exact az.some z6
 case Pass pos=>exact az.some KQ
 all_goals exact az.none
noncomputable def eV(g:Option af)(args:List Expr)(kws:List cS):CK->Prop
 | .tupMap f e=>g=some (.type "tuple")/\kws=[] /\ ∃g2 np2 h hp p,args=[.Call (.Name g2 np2) [.Name h hp,e] [] p]/\eZ g2=some (.type "map")/\eZ h=some (.ref f)
 | .maxLen e=>g=some (.builtin "max")/\args=[e] /\ ∃k,kws=[k]/\nameE k.value false (λk=>eZ k==some (.builtin "len"))=true
 | .sortKey e=>g=some (.builtin "sorted")/\args=[e]/\Df kws=true
 | .listOf e=>g=some (.type "list")/\args=[e]/\kws=[]
 | .deque=>g=some (.type "collections.deque")/\args=[]/\kws=[]
 | .new C f=>(C=737/\f=507/\g=some (.ref 737)/\kws=[] /\ ∃e,args=[e])\/(C=872/\f=796/\g=some (.ref 872) /\ ∃e es,args=e::es)
 | .fn f=>g=some (.ref f)
 | .bi f=>g=some f/\kws=[]/\((∃T,f = .type T) \/ ∃T,f = .builtin T)
 | .bad=>True
theorem Fn(T:String)(args:List Expr):eV (some (.type T)) args [] (Qn T args):=by
 refine ky (C:=eV (some (.type T)) args []) (λh=>?_) λζ=>ky (C:=eV (some (.type T)) args []) (λh=>?_) λζ=>ky (C:=eV (some (.type T)) args []) (λh=>?_) λζ=>⟨rfl,rfl,av ⟨T,rfl⟩⟩
 ·cases aJ h
  refine fg (C:=λargs y=>eV _ args [] y) args (λζ=>trivial) λc=>ro (C:=λc y=>eV _ [c] [] y) c (λζ=>trivial) λf as ks p=>gJ (C:=λf y=>eV _ [.Call f as ks p] [] y) f (λζ=>trivial) λg2 np2=>ky (C:=eV _ _ []) (λq=>?_) λζ=>trivial
  obtain⟨q1,q2⟩:=eA q
  cases eO.mp q1
  refine lJ (C:=λas y=>eV _ [.Call (.Name g2 np2) as [] p] [] y) as (λζ=>trivial) λh e=>gJ (C:=λh y=>eV _ [.Call (.Name g2 np2) [h,e] [] p] [] y) h (λζ=>trivial) λh hp=>?_
  refine tG (C:=λo y=>eZ h=o->eV _ _ [] y) (eZ h) (λζ=>trivial) (λv=>J6 (C:=λv y=>eZ h=some v->eV _ _ [] y) v (λζ ζ=>trivial) λa hv=>⟨rfl,rfl,g2,np2,h,hp,p,rfl,aJ q2,hv⟩) rfl
 ·cases aJ h
  exact fg (C:=λargs y=>eV _ args [] y) args (λζ=>trivial) λc=>⟨rfl,rfl,rfl⟩
 ·cases aJ h
  exact gW (C:=λargs y=>eV _ args [] y) args (λζ=>trivial) ⟨rfl,rfl,rfl⟩
theorem Fo(T:String)(args:List Expr)(kws:List cS):eV (some (.builtin T)) args kws (Qo T args kws):=by
 cases kws with
 | nil=>exact⟨rfl,rfl,an ⟨T,rfl⟩⟩
 | cons k r=>
  refine fg (C:=λargs y=>eV _ args (k::r) y) args (λζ=>trivial) λe=>gW (C:=λr y=>eV _ [e] (k::r) y) r (λζ=>trivial) (ky (C:=eV _ [e] [k]) (λh=>?_) λζ=>ky (C:=eV _ [e] [k]) (λh=>?_) λζ=>trivial)
  ·obtain⟨q1,q2⟩:=eA h
   cases aJ q1
   exact⟨rfl,rfl,k,rfl,q2⟩
  ·obtain⟨q1,q2⟩:=eA h
   cases aJ q1
   exact⟨rfl,rfl,q2⟩
theorem Ci(f:aB)(args:List Expr)(kws:List cS):eV (some (.ref f)) args kws (L7 f args kws):=by
 refine ky (C:=eV (some (.ref f)) args kws) (λh=>?_) λζ=>ky (C:=eV (some (.ref f)) args kws) (λh=>?_) λζ=>rfl
 ·cases aJ h
  exact gW (C:=λkws y=>eV _ args kws y) kws (λζ=>trivial) (fg (C:=λargs y=>eV _ args [] y) args (λζ=>trivial) λe=>av ⟨rfl,rfl,rfl,rfl,e,rfl⟩)
 ·cases aJ h
  cases args with
  | nil=>exact trivial
  | cons e es=>exact an ⟨rfl,rfl,rfl,e,es,rfl⟩
set_option tactic.hygienic true in
theorem Ck(g:Option af)(args:List Expr)(kws:List cS):eV g args kws (lV g args kws):=by
 cases g with
 | none=>exact trivial
 | some v=>
  cases v
  case type T=>exact gW (C:=λkws y=>eV _ args kws y) kws (λζ=>trivial) (Fn T args)
  case builtin T=>exact Fo T args kws
  case ref f=>exact Ci f args kws
  all_goals exact trivial
theorem HN{f:aB}(h:Oh f=true)(P:dZ):∃o fd,(KK pw P).lookup f=some o/\o.data = .func fd:=by
 have k:(VM.all λf=>(E6 pw f).isSome)=true:=∅
 obtain⟨fi,hf⟩:=fX.mp (bu.mp k f (cZ.mp h))
 obtain⟨qual,dV,pm,cd,g1,_⟩:=rd P hf
 exact⟨_,_,g1,rfl⟩
theorem BC{C fa:aB}{a:Str}(h:C8 C a=some fa)(P:dZ):∃ob fd,(KK pw P).lookup fa=some ob/\ob.data = .func fd:=by
 have k:(C7.all λx=>(E6 pw x.2.2).isSome)=true:=∅
 obtain⟨fi,hf⟩:=fX.mp (bu.mp k _ (wI h))
 obtain⟨qual,dV,pm,cd,g1,_⟩:=rd P hf
 exact⟨_,_,g1,rfl⟩
theorem qk{es:List Expr}{pos:dN}(h:∀e∈es,eL e=true)(hne:es≠[])(env:d9):(hO pos (bS es env)).any (·.1)=false /\ ∃x rest,hO pos (bS es env)=(false,x)::rest:=by
 refine⟨rq h,?_⟩
 cases es with
 | nil=>exact absurd rfl hne
 | cons e es=>exact⟨_,_,jz h⟩
noncomputable def yC(H0:Bs)(w:bF)(A:bD)(E:af->ag->Prop)(I:dC)(ρ:dH)(R:List aO)(s:ag)(f:af)(us:List af)(v:PV):Prop:=ar (ay pw w) A (call f us) (fM H0 I ρ s v R) E s
theorem P8(G:Gd H0 I ρ R s.heap){x t:PV}{u y:af}(hu:cq I ρ x u)(hy:cq I ρ t y):az (yC H0 w A E I ρ R s (.builtin "isinstance") [u,y]) (typV t none λT=>grd (T=="str"||(T=="bytes"||T=="tuple")) (optO (BI x T) none λb=>some (.bool b))):=
 lH (C:=λt o=>cq I ρ t y->az (yC H0 w A E I ρ R s (.builtin "isinstance") [u,y]) o) t (λζ ζ=>az.none) (λT hy=>az.grd λhT=>az.opt λb hb=>az.some (Nq G ((gt.mp hT).imp aJ λh=>(gt.mp h).imp aJ aJ) hb hu hy)) hy
theorem Ky(G:Gd H0 I ρ R s.heap){t l:PV}{u y:af}(hu:cq I ρ t u)(hy:cq I ρ l y):az (yC H0 w A E I ρ R s (.builtin "issubclass") [u,y]) (typV t none λT=>tupP l none λus=>twoL us none λu v=>typV u none λU=>typV v none λW=>grd (T=="str"&&(U=="str"&&W=="bytes")) (some (.bool true))):=by
 refine lH (C:=λt o=>cq I ρ t u->az (yC H0 w A E I ρ R s (.builtin "issubclass") [u,y]) o) t (λζ ζ=>az.none) (λT hu=>?_) hu
 refine qB (C:=λl o=>cq I ρ l y->az (yC H0 w A E I ρ R s (.builtin "issubclass") [u,y]) o) l (λζ ζ=>az.none) (λus hy=>?_) hy
 refine lJ (C:=λus o=>cq I ρ (.tup us) y->az (yC H0 w A E I ρ R s (.builtin "issubclass") [u,y]) o) us (λζ ζ=>az.none) (λa b hy=>?_) hy
 refine lH (C:=λa o=>cq I ρ (.tup [a,b]) y->az (yC H0 w A E I ρ R s (.builtin "issubclass") [u,y]) o) a (λζ ζ=>az.none) (λU hy=>?_) hy
 refine lH (C:=λb o=>cq I ρ (.tup [.val (.type U),b]) y->az (yC H0 w A E I ρ R s (.builtin "issubclass") [u,y]) o) b (λζ ζ=>az.none) (λW hy=>az.grd λhc=>?_) hy
 obtain⟨q1,q2⟩:=eA hc
 obtain⟨q2,q3⟩:=eA q2
 cases aJ q1
 cases aJ q2
 cases aJ q3
 exact hu.val_el (az.some (HB G hy))
section
variable {T:String} {x:PV} {u:af}
theorem BF{k:List PV->Option PV}(hu:cq I ρ x u)(h:∀l,cq I ρ (.list l) u->az (yC H0 w A E I ρ R s (.builtin T) [u]) (k l)):az (yC H0 w A E I ρ R s (.builtin T) [u]) (listP x none k):=
 qV (C:=λx o=>cq I ρ x u->az (yC H0 w A E I ρ R s (.builtin T) [u]) o) x (λζ ζ=>az.none) h hu
theorem Qt(hR:cC H0 A 2)(G:Gd H0 I ρ R s.heap)(hu:cq I ρ x u):az (yC H0 w A E I ρ R s (.builtin T) [u]) (
  bif T=="abs" then intP x none λi=>some (.int i.natAbs)
  else bif T=="len" then optO (qX R x) none λn=>some (.int n)
  else bif T=="sorted" then listP x none λl=>optO (ft l) none λss=>grd (decide (ss.length<64)) (some (.list ((fZ ss).map .str)))
  else bif T=="min" then listP x none λl=>optO (gc l) none λss=>optO (iI (λa b=>decide (a<b)) ss) none λs=>some (.list (s.map .str))
  else bif T=="max" then listP x none λl=>optO (gc l) none λss=>optO (iI (λa b=>decide (b<a)) ss) none λs=>some (.list (s.map .str))
  else none):=
 az.bif (λq=>by
  cases aJ q
  exact lQ (C:=λx o=>cq I ρ x u->az (yC H0 w A E I ρ R s (.builtin "abs") [u]) o) x (λζ ζ=>az.none) (λi hu=>az.some (N7 G hu)) hu) λζ=>
 az.bif (λq=>by cases aJ q;exact az.opt λk hl=>az.some (BG G hu hl)) λζ=>
 az.bif (λq=>by cases aJ q;exact BF hu λl hu=>az.opt λss hs=>az.grd λhl=>az.some (D5 G hu hs (of_decide_eq_true hl))) λζ=>
 az.bif (λq=>by cases aJ q;exact BF hu λl hu=>az.opt λss hs=>az.opt λb hb=>az.some (Nb (m:=0) hR G hu hs hb)) λζ=>
 az.bif (λq=>by cases aJ q;exact BF hu λl hu=>az.opt λss hs=>az.opt λb hb=>az.some (Nc (m:=0) hR G hu hs hb)) λζ=>az.none
end
theorem Qs{T:String}{vs:List PV}{us:List af}(hR:cC H0 A 2)(G:Gd H0 I ρ R s.heap)(hu:aY I ρ vs us):az (yC H0 w A E I ρ R s (.builtin T) us) (VR R T vs):=
 az.bif (λq=>by
  cases aJ q
  exact lJ (C:=λvs o=>aY I ρ vs us->az (yC H0 w A E I ρ R s (.builtin "isinstance") us) o) vs (λζ ζ=>az.none) (λa b hu=>hu.two_el λu v h1 h2=>P8 G h1 h2) hu) λζ=>
 az.bif (λq=>by
  cases aJ q
  exact lJ (C:=λvs o=>aY I ρ vs us->az (yC H0 w A E I ρ R s (.builtin "issubclass") us) o) vs (λζ ζ=>az.none) (λa b hu=>hu.two_el λu v h1 h2=>Ky G h1 h2) hu) λζ=>
 fg (C:=λvs o=>aY I ρ vs us->az (yC H0 w A E I ρ R s (.builtin T) us) o) vs (λζ ζ=>az.none) (λa hu=>hu.one_el λu h1=>Qt hR G h1) hu
set_option tactic.hygienic true in
theorem Op{T:String}{x:PV}{u:af}(G:Gd H0 I ρ R s.heap)(hu:cq I ρ x u):az (yC H0 w A E I ρ R s (.type T) [u]) (VQ T [x]):=
 az.bif (λq=>by
  cases aJ q
  cases x
  case str=>exact az.some (y5 G hu)
  case int=>exact az.some (y6 G hu)
  all_goals exact az.none) λζ=>az.bif (λq=>by
  cases aJ q
  exact lQ (C:=λx o=>cq I ρ x u->az (yC H0 w A E I ρ R s (.type "int") [u]) o) x (λζ ζ=>az.none) (λi hu=>az.some (Nr G hu)) hu) λζ=>az.none
set_option tactic.hygienic true in
theorem Kt(B:dy w H0.heap){n0:Nat}(hn0:n0+3<=n)(hspL:∀L,dB ⟨H0.heap,L::H0.stk⟩ w n0 sp)(hsp0:dB H0 w n0 sp)(H:All H0 w n F)(cx:Cx)(g:Str)(np:dN)(args:List Expr)(kws:List cS)(pos:dN)(σ:bq)(R:List aO)(hg:gl cx g=true) :
  az (ti H0 w n cx (.Call (.Name g np) args kws pos) σ R) (lh sp F cx (lV (eZ g) args kws) args kws σ R):=by
 have hn:3<=n:=ah (gX ..) hn0
 have hsp:dB H0 w n sp:=hsp0.mono (ah (dA ..) hn0)
 have hck:=Ck (eZ g) args kws
 generalize lV (eZ g) args kws=ck at hck ⊢
 cases ck with
 | tupMap f e=>
  obtain⟨q1,rfl,g2,np2,hh,hp,p2,rfl,q2,q3⟩:=hck
  unfold lh
  dsimp only
  refine az.grd λhmap=>az.bnd (H.ev cx e σ R) λv R1 h1=>Dc (λv=>dM H0 w n cx e σ R v R1) h1.s λl h2=>az.bnd' λys R2 hm=>az.ret λu hv=>?_
  obtain⟨m1,m2⟩:=eA hmap
  exact r6 B hsp hg q1 m1 q2 (rg (tQ B m2 q3) (rg h2 tO λenv=>gd h1.star) λenv=>rfl) hm hv (qk (ix.mpr ⟨rfl,ix.mpr ⟨h1.star,λζ h=>nomatch h⟩⟩) λh=>nomatch h)
 | maxLen e=>
  obtain⟨q1,rfl,k,rfl,q2⟩:=hck
  unfold lh
  dsimp only
  obtain⟨kn,ke,kp2⟩:=k
  refine az.grd λhk=>?_
  obtain⟨k1,k2⟩:=eA hk
  cases aJ k1
  refine gJ (C:=λke b=>b=true->nameE ke false (λk=>eZ k==some (.builtin "len"))=true->az (ti H0 w n cx (.Call (.Name g np) [e] [⟨some "key",ke,kp2⟩] pos) σ R) _) ke (λζ h=>eg h) (λk kp h1 h2=>?_) k2 q2
  exact az.bnd (H.ev cx e σ R) λv R1 h3=>Dc (λv=>dM H0 w n cx e σ R v R1) h3.s λl h4=>az.ret λu hv=>oZ B (ah (by decide) hn) hg q1 h1 (aJ h2) h4 h3.star hv
 | sortKey e=>
  obtain⟨q1,rfl,q2⟩:=hck
  unfold lh
  dsimp only
  refine az.bnd (H.ev cx e σ R) λv R1 h1=>Dc (λv=>dM H0 w n cx e σ R v R1) h1.s λl h2=>az.opt λss hs=>az.grd λhc=>?_
  obtain⟨c1,hc⟩:=eA hc
  obtain⟨c2,hc⟩:=eA hc
  obtain⟨c3,hc⟩:=eA hc
  exact az.some (B6 B hn hg q1 (aJ (eA hc).2) h2 h1.star q2 hs (of_decide_eq_true c1) (of_decide_eq_true c2) c3 (eA hc).1)
 | listOf e=>
  obtain⟨q1,rfl,rfl⟩:=hck
  unfold lh
  dsimp only
  refine az.bnd (H.ev cx e σ R) λv R1 h1=>zS (λv=>dM H0 w n cx e σ R v R1) h1.s λk C fs h2 hr=>az.grd λhC=>?_
  cases of_decide_eq_true hC
  exact az.bnd' λys R2 hd=>az.ret λu hv=>Fb B (ah (cX _) hn0) hspL hg q1 h2 hr h1.one hd hv
 | deque=>
  obtain⟨q1,rfl,rfl⟩:=hck
  exact az.some (H7 B hg q1)
 | new C f=>
  unfold lh
  dsimp only
  refine az.bnd (H.evs cx args σ R) λas R1 h1=>az.bnd (H.evk cx kws σ R1) λks R2 h2=>az.bnd' λy R3 hc=>?_
  cases y
  case none=>
   refine az.some ?_
   rcases hck with ⟨rfl,rfl,q1,rfl,e,rfl⟩ | ⟨rfl,rfl,q1,e,es,rfl⟩
   ·obtain⟨q2,q3⟩:=eQ (h2.nil rfl)
    cases q2
    cases q3
    obtain⟨a,q4,h3⟩:=h1.sh rfl
    cases q4
    exact Fa B (ah (cX _) hn0) hsp0 hg q1 (h1.ok e aj) h3 hc
   ·exact E9 B hsp hg q1 h1.ok h1.s h2.s hc
  all_goals exact az.none
 | fn f=>
  refine gW (C:=λkws y=>az (ti H0 w n cx (.Call (.Name g np) args kws pos) σ R) y) kws (λζ=>az.none) (az.grd λhc=>az.bnd (H.evs cx args σ R) λas R1 h1=>λy hy=>?_)
  obtain⟨c1,c2⟩:=eA hc
  exact K1 B hsp hg hck h1.s hy (HN c1) λenv=>(qk h1.ok (λq=>by subst q;exact eg c2) env).2
 | bi f=>
  obtain⟨q1,rfl,q2⟩:=hck
  unfold lh
  dsimp only
  refine az.bnd (H.evs cx args σ R) λas R1 h1=>az.ret λu hv=>?_
  rcases q2 with ⟨T,rfl⟩ | ⟨T,rfl⟩
  ·revert hv h1
   refine fg (C:=λas o=>wi H0 w n cx args σ R (as,R1)->o=some u->ti H0 w n cx _ σ R (u,R1)) as (λζ ζ h=>(gC h).elim) λa h1 hv=>?_
   obtain⟨e,rfl,hs,h3⟩:=h1.one
   exact NU B hg q1 h3 (λenv=>gd hs) λA E I ρ s u' ζ G hu=>Op G hu u hv
  ·refine sG B hg q1 h1.s (qk h1.ok λq=>?_) λA E I ρ s us hR G hu=>Qs (hR.le (ah (by decide) hn)) G hu u hv
   subst q
   obtain⟨q3,_⟩:=eQ h1.sh
   subst q3
   revert hv
   exact ky (C:=λo=>o=some u->False) (λζ h=>gC h) λζ=>ky (C:=λo=>o=some u->False) (λζ h=>gC h) λζ h=>gC h
 | bad=>exact az.none
set_option tactic.hygienic true in
theorem ph{a:Str}(h:qj o=true)(env:d9):fJ o a env (ed o env)=ed o env:=by
 cases o<;>first | rfl | skip
 rename_i f as ks p
 cases f<;>first | rfl | skip
 cases as<;>cases ks<;>first | rfl | exact eg h
theorem xg{a:Str}{pos:dN}(hb:qj o=true)(env:d9):ed (.Attribute o a pos) env=(do
   let x <-ed o env
   nI pos.atName
   let r <-kh [x] (vK x a true)
   iY o x r
   b7 r):=
 congrArg (λb=>(do
   let x <-b
   nI pos.atName
   let r <-kh [x] (vK x a true)
   iY o x r
   b7 r:vN af)) (ph (a:=a) hb env)
theorem KI{es:List Expr}{pos:dN}(h:∀e∈es,eL e=true)(hlen:es.length<2)(env:d9):mS (es.length+0) (hO pos (bS es env)) []=true:=by
 unfold mS
 rw [show(hO pos (bS es env)).all (λx =>!x.1)=true by rw [jz h];simp]
 simp
 exact Uk hlen
set_option tactic.hygienic true in
theorem Ni(B:dy w H0.heap)(hsp:dB H0 w n sp)(H:All H0 w n F){mm:Str}{apos pos:dN}{args:List Expr}(hb:qj o=true)(hl:(apos.endLine==pos.line)=true)(hlen:args.length<2) :
  az (ti H0 w n cx (.Call (.Attribute o mm apos) args [] pos) σ R) (bnd (F.ev cx o σ R) λov R1=>bnd (F.evs cx args σ R1) λas R2=>sC sp R1 ov mm as R2):=by
 refine az.bnd (H.ev cx o σ R) λov R1 h1=>az.bnd (H.evs cx args σ R1) λas R2 h2=>?_
 have e1:=h1.s
 cases ov
 case str x=>
  refine OH (λas=>wi H0 w n cx args σ R1 (as,R2)) h2 λa h2=>?_
  obtain⟨e,rfl,hst,e2⟩:=h2.one
  refine az.bif (λhj=>?_) λζ=>az.ret λv hv=>H5 e1 e2 (λa=>ph hb) (λenv=>gd hst) hl v hv
  cases aJ hj
  exact az.opt λl hs=>az.opt λss hss=>az.grd λhz=>az.opt λv hv=>az.some ((oo hv).2▸KW e1 e2 hs hss (of_decide_eq_true hz) (oo hv).1 (ph hb) (λenv=>gd hst) hl)
 case obj k=>
  refine az.opt λr hr=>?_
  cases r with
  | lst l0=>
   refine az.lst λl1 hr2=>az.bif (λha=>?_) λζ=>az.grd λha=>?_
   ·cases aJ ha
    refine OH (λas=>wi H0 w n cx args σ R1 (as,R2)) h2 λa h2=>az.grd λhz=>az.some ?_
    obtain⟨e,rfl,hst,e2⟩:=h2.one
    exact Fc e1 hr e2 hr2 (of_decide_eq_true hz) (ph hb) (λenv=>gd hst) hl
   ·cases aJ ha
    refine UV (λas=>wi H0 w n cx args σ R1 (as,R2)) h2 λh2=>az.opt λv hv=>az.some ?_
    obtain⟨rfl,rfl⟩:=h2.nil
    exact NW e1 hr2 hv (ph hb) hl
  | inst C fs=>
   refine az.opt λf hf=>az.grd λhno=>λy hy=>z9 B hsp e1 hr hf (cK.mp hno) h2.s hy (BC hf) (ph hb) (KI h2.ok hlen) hl (λenv=>?_) λq=>?_
   ·cases args with
    | nil=>exact av ⟨rfl,rfl⟩
    | cons e r=>exact an ⟨_,_,jz h2.ok⟩
   ·subst q
    exact eQ h2.sh
  | _=>exact az.none
 all_goals exact az.none
theorem wF(h:Bx v=true)(x:af):v ≠ .val x:=λq=>by subst q;exact eg h
theorem Nm(B:dy w H0.heap)(hsp:dB H0 w n sp)(H:All H0 w n F){a:Str}{p:dN}:az (ti H0 w n cx (.Attribute o a p) σ R) (Ic sp F cx o a σ R):=by
 refine az.grd λhb=>az.bnd (H.ev cx o σ R) λv R1 h1=>zS (λv=>dM H0 w n cx o σ R v R1) h1.s λk C fs h2 hr=>?_
 ·refine az.bif (λhf=>az.opt λu hu=>az.grd λhnv=>az.some (Aa B h2 hr hf hu (wF hnv) (xg hb))) λζ=>az.opt λf hp=>az.bnd' λu R2 hc=>az.grd λhnv=>az.some ?_
  obtain⟨q,hp⟩:=nl (c:=C==872&&a=="punctuation_chars") (o:=some 803) hp
  obtain⟨q1,q2⟩:=eA q
  cases aJ q1
  cases aJ q2
  cases hp
  exact KV B hsp h2 hr hc (wF hnv) (xg hb)
inductive pP:Expr->cy->Expr->RK->Prop
 | mk (a:Str) (k0:Nat) (p0:dN) (x:Str) (px apos:dN) (c:Str) (k1:Nat) (p1:dN) (b:Str) (k2:Nat) (p2 pos:dN) (k:Nat) (hc:ls c=[k]) (h1:(c==b)=false) (h2:(apos.endLine==pos.line)=true) (h3:ja (ls a)=true) (h4:ja (ls b)=true) (h5:(ls b).length<=14) (h6:(ls a).length<=SZ) :
   pP (.Constant (.str a) k0 p0) .Add (.Call (.Attribute (.Name x px) "replace" apos) [.Constant (.str c) k1 p1,.Constant (.str b) k2 p2] [] pos) ⟨ls a,x,k,ls b⟩
theorem J5(l:Expr)(op:cy)(r:Expr):az (pP l op r) (GI l op r):=by
 refine tD (C:=λl o=>az (pP l op r) o) l (λζ=>az.none) λa k0 p0=>ro (C:=λr o=>az (pP _ op r) o) r (λζ=>az.none) λf as ks pos=>Ao (C:=λf o=>az (pP _ op (.Call f as ks pos)) o) f (λζ=>az.none) λo m apos=>gJ (C:=λo y=>az (pP _ op (.Call (.Attribute o m apos) as ks pos)) y) o (λζ=>az.none) λx px=>
  lJ (C:=λas y=>az (pP _ op (.Call (.Attribute (.Name x px) m apos) as ks pos)) y) as (λζ=>az.none) λc b=>tD (C:=λc y=>az (pP _ op (.Call (.Attribute (.Name x px) m apos) [c,b] ks pos)) y) c (λζ=>az.none) λc k1 p1=>tD (C:=λb y=>az (pP _ op (.Call (.Attribute (.Name x px) m apos) [_,b] ks pos)) y) b (λζ=>az.none) λb k2 p2=>?_
 refine fg (C:=λl y=>ls c=l->az (pP _ op (.Call (.Attribute (.Name x px) m apos) _ ks pos)) y) (ls c) (λζ ζ=>az.none) (λk hc=>az.grd λh=>az.some ?_) rfl
 obtain⟨g1,h⟩:=eA h
 obtain⟨g2,h⟩:=eA h
 obtain⟨g3,h⟩:=eA h
 obtain⟨g4,h⟩:=eA h
 obtain⟨g5,h⟩:=eA h
 obtain⟨g6,h⟩:=eA h
 obtain⟨g7,h8⟩:=eA h
 cases aJ g1
 cases eO.mp g2
 cases aJ g3
 exact⟨a,k0,p0,x,px,apos,c,k1,p1,b,k2,p2,pos,k,hc,by simpa using g4,g5,g6,g7,(yh h8).1,(yh h8).2⟩
theorem P5(H:All H0 w n F){op:cy}{p:dN}:az (ti H0 w n cx (.BinOp l op r p) σ R) (Ib F cx l op r σ R):=
 az.optO (λζ=>az.bnd (H.ev cx l σ R) λa R1 h1=>az.bnd (H.ev cx r σ R1) λb R2 h2=>az.ret λv hv=>H8 h1.s h2.s hv) λk hk=>az.opt λv hx=>Ox (λv=>σ.lookup k.x=some v) hx λy hy=>az.ret λu hu=>by
  obtain⟨a,k0,p0,x,px,apos,c,k1,p1,b,k2,p2,pos,k,hc,h1,h2,h3,h4,h5,h6⟩:=J5 l op r k hk
  exact B7 hy hc h5 h1 h3 h4 h6 h2 hu
theorem I9.of(h:ti H0 w n cx e σ R (v,R1))(h1:QK (jh e)=true)(h2:L5 H0 w n cx σ R (jh e) (v,R1)):I9 H0 w n cx e σ R (v,R1):=⟨h,h1,h2⟩
set_option tactic.hygienic true in
theorem U3(B:dy w H0.heap)(hsp:dB H0 w n sp)(H:All H0 w n F)(cx:Cx)(e:Expr)(σ:bq)(R:List aO):az (I9 H0 w n cx e σ R) (VG sp F cx e σ R):=
 fH (C:=λe v=>az (I9 H0 w n cx e σ R) (VO sp F cx v σ R)) e (λζ=>az.none) (λx p=>show az _ (bif gl cx x then optO (eZ x) none λv=>some (PV.val v,R)else fO (σ.lookup x) R)from az.bif (λhg=>az.opt λu hu=>az.some ⟨tQ B hg hu,rfl,trivial⟩) λζ=>az.ret λu hu=>⟨nn hu,rfl,trivial⟩) (λc k p=>show az _ (fO (yk c) R)from az.ret λu hu=>⟨Ab hu,rfl,trivial⟩)
  (λf args kws pos=>fH (C:=λf v=>az (I9 H0 w n cx (.Call f args kws pos) σ R) (H9 sp F cx v args kws pos σ R)) f (λζ=>az.none) (λg np=>az.grd λhg=>(H.callv cx g np args kws pos σ R hg).mono λy h=>⟨h,rfl,trivial⟩) (λζ ζ ζ=>az.none) (λζ ζ ζ ζ=>az.none)
   (λo mm apos=>gW (C:=λkws y=>az (I9 H0 w n cx (.Call (.Attribute o mm apos) args kws pos) σ R) y) kws (λζ=>az.none) (az.grd λhc=>(Ni B hsp H (eA hc).1 (eA (eA hc).2).1 (of_decide_eq_true (eA (eA hc).2).2)).mono λy h=>⟨h,rfl,trivial⟩))
   (λζ ζ ζ ζ=>az.none) (λζ ζ ζ=>az.none) (λζ ζ=>az.none) (λζ ζ ζ ζ=>az.none) (λζ ζ ζ ζ=>az.none) (λζ ζ ζ ζ=>az.none) (λζ ζ ζ=>az.none) (λζ ζ ζ ζ=>az.none) (λζ ζ ζ=>az.none) (λζ ζ ζ ζ=>az.none) (λζ ζ ζ=>az.none) (λζ ζ ζ ζ=>az.none))
  (λo a p=>(Nm B hsp H).mono λy h=>⟨h,rfl,trivial⟩) (λζ ζ ζ ζ=>az.none) (λes k p=>(show az _ (bnd (F.evs cx es σ R) λl R1=>fO (mkT l) R1)from az.bnd (H.evs cx es σ R) λl R1 h=>az.ret λv hv=>⟨H2 h.s hv,rfl,trivial⟩)) (λes p=>(show az _ (bnd (F.evs cx es σ R) λl R1=>fO (mkL l) R1)from az.bnd (H.evs cx es σ R) λl R1 h=>az.ret λv hv=>⟨yc h.s hv,rfl,trivial⟩)) (λζ ζ ζ ζ=>az.none)
  (λelt gs sc p=>show az _ (bnd (F.cmpv cx elt gs sc σ R) λl R1=>fO (mkL l) R1)from az.bnd (H.cmpv cx elt gs sc σ R) λys R1 h=>az.ret λv hv=>by
   obtain⟨hl,rfl⟩:=oq hv
   refine⟨?_,rfl,ys,rfl,hl,h⟩
   obtain⟨t,it,ifs,l,R2,F',rfl,htn,hsc,hi,htst,helt,hm⟩:=h
   exact gb hsc hi htst helt htn hm hl)
  (λl op r p=>(P5 H).mono λy h=>⟨h,rfl,trivial⟩) (λop x p=>by
   cases op
   case USub=>
    show az _ (bnd (F.ev cx x σ R) λv R1=>intP v none λi=>some (PV.int (-i),R1))
    exact az.bnd (H.ev cx x σ R) λv R1 h=>Kz (λv=>dM H0 w n cx x σ R v R1) h.s λi h=>az.some ⟨KU h,rfl,trivial⟩
   all_goals exact az.none) (λt a b p=>show az _ (bnd (F.tv cx t σ R) λc R1=>F.ev cx (bif c then a else b) σ R1)from az.bnd (H.tv cx t σ R) λc R1 h1=>(H.ev cx _ σ R1).mono λy h2=>⟨H6 h1 h2.s,rfl,trivial⟩) (λop es p=>(H.orv cx op es p σ R).mono λy h=>⟨h,rfl,trivial⟩)
  (λl ops rs p=>show az _ (bnd (F.cp cx l ops rs σ R) λb R1=>some (PV.bool b,R1))from az.bnd (H.cp cx l ops rs σ R) λb R1 h=>az.some ⟨by obtain⟨op,r,hc⟩:=h;exact NX hc,rfl,trivial⟩) (λv i p=>show az _ (bnd (F.ev cx v σ R) λx R1=>grd (cL v||ml x) (F.sbv cx x i σ R1))from az.bnd (H.ev cx v σ R) λx R1 h1=>az.grd λhg=>(H.sbv cx v x i p σ R R1 h1.s hg).mono λy h=>⟨h,rfl,trivial⟩) (λζ ζ ζ ζ=>az.none)
theorem N6(B:dy w H0.heap){n0:Nat}(hn0:n0+3<=n)(hspL:∀L,dB ⟨H0.heap,L::H0.stk⟩ w n0 sp)(hsp0:dB H0 w n0 sp)(m:Nat):All H0 w n (kI sp m):=by
 have hsp:dB H0 w n sp:=hsp0.mono (ah (dA ..) hn0)
 induction m with
 | zero=>constructor<;>intros<;>exact az.none
 | succ m H=>exact⟨U3 B hsp H,Kt B hn0 hspL hsp0 H,PY H,PX H,Nl H,U4 B H,U1 H,PU H,PW H,P1 H,P4 H,P2 H,PZ B H,P3 H,Nk H,U2 B H,Ks H,P7 B H,P6 B H,P0 H⟩
theorem D4{hp:fv}(B:dy w hp){n0 k:Nat}(h:∀st,dB ⟨hp,st⟩ w n0 sp)(st:List aB):dB ⟨hp,st⟩ w (n0+5) (nF sp pw k):=
 J1 (H0:=⟨hp,st⟩) (n:=n0+3) B λL=>(N6 (H0:=⟨hp,L::st⟩) (n:=n0+3) B (aF _) (λL'=>h _) (h _) k).exs
theorem JR{hp:fv}(B:dy w hp)(k:Nat):∀st,dB ⟨hp,st⟩ w (5*k) (fG k):=by
 induction k with
 | zero=>exact λst f pos kw R v R' h=>nomatch h
 | succ k ih=>exact λst=>Nn (D4 (k:=400) B ih st)
end
end
end Mine
end
section
open PySem PySem.W PyProof.Rows PySem.Spec
namespace Mine
noncomputable section
section
variable {H0:Bs} {w:bF} {n m:Nat} {sp:Spec} {I I' I'':dC} {ρ ρ' ρ'':dH} {R R' R'' R1 R2 R3:List aO} {cx:Cx} {σ σ' σ1 σ2:bq} {env:d9} {A:bD} {E:af->ag->Prop} {s s' s'':ag} {e l r t o tgt:Expr} {v:PV} {f:Fl} {X Y Z:aB->Prop}
theorem GK{vs:List af}{ns:List Int}(h:IntsAre vs ns):aY I ρ (ns.map .int) vs:=by
 induction h with
 | nil=>exact aY.nil
 | cons n t h ih=>exact aY.cons tF ih
theorem law_from(hlaw:∀ns:List Int,ns.length<=63->∃R',fG 11 964 [.list (ns.map .int)] [] [.tab]=some (.bool true,R')/\R'[0]? = some .tab):IT:=by
 intro w s l vs ns B tb hl hi hlen
 obtain⟨R',h,h0⟩:=hlaw ns hlen
 have Bh:=B.hide tb
 have hs:=JR Bh 11 [] 964 _ _ _ _ _ h
 have ne:∀a o,s.heap.get? a=some o->a≠949->(sg s.heap [949]).get? a=some o:=λa o e hc=>lC _ e λq=>hc (aC.mp q)
 have G:Gd ⟨sg s.heap [949],[]⟩ (λa=>(sg s.heap [949]).get? a) [(949,949)] [.tab] s.heap:=by
  refine⟨λa o e=>of_hideAll _ e,λa o e=>e,rfl,λk p r h1 h2=>?_,λk p r h1 h2 h3=>?_,λj k p q h1 h2 hjk=>?_,λa ha=>nomatch ha⟩
  ·cases k with
   | zero=>
    cases h1
    cases h2
    exact⟨rfl,rfl,#[],tb,trivial,λpos c e=>by cases e⟩
   | succ k=>cases h1
  ·cases k with
   | zero=>
    cases h1
    have e:=hideAll_none [949] (h:=s.heap) (b:=949) (aC.mpr rfl)
    exact⟨e,e⟩
   | succ k=>cases h1
  ·cases j<;>cases k<;>first | exact absurd rfl hjk | (cases h1;done) | (cases h2;done)
 have hl9:l≠949:=λq=>by rw [q,tb]at hl;cases hl
 have hvl:vs.length=ns.length:=hi.length
 have hrep:aY (λa=>(sg s.heap [949]).get? a) [(949,949)] [PV.list (ns.map .int)] [jY l]:=by
  exact aY.cons (qK (n:=0) (by rw [ae];exact ah hlen (by decide)) (ne l _ hl hl9) (GK hi)) aY.nil
 have hR:cC ⟨sg s.heap [949],[]⟩ callerA (5*11):=⟨rfl,by decide,by decide,[],rfl,rfl,λe he=>nomatch he⟩
 refine fj (gm (hs callerA (λζ ζ=>False) _ _ s [.ref l] [] hR G hrep ⟨rfl,aY.nil⟩) λr s' q=>?_)
 rcases r with e | fl
 ·exact q
 ·cases fl with
  | ret u=>
   obtain⟨I',ρ',x,hu⟩:=q
   refine⟨hu,λb o hb e=>?_,?_,x.os,x.gens⟩
   ·exact x.good.imm b o (x.le b o (ne b o e hb))
   ·obtain⟨δ,hδ⟩:=x.pre
    have hp:ρ'[0]? = some ((949,949):aB × aB):=by rw [hδ];rfl
    obtain⟨_,_,ps,h3,_⟩:=x.good.recs 0 _ _ hp h0
    exact⟨ps,h3⟩
  | _=>exact q
end
end
end Mine
end
section
namespace Mine.W
section
theorem bl{α β γ:Type}{x:Option (α × β)}{a:α}{b:β}{k:α->β->Option γ}{z:Option γ}(h:x=some (a,b))(hk:k a b=z):bnd x k=z:=by subst h;exact hk
theorem dc{α γ:Type}{o:Option α}{a:α}{d:γ}{k:α->γ}{z:γ}(h:o=some a)(hk:k a=z):optO o d k=z:=by subst h;exact hk
theorem MS{α γ:Type}{o:Option α}{d:γ}{k:α->γ}{z:γ}(h:o=none)(hk:d=z):optO o d k=z:=by subst h;exact hk
theorem gT{α:Type}{o:Option α}{v:α}{R:List aO}(h:o=some v):fO o R=some (v,R):=by subst h;rfl
theorem fU{γ:Type}{c:Bool}{o z:Option γ}(h:c=true)(hk:o=z):grd c o=z:=by subst h;exact hk
theorem An{γ:Type}{c:Bool}{x y z:γ}(h:c=true)(hk:x=z):(bif c then x else y)=z:=by subst h;exact hk
theorem DE{γ:Type}{c:Bool}{x y z:γ}(h:c=false)(hk:y=z):(bif c then x else y)=z:=by subst h;exact hk
variable {sp:Spec} {n k:Nat} {cx:Cx} {s:ip} {r ss a c b:List ip} {σ σ1 σ':bq} {R R1 R2:List aO} {t e it l o:bE} {v x y:PV} {p q:dN}
noncomputable abbrev St:=Fl × bq × List aO
noncomputable def oF(sp:Spec)(n:Nat)(cx:Cx)(ss:List ip)(σ:bq)(R:List aO)(Φ:St->Prop):Prop:=∃o,exs sp n cx ss σ R=some o/\Φ o
noncomputable def sO(sp:Spec)(n:Nat)(cx:Cx)(r:List ip)(Φ:St->Prop)(o:St):Prop:=match o.1 with
 | .next=>oF sp n cx r o.2.1 o.2.2 Φ
 | _=>Φ o
theorem aX{Φ:St->Prop}(h:Φ (.next,σ,R)):oF sp (n+1) cx [] σ R Φ:=⟨_,rfl,h⟩
theorem vd{z:St}(h:ex sp n cx s σ R=some z):exs sp (n+1) cx (s::r) σ R=uz z.1 z.2 (exs sp n cx r z.2.1 z.2.2):=bl (k:=λf y=>uz f y ((kI sp n).exs cx r y.1 y.2)) h rfl
theorem iO{Φ:St->Prop}{z:St}(h:ex sp n cx s σ R=some z)(k:sO sp n cx r Φ z):oF sp (n+1) cx (s::r) σ R Φ:=by
 obtain⟨f,σ1,R1⟩:=z
 unfold oF
 rw [vd h]
 cases f with
 | next=>exact k
 | _=>exact⟨_,rfl,k⟩
theorem aR(σ1:bq){Φ:St->Prop}(h:ex sp n cx s σ R=some (.next,σ1,R1))(k:oF sp n cx r σ1 R1 Φ):oF sp (n+1) cx (s::r) σ R Φ:=iO h k
theorem Bp{Φ:St->Prop}(h:oF sp n cx ss σ R (sO sp (n+1) cx r Φ))(hs:∀z,exs sp n cx ss σ R=some z->ex sp (n+1) cx s σ1 R1=some z):oF sp (n+2) cx (s::r) σ1 R1 Φ:=by
 obtain⟨z,h1,h2⟩:=h
 exact iO (hs z h1) h2
theorem r4{z:St}(h:tv sp n cx t σ R=some (true,R1))(k:exs sp n cx a σ R1=some z):ex sp (n+1) cx (.If t a c p) σ R=some z:=bl (k:=λb R1=>(kI sp n).exs cx (bif b then a else c) σ R1) h k
theorem gD{z:St}(h:tv sp n cx t σ R=some (false,R1))(k:exs sp n cx c σ R1=some z):ex sp (n+1) cx (.If t a c p) σ R=some z:=bl (k:=λb R1=>(kI sp n).exs cx (bif b then a else c) σ R1) h k
theorem ff{Φ:St->Prop}(h:tv sp n cx t σ R=some (true,R1))(k:oF sp n cx a σ R1 (sO sp (n+1) cx r Φ)):oF sp (n+2) cx (.If t a c p::r) σ R Φ:=Bp k λz hz=>r4 h hz
theorem cQ{Φ:St->Prop}(h:tv sp n cx t σ R=some (false,R1))(k:oF sp n cx c σ R1 (sO sp (n+1) cx r Φ)):oF sp (n+2) cx (.If t a c p::r) σ R Φ:=Bp k λz hz=>gD h hz
theorem xH{hs:List tw}{h0:tw}{Φ:St->Prop}(k:oF sp n cx b σ R (sO sp (n+1) cx r Φ)):oF sp (n+2) cx (.Try b (h0::hs) [] [] p::r) σ R Φ:=Bp k λz hz=>hz
theorem zt{Φ:St->Prop}(h:Φ (.cont,σ,R)):oF sp (n+2) cx (.Continue p::r) σ R Φ:=iO (z:=(.cont,σ,R)) rfl h
theorem QI{Φ:St->Prop}(h:Φ (.brk,σ,R)):oF sp (n+2) cx (.Break p::r) σ R Φ:=iO (z:=(.brk,σ,R)) rfl h
theorem m7{o:Option (Bool × List aO)}{b c:Bool}(h:o=some (b,R))(e:b=c):o=some (c,R):=e▸h
theorem B8{o:Option (PV × List aO)}{b c:PV}(h:o=some (b,R))(e:b=c):o=some (c,R):=e▸h
theorem Cp{ak0:AK}{z:Option FS}(ha:ak t e=ak0)(h:Fu (kI sp n) cx ak0 t e σ R=z):ex sp (n+2) cx (.Assign [t] e p) σ R=z:=show Fu (kI sp n) cx (ak t e) t e σ R=z from ha.symm▸h
theorem HX(h:ev sp n cx e σ R=some (v,R1))(ha:ak t e = .plain)(hn:(fB t&&fB e)=false)(hb:iC cx t v σ=some σ1):ex sp (n+2) cx (.Assign [t] e p) σ R=some (.next,σ1,R1):=
 Cp ha (fU (c :=!(fB t&&fB e)) (by rw [hn];rfl) (bl h (dc (k:=λσ'=>some (Fl.next,σ',R1)) hb rfl)))
theorem b8{Φ:St->Prop}(v:PV)(σ1:bq)(h:ev sp n cx e σ R=some (v,R1))(ha:ak t e = .plain)(hn:(fB t&&fB e)=false)(hb:iC cx t v σ=some σ1)(k:oF sp (n+2) cx r σ1 R1 Φ):oF sp (n+3) cx (.Assign [t] e p::r) σ R Φ:=
 aR _ (HX h ha hn hb) k
theorem cP{Φ:St->Prop}(v:PV)(h:ev sp n cx e (uX (below cx.base R.length) σ R).1 (uX (below cx.base R.length) σ R).2=some (v,R1))(k:Φ (.ret v,(uX (below cx.base R.length) σ R).1,R1)):oF sp (n+2) cx (.Return (some e) p::r) σ R Φ:=
 iO (z:=(.ret v,(uX (below cx.base R.length) σ R).1,R1)) (bl (k:=λv R1=>some (Fl.ret v,(uX (below cx.base R.length) σ R).1,R1)) h rfl) k
theorem yt{a b c:LS}(h:mkS c=some (.str c))(e:a++b=c):yu .Add (.str a) (.str b)=some (.str c):=by subst e;exact h
theorem Qr{a b c:List PV}(h:mkL c=some (.list c))(e:a++b=c):yu .Add (.list a) (.list b)=some (.list c):=by subst e;exact h
theorem Qq{a b c:List PV}(h:mkT c=some (.tup c))(e:a++b=c):yu .Add (.tup a) (.tup b)=some (.tup c):=by subst e;exact h
theorem jw{op:cy}(h1:ev sp n cx l σ R=some (x,R1))(h2:ev sp n cx e σ R1=some (y,R2))(hn:GI l op e=none)(hb:yu op x y=some v):ev sp (n+1) cx (.BinOp l op e p) σ R=some (v,R2):=
 show Ib (kI sp n) cx l op e σ R=_ from MS hn (bl h1 (bl h2 (gT hb)))
theorem ka{d:bE}{b:Bool}(h:tv sp n cx t σ R=some (b,R1))(k:ev sp n cx (bif b then e else d) σ R1=some (v,R2)):ev sp (n+1) cx (.IfExp t e d p) σ R=some (v,R2):=bl (k:=λc R1=>(kI sp n).ev cx (bif c then e else d) σ R1) h k
theorem jp(σ1:bq){Φ:St->Prop}(h:oF sp (n+2) cx [s] σ R λo=>o=(.next,σ1,R1))(k:oF sp (n+1) cx r σ1 R1 Φ):oF sp (n+2) cx (s::r) σ R Φ:=by
 obtain⟨z,h1,rfl⟩:=h
 refine aR σ1 (R1:=R1) ?_ k
 obtain⟨f,y,h2,h3⟩:=gF (x:=ex sp (n+1) cx s σ R) (k:=λf y=>uz f y ((kI sp (n+1)).exs cx [] y.1 y.2)) h1
 cases f with
 | next=>exact h2.trans (congrArg (λz=>some (Fl.next,z)) (sj (eQ (eQ (aV h3)).2).1 (eQ (eQ (aV h3)).2).2))
 | _=>cases h3
theorem cH{f:aB}{fi:IY}{pos:List PV}{kw:List (Str × PV)}(h1:E6 pw f=some fi)(h2:vv fi.fd.params fi.dflt pos kw=some σ)(h3:oF sp n ⟨fi.fd.scope.names,R.length⟩ fi.fd.body σ R λo=>o.1 = .ret v/\o.2.2=R1):nF sp pw n f pos kw R=some (v,R1):=by
 obtain⟨⟨f,σ',R'⟩,h4,h5,h6⟩:=h3
 cases h5
 cases h6
 exact dc h1 (dc h2 (bl h4 rfl))
theorem dY{f:aB}{pos:List PV}(h:nF (fG k) pw 400 f pos [] [.tab]=some (v,R1))(h1:bz pos=true)(h3:noObj v=true)(h4:lP R1=true)(h2:wE R=true):fG (k+1) f pos [] R=some (v,R):=by
 show Np (nF (fG k) pw 400) f pos [] R=_
 unfold Np
 simp only [h1,h2,h,h3,h4,tu,MB,if_true]
theorem qE{f:aB}{pos:List PV}{kw:List (Str × PV)}(h1:(bz pos&&(kw.isEmpty&&wE R))=false):fG (k+1) f pos kw R=nF (fG k) pw 400 f pos kw R:=by
 show Np (nF (fG k) pw 400) f pos kw R=_
 unfold Np
 rw [h1,if_neg bc]
theorem qJ{Φ Ψ:St->Prop}(h:oF sp n cx ss σ R Φ)(k:∀z,Φ z->Ψ z):oF sp n cx ss σ R Ψ:=let ⟨z,h1,h2⟩:=h;⟨z,h1,k z h2⟩
noncomputable def Fx(step:bq->List aO->PV->Option St)(l:List PV)(σ:bq)(R:List aO)(Φ:St->Prop):Prop:=∃z,uY step l σ R=some z/\Φ z
noncomputable def CC(Inv:List PV->bq->List aO->Prop)(xs:List PV)(Φ:St->Prop)(z:St):Prop:=match z.1 with
 | .next=>Inv xs z.2.1 z.2.2
 | .cont=>Inv xs z.2.1 z.2.2
 | .brk=>Φ (.next,z.2.1,z.2.2)
 | .ret _=>Φ z
theorem ii{step:bq->List aO->PV->Option St}(Inv:List PV->bq->List aO->Prop){Φ:St->Prop}(h:∀x xs σ R,Inv (x::xs) σ R->∃z,step σ R x=some z/\CC Inv xs Φ z)(h0:∀σ R,Inv [] σ R->Φ (.next,σ,R))(l:List PV):∀σ R,Inv l σ R->Fx step l σ R Φ:=by
 induction l with
 | nil=>exact λσ R i=>⟨_,rfl,h0 σ R i⟩
 | cons x xs ih=>
  intro σ R i
  obtain⟨⟨f,σ',R'⟩,h1,h2⟩:=h x xs σ R i
  cases f with
  | next=>obtain⟨z,h3,h4⟩:=ih σ' R' h2;exact⟨z,bl (k:=λf y=>lf f y (uY step xs y.1 y.2)) h1 h3,h4⟩
  | cont=>obtain⟨z,h3,h4⟩:=ih σ' R' h2;exact⟨z,bl (k:=λf y=>lf f y (uY step xs y.1 y.2)) h1 h3,h4⟩
  | brk=>exact⟨_,bl (k:=λf y=>lf f y (uY step xs y.1 y.2)) h1 rfl,h2⟩
  | ret v=>exact⟨_,bl (k:=λf y=>lf f y (uY step xs y.1 y.2)) h1 rfl,h2⟩
noncomputable abbrev uh(sp:Spec)(n:Nat)(cx:Cx)(t:bE)(b:List ip):bq->List aO->PV->Option St:=wZ (kI sp n) cx t b
theorem gB{xs:List PV}{Φ:St->Prop}(h0:forIt sp n cx it σ R=some (xs,σ1,R1))(he:(iH cx it && !fB t)=false)(k:Fx (uh sp n cx t b) xs σ1 R1 (sO sp (n+1) cx r Φ)):oF sp (n+2) cx (.For t it b [] p::r) σ R Φ:=by
 obtain⟨z,h1,h2⟩:=k
 exact iO (z:=z) (show grd (!(iH cx it && !fB t)) (bnd (forIt sp n cx it σ R) λl y=>uY (wZ (kI sp n) cx t b) l y.1 y.2)=_ from fU (by rw [he];rfl) (bl h0 h1)) h2
theorem xT{ik0:IK}{z:Option (List PV × List aO)}(ha:ik cx it=ik0)(h:Ku (kI sp n) cx ik0 it σ R=z):itv sp (n+1) cx it σ R=z:=show Ku (kI sp n) cx (ik cx it) it σ R=z from ha.symm▸h
theorem zX{xs:List PV}(h:itv sp n cx it σ R=some (xs,R1))(hl:qR R σ it=none):forIt sp (n+1) cx it σ R=some (xs,σ,R1):=show optO (qR R σ it) (bnd (itv sp n cx it σ R) λl R1=>some (l,σ,R1)) (λy=>some (y.2,rb y.1 σ R))=_ from MS hl (bl h rfl)
theorem ij{xs:List PV}(h:ev sp n cx it σ R=some (.list xs,R1))(hk:ik cx it = .plain):itv sp (n+1) cx it σ R=some (xs,R1):=xT hk (bl (k:=λv R1=>seqP v none λl=>some (l,R1)) h rfl)
theorem fV{xs:List PV}(h:ev sp n cx it σ R=some (.list xs,R1))(hk:ik cx it = .plain)(hl:qR R σ it=none):forIt sp (n+2) cx it σ R=some (xs,σ,R1):=zX (ij h hk) hl
theorem jn{Φ:St->Prop}(σ':bq)(hb:iC cx t x σ=some σ')(k:oF sp n cx b σ' R Φ):∃z,uh sp n cx t b σ R x=some z/\Φ z:=by
 obtain⟨z,h1,h2⟩:=k
 exact⟨z,dc hb h1,h2⟩
theorem oP{z:St}(σ':bq)(hb:iC cx t x σ=some σ')(k:exs sp n cx b σ' R=some z):uh sp n cx t b σ R x=some z:=dc hb k
theorem cR(h:ex sp (n+1) cx s σ R=some (.next,σ1,R1)):exs sp (n+2) cx [s] σ R=some (.next,σ1,R1):=vd h
theorem A5{test:bq->List aO->Option (Bool × List aO)}{body:bq->List aO->Option FS}{m:Nat}{f:Fl}{y':bq × List aO}(h:test σ R=some (true,R1))(hb:body σ R1=some (f,y')):A6 test body (m+1) σ R=lf f y' (A6 test body m y'.1 y'.2):=
 bl (k:=λc R'=>bif c then bnd (body σ R') λf y=>lf f y (A6 test body m y.1 y.2)else some (.next,σ,R')) h (bl (k:=λf y=>lf f y (A6 test body m y.1 y.2)) hb rfl)
theorem CS{test:bq->List aO->Option (Bool × List aO)}{body:bq->List aO->Option FS}{m:Nat}(h:test σ R=some (false,R1)):A6 test body (m+1) σ R=some (.next,σ,R1):=
 bl (k:=λc R'=>bif c then bnd (body σ R') λf y=>lf f y (A6 test body m y.1 y.2)else some (.next,σ,R')) h rfl
theorem Ad{nx:List aO->Option (Option PV × List aO)}{m:Nat}{l:List PV}(h:nx R=some (some v,R1))(hb:kt nx m R1=some (l,R2)):kt nx (m+1) R=some (v::l,R2):=
 bl (k:=λo R'=>optO o (some ([],R')) λv=>bnd (kt nx m R') λys R''=>some (v::ys,R'')) h (bl (k:=λys R''=>some (v::ys,R'')) hb rfl)
theorem Fd{nx:List aO->Option (Option PV × List aO)}{m:Nat}(h:nx R=some (none,R1)):kt nx (m+1) R=some ([],R1):=
 bl (k:=λo R'=>optO o (some ([],R')) λv=>bnd (kt nx m R') λys R''=>some (v::ys,R'')) h rfl
theorem tJ{γ:Type}{j:Nat}{C:aB}{fs:List (Str × PV)}{k:Nat->aB->List (Str × PV)->Option γ}{z:Option γ}(h:R[j]? = some (.inst C fs))(hk:k j C fs=z):ju R (.obj j) k=z:=dc h hk
theorem Ec{z:St}{Φ:St->Prop}(h:A6 (λσ R=>tv sp n cx t σ R) (λσ R=>exs sp n cx b σ R) 100000 σ R=some z)(k:sO sp (n+1) cx r Φ z):oF sp (n+2) cx (.While t b [] p::r) σ R Φ:=
 iO (z:=z) h k
noncomputable def dP(k:Nat)(f:aB)(pos:List PV)(v:PV):Prop:=∀R,wE R=true->fG k f pos [] R=some (v,R)
theorem zH{f:List aO->PV->Option (Option PV × List aO)}{g:PV->Option PV}{l:List PV}{R:List aO}:(∀x∈l,f R x=some (g x,R))->mj f l R=some (l.filterMap g,R):=by
 induction l with
 | nil=>exact λζ=>rfl
 | cons x r ih=>
  intro h
  refine bl (k:=λo R'=>bnd (mj f r R') λys R''=>some (optO o ys (· :: ys),R'')) (h x aj) (bl (ih λy hy=>h y (am _ hy)) ?_)
  rw [gr]
  cases g x<;>rfl
theorem rn{f:Str}{fp:dN}{args:List bE}{kws:List cS}{ck:CK}{z:Option (PV × List aO)}(hg:gl cx f=true)(hk:lV (eZ f) args kws=ck)(h:lh sp (kI sp n) cx ck args kws σ R=z):ev sp (n+2) cx (.Call (.Name f fp) args kws p) σ R=z:=
 show grd (gl cx f) (lh sp (kI sp n) cx (lV (eZ f) args kws) args kws σ R)=z from fU hg (hk.symm▸h)
theorem ej{f:Str}{fp:dN}{g:aB}{args:List bE}{as:List PV}(hg:gl cx f=true)(hk:lV (eZ f) args [] = .fn g)(hc:(!Oh g||args.isEmpty)=false)(ha:evs sp n cx args σ R=some (as,R1))(hs:sp g as [] R1=some (v,R2)):ev sp (n+2) cx (.Call (.Name f fp) args [] p) σ R=some (v,R2):=
 rn hg hk (fU (c:=Oh g && !args.isEmpty) (by cases h1:Oh g<;>cases h2:args.isEmpty<;>rw [h1,h2]at hc<;>first | rfl | cases hc) (bl ha hs))
theorem sG{f:Str}{fp:dN}{g:af}{args:List bE}{as:List PV}(hg:gl cx f=true)(hk:lV (eZ f) args [] = .bi g)(ha:evs sp n cx args σ R=some (as,R1))(hs:Ok R1 g as=some v):ev sp (n+2) cx (.Call (.Name f fp) args [] p) σ R=some (v,R1):=rn hg hk (bl (k:=λas R1=>fO (Ok R1 g as) R1) ha (gT hs))
theorem fh(h:ev sp (n+1) cx e σ R=some (v,R1)):evs sp (n+2) cx [e] σ R=some ([v],R1):=bl (k:=λv R1=>bnd ((kI sp (n+1)).evs cx [] σ R1) λvs R2=>some (v::vs,R2)) h rfl
theorem oY(h:ev sp (n+2) cx l σ R=some (x,R1))(k:ev sp (n+1) cx e σ R1=some (y,R2)):evs sp (n+3) cx [l,e] σ R=some ([x,y],R2):=bl (k:=λv R1=>bnd ((kI sp (n+2)).evs cx [e] σ R1) λvs R2=>some (v::vs,R2)) h (bl (fh k) rfl)
theorem ei{m:Str}{apos:dN}{args:List bE}{as:List PV}(hg:(qj o&&(apos.endLine==p.line)&&decide (args.length<2))=true)(ho:ev sp n cx o σ R=some (x,R1))(ha:evs sp n cx args σ R1=some (as,R2)){z:PV × List aO}(hs:sC sp R1 x m as R2=some z):ev sp (n+1) cx (.Call (.Attribute o m apos) args [] p) σ R=some z:=
 show grd (qj o&&((apos.endLine==p.line)&&decide (args.length<2))) (bnd (ev sp n cx o σ R) λov R1=>bnd (evs sp n cx args σ R1) λas R2=>sC sp R1 ov m as R2)=_ from fU (LD .. ▸ hg) (bl ho (bl ha hs))
theorem mn{i:bE}(h:ev sp n cx e σ R=some (x,R1))(hg:(cL e||ml x)=true)(k:sbv sp n cx x i σ R1=some (v,R2)):ev sp (n+1) cx (.Subscript e i p) σ R=some (v,R2):=bl (k:=λx R1=>grd (cL e||ml x) ((kI sp n).sbv cx x i σ R1)) h (fU hg k)
theorem gb{elt:bE}{gs:List fK}{sc:Scope}{ys:List PV}(h:cmpv sp n cx elt gs sc σ R=some (ys,R1))(hl:ys.length<=SZ):ev sp (n+1) cx (.ListComp elt gs sc p) σ R=some (.list ys,R1):=bl (k:=λl R1=>fO (mkL l) R1) h (gT (if_pos hl))
theorem ym{elt:bE}{ifs:List bE}{sc:Scope}{l ys:List PV}(hc:(cL t && !iH cx it&&qI cx σ sc)=true)(hi:itv sp (n+1) cx it σ R=some (l,R1))(h:mj (ny (kI sp (n+1)) ⟨sc.names,cx.base⟩ t elt ifs (eT sc.names σ)) l R1=some (ys,R2)) :
  cmpv sp (n+2) cx elt [⟨t,it,ifs,0⟩] sc σ R=some (ys,R2):=
 show grd (decide ((0:Int)=0)&&(cL t&&(!iH cx it&&qI cx σ sc))) (bnd (itv sp (n+1) cx it σ R) λl R1=>mj (ny (kI sp (n+1)) ⟨sc.names,cx.base⟩ t elt ifs (eT sc.names σ)) l R1)=_ from fU (show(cL t&&(!iH cx it&&qI cx σ sc))=true from LD .. ▸ hc) (bl hi h)
theorem vo{elt:bE}{ifs:List bE}{sc:Scope}{l:List PV}(g:PV->Option PV)(hc:(cL t && !iH cx it&&qI cx σ sc)=true)(hi:itv sp (n+1) cx it σ R=some (l,R1))
  (h:∀x∈l,∃σ' b,iC ⟨sc.names,cx.base⟩ t x (eT sc.names σ)=some σ'/\tvs sp (n+1) ⟨sc.names,cx.base⟩ .And ifs σ' R1=some (b,R1)/\(b=true->∃v,ev sp (n+1) ⟨sc.names,cx.base⟩ elt σ' R1=some (v,R1)/\g x=some v)/\(b=false->g x=none)) :
  cmpv sp (n+2) cx elt [⟨t,it,ifs,0⟩] sc σ R=some (l.filterMap g,R1):=ym hc hi (zH λx hx=>by
 obtain⟨σ',b,k1,k2,k3,k4⟩:=h x hx
 refine dc k1 (bl k2 ?_)
 cases b with
 | true=>
  obtain⟨v,k5,k6⟩:=k3 rfl
  exact bl (k:=λv R3=>some (some v,R3)) k5 (by rw [k6])
 | false=>exact congrArg (λz=>some (z,R1)) (k4 rfl).symm)
theorem jx{elt:bE}{sc:Scope}{l:List PV}(g:PV->PV)(hc:(cL t && !iH cx it&&qI cx σ sc)=true)(hi:itv sp (n+1) cx it σ R=some (l,R1))
  (h:∀x∈l,∃σ',iC ⟨sc.names,cx.base⟩ t x (eT sc.names σ)=some σ'/\ev sp (n+1) ⟨sc.names,cx.base⟩ elt σ' R1=some (g x,R1)) :
  cmpv sp (n+2) cx elt [⟨t,it,[],0⟩] sc σ R=some (l.map g,R1):=by
 rw [<-List.filterMap_eq_map]
 refine vo (λx=>some (g x)) hc hi λx hx=>?_
 obtain⟨σ',k1,k2⟩:=h x hx
 exact⟨σ',true,k1,rfl,λζ=>⟨_,k2,rfl⟩,λq=>nomatch q⟩
theorem qS{step:bq->List aO->PV->Option St}{Φ:St->Prop}(S:Option PV->bq)(f:PV->PV)(init vs:List PV)(hb:init.length+vs.length<100000)
  (hs:∀o x acc,x∈vs->acc.length<100000->step (S o) [.tab,.lst acc] x=some (.next,S (some x),[.tab,.lst (acc++[f x])]))(he:∀o,Φ (.next,S o,[.tab,.lst (init++vs.map f)])):Fx step vs (S none) [.tab,.lst init] Φ:=by
 refine ii (λxs σ R=>∃o done,vs=done++xs/\σ=S o/\R=([.tab,.lst (init++done.map f)]:List aO)) ?_ ?_ _ _ _ ⟨none,[],rfl,rfl,by rw [lw,aP]⟩
 ·rintro x xs σ R ⟨o,done,h1,rfl,rfl⟩
  have hm:x∈vs:=by rw [h1];exact cg _ aj
  have hl:(init++done.map f).length<100000:=by rw [ai,ae];rw [h1,ai]at hb;exact Pn hb
  refine⟨_,hs o x _ hm hl,some x,done++[x],by rw [h1,aQ];rfl,rfl,?_⟩
  rw [bV,aQ];rfl
 ·rintro σ R ⟨o,done,h1,rfl,rfl⟩
  rw [aP]at h1
  subst h1
  exact he o
theorem i9{op:mX}{c:Bool}(h1:uS cx l=false)(h2:ev sp n cx l σ R=some (x,R1))(h3:ev sp n cx e σ R1=some (y,R2))(h4:td R2 op x y=some c):tv sp (n+2) cx (.Compare l [op] [e] p) σ R=some (c,R2):=
 DE (x:=grd (P9 op&&xV e) (CV l none λζ e=>bnd ((kI sp n).ev cx e σ R) λv R1=>strP v none λs=>some (!s.any cW,R1))) h1 (bl (k:=λa R1=>bnd ((kI sp n).ev cx e σ R1) λb R2=>fO (td R2 op a b) R2) h2 (bl (k:=λb R2=>fO (td R2 op x b) R2) h3 (gT h4)))
section
variable {es:List bE} {c:Bool}
theorem j4{op:BoolOp}(h:tv sp n cx e σ R=some (c,R1))(hc:(c==(op == .Or))=true):tvs sp (n+1) cx op (e::es) σ R=some (c,R1):=bl (k:=λb R1=>bif b==(op == .Or)then some (b,R1)else(kI sp n).tvs cx op es σ R1) h (An hc rfl)
theorem nX{op:BoolOp}{z:Option (Bool × List aO)}(h:tv sp n cx e σ R=some (c,R1))(hc:(c==(op == .Or))=false)(k:tvs sp n cx op es σ R1=z):tvs sp (n+1) cx op (e::es) σ R=z:=bl (k:=λb R1=>bif b==(op == .Or)then some (b,R1)else(kI sp n).tvs cx op es σ R1) h (DE hc k)
theorem JG(h:tv sp n cx e σ R=some (true,R1)):tvs sp (n+1) cx .Or (e::es) σ R=some (true,R1):=j4 h rfl
theorem m6(h:tv sp n cx e σ R=some (false,R1))(k:tvs sp n cx .Or es σ R1=some (c,R2)):tvs sp (n+1) cx .Or (e::es) σ R=some (c,R2):=nX h rfl k
theorem Ga(h:tv sp n cx e σ R=some (true,R1))(k:tvs sp n cx .And es σ R1=some (c,R2)):tvs sp (n+1) cx .And (e::es) σ R=some (c,R2):=nX h rfl k
theorem y8(h:tv sp n cx e σ R=some (false,R1)):tvs sp (n+1) cx .And (e::es) σ R=some (false,R1):=j4 h rfl
theorem A9(h:tv sp n cx e σ R=some (true,R1)):tv sp (n+2) cx (.BoolOp .Or (e::es) p) σ R=some (true,R1):=j4 (op:=.Or) h rfl
theorem qb(h:tv sp n cx e σ R=some (false,R1))(k:tvs sp n cx .Or es σ R1=some (c,R2)):tv sp (n+2) cx (.BoolOp .Or (e::es) p) σ R=some (c,R2):=nX (op:=.Or) h rfl k
theorem QE(h:tv sp n cx e σ R=some (false,R1)):tv sp (n+2) cx (.BoolOp .And (e::es) p) σ R=some (false,R1):=j4 (op:=.And) h rfl
theorem tB(h:tv sp n cx e σ R=some (true,R1))(k:tvs sp n cx .And es σ R1=some (c,R2)):tv sp (n+2) cx (.BoolOp .And (e::es) p) σ R=some (c,R2):=nX (op:=.And) h rfl k
theorem m5(h:tv sp (n+1) cx e σ R=some (c,R1)):tvs sp (n+2) cx .And [e] σ R=some (c,R1):=by
 cases c with
 | true=>exact nX h rfl rfl
 | false=>exact j4 h rfl
end
theorem gE(h:ev sp n cx e σ R=some (.none,R1)):ex sp (n+1) cx (.Expr e p) σ R=some (.next,σ,R1):=bl (k:=λv R1=>grd (qP v) (some (Fl.next,σ,R1))) h rfl
theorem HV{y:LS}(h:ev sp n cx e σ R=some (.str y,R1)):ex sp (n+1) cx (.Expr e p) σ R=some (.next,σ,R1):=bl (k:=λv R1=>grd (qP v) (some (Fl.next,σ,R1))) h rfl
theorem yb{f:Str}{fp:dN}{op:cy}(hl:σ.lookup f=some x)(h:ev sp n cx e σ R=some (y,R1))(ha:rt op x y=some v)(hs:qG cx σ f v=some σ1):ex sp (n+2) cx (.AugAssign (.Name f fp) op e p) σ R=some (.next,σ1,R1):=
 dc (k:=λa=>bnd ((kI sp n).ev cx e σ R) λb R1=>optO (rt op a b) none λv=>D9 cx σ f v R1) hl (bl h (dc ha (dc (k:=λσ'=>some (Fl.next,σ',R1)) hs rfl)))
end
end Mine.W
end
section
namespace Mine.W
noncomputable def GP:List LS:=[[97],[97,98],[46,46],[97,32,99],[],[39],[65],[35],[46,46,46],[92,34]]
noncomputable def jr(i:Nat):LS:=GP.getD i []
noncomputable def pC(x:Int):LS:=(bif decide (x<0)then [47,46]else [46])++[47]++jr (x.natAbs % 10)
noncomputable def nW(x:Int):LS:=bif decide (99<x.natAbs)then pC x++[47]++jr (x.natAbs / 100 % 10)else pC x
noncomputable def gu(x:Int):LS:=bif nW x==[46,47]then []else nW x
noncomputable abbrev QJ:PV:=.list [.str [97],.str [97,98],.str [46,46],.str [97,32,99],.str [],.str [39],.str [65],.str [35],.str [46,46,46],.str [92,34]]
theorem qM(i:Nat)(h:i<10):iB [PV.str [97],.str [97,98],.str [46,46],.str [97,32,99],.str [],.str [39],.str [65],.str [35],.str [46,46,46],.str [92,34]] (i:Int)=some (.str (jr i))/\(jr i).length<=3:=by
 have:∀i:Fin 10,iB [PV.str [97],.str [97,98],.str [46,46],.str [97,32,99],.str [],.str [39],.str [65],.str [35],.str [46,46,46],.str [92,34]] ((i.1:Nat):Int)=some (.str (jr i.1))/\(jr i.1).length<=3:=by
  intro i
  match i with
  | ⟨0,_⟩ | ⟨1,_⟩ | ⟨2,_⟩ | ⟨3,_⟩ | ⟨4,_⟩ | ⟨5,_⟩ | ⟨6,_⟩ | ⟨7,_⟩ | ⟨8,_⟩ | ⟨9,_⟩=>exact⟨rfl,bv rfl⟩
  | ⟨n+10,h⟩=>exact absurd h (km (gX 10 n))
 exact this ⟨i,h⟩
theorem jb{l:LS}(h:l.length<=SZ):mkS l=some (.str l):=by unfold mkS;rw [if_pos h]
theorem oA(a b:Nat):pX (a:Int) (b:Int)=((a % b:Nat):Int):=by
 rw [Int.fmod_eq_emod_of_nonneg _ (gS b)];rfl
theorem j9(a b:Nat):kE (a:Int) (b:Int)=((a / b:Nat):Int):=by
 rw [Int.fdiv_eq_ediv_of_nonneg _ (gS b)];rfl
theorem uN(b:Bool)(x y:LS)(n:Nat)(hx:x.length<=n)(hy:y.length<=n):(bif b then x else y).length<=n:=by cases b<;>assumption
theorem ua(x:Int):(pC x).length<=6:=by
 have h1:=(qM (x.natAbs % 10) (ma _ (by decide))).2
 have h2:=uN (decide (x<0)) [47,46] [46] 2 (by decide) (by decide)
 unfold pC
 rw [ai,ai]
 exact cr (cr h2 (aF 1)) h1
theorem y4(x:Int):(nW x).length<=10:=by
 have h1:=(qM (x.natAbs / 100 % 10) (ma _ (by decide))).2
 have h2:=ua x
 refine uN _ _ _ _ ?_ (ah h2 (by decide))
 rw [ai,ai]
 exact cr (cr h2 (aF 1)) h1
theorem qY{a b:Nat}(h:a<=b)(hb:b<=SZ):a<=SZ:=ah h hb
noncomputable abbrev f9:List PV:=[.str [97],.str [97,98],.str [46,46],.str [97,32,99],.str [],.str [39],.str [65],.str [35],.str [46,46,46],.str [92,34]]
theorem J0(k:Nat)(x:Int):nF (fG k) pw 400 899 [.int x] [] [.tab]=some (.str (gu x),[.tab,.dead]):=by
 have p1:=qM (x.natAbs % 10) (ma _ (by decide))
 have p2:=qM (x.natAbs / 100 % 10) (ma _ (by decide))
 have hl0:=uN (decide (x<0)) [47,46] [46] 2 (by decide) (by decide)
 refine cH (fi:=⟨br (aK pw 51),[]⟩) (σ:=[("x",.int x)]) ∅ ∅ ?_
 refine aR [("x",.int x),("pieces",.obj 1)] (R1:=[.tab,.lst f9]) ∅ ?_
 refine aR [("x",.int x),("pieces",.obj 1),("size",.int x.natAbs)] (R1:=[.tab,.lst f9]) ∅ ?_
 refine b8 (.str (pC x)) [("x",.int x),("pieces",.obj 1),("size",.int x.natAbs),("way",.str (pC x))] (R1:=[.tab,.lst f9]) ?_ ∅ ∅ ∅ ?_
 ·refine jw (x:=.str ((bif decide (x<0)then [47,46]else [46])++[47])) (y:=.str (jr (x.natAbs % 10))) (R1:=[.tab,.lst f9]) (jw (x:=.str (bif decide (x<0)then [47,46]else [46])) (y:=.str [47]) (R1:=[.tab,.lst f9]) (ka (b:=decide (x<0)) (R1:=[.tab,.lst f9]) ∅ ?_) ∅ ∅ ?_) ?_ ∅ ?_
  ·cases decide (x<0)<;>kernel_rfl
  ·exact jb (qY (by rw [ai];exact cr hl0 (aF 1)) (by decide))
  ·refine cU (b:=(iB f9 (pX (x.natAbs:Int) (10:Nat))).map λv=>(v,[.tab,.lst f9])) ∅ ?_
   rw [oA,p1.1];rfl
  ·exact jb (qY (ua x) (by decide))
 refine jp [("x",.int x),("pieces",.obj 1),("size",.int x.natAbs),("way",.str (nW x))] (R1:=[.tab,.lst f9]) ?_ ?_
 ·by_cases h:99<x.natAbs
  ·refine ff (R1:=[.tab,.lst f9]) (m7 (b:=decide ((x.natAbs:Int)>99)) ∅ (by rw [decide_eq_true_eq];exact Uj h)) ?_
   have hw:nW x=pC x++[47]++jr (x.natAbs / 100 % 10):=by unfold nW;rw [decide_eq_true h];rfl
   refine b8 (.str (nW x)) [("x",.int x),("pieces",.obj 1),("size",.int x.natAbs),("way",.str (nW x))] (R1:=[.tab,.lst f9]) ?_ ∅ ∅ ∅ ?_
   ·refine jw (x:=.str (pC x++[47])) (y:=.str (jr (x.natAbs / 100 % 10))) (R1:=[.tab,.lst f9]) (jw (x:=.str (pC x)) (y:=.str [47]) (R1:=[.tab,.lst f9]) ∅ ∅ ∅ ?_) ?_ ∅ ?_
    ·exact jb (qY (by rw [ai];exact cr (ua x) (aF 1)) (by decide))
    ·refine cU (b:=(iB f9 (pX (kE (x.natAbs:Int) (100:Nat)) (10:Nat))).map λv=>(v,[.tab,.lst f9])) ∅ ?_
     rw [j9,oA,p2.1];rfl
    ·rw [hw];exact jb (qY (hw▸y4 x) (by decide))
   exact aX (aX rfl)
  ·refine cQ (R1:=[.tab,.lst f9]) (m7 (b:=decide ((x.natAbs:Int)>99)) ∅ (by rw [decide_eq_false_iff_not];exact Uh h)) ?_
   have hw:nW x=pC x:=by unfold nW;rw [decide_eq_false h];rfl
   rw [hw]
   exact aX (aX rfl)
 refine cP (.str (gu x)) (R1:=[.tab,.dead]) (ka (b:=nW x==[46,47]) (R1:=[.tab,.dead]) ∅ ?_) ⟨rfl,rfl⟩
 unfold gu
 cases nW x==[46,47]<;>kernel_rfl
theorem Dq{k:Nat}{x:Int}{R:List aO}(hR:wE R=true):fG (k+1) 899 [.int x] [] R=some (.str (gu x),R):=dY (J0 k x) rfl rfl rfl hR
end Mine.W
end
section
namespace Mine.W
theorem HS{k:Nat}{s:LS}{R:List aO}(hR:wE R=true):fG (k+1) 144 [.str s] [] R=some (.str s,R):=
 dY (R1:=[.tab]) ∅ rfl rfl rfl hR
theorem VN{k:Nat}{s:LS}{R:List aO}(hR:wE R=true):fG (k+1) 158 [.str s] [] R=some (.str [47],R):=
 dY (R1:=[.tab]) ∅ rfl rfl rfl hR
theorem GD(k:Nat)(p:LS)(h:(p.take 1==[47])=false):nF (fG (k+1)) pw 400 172 [.str (47::p)] [] [.tab]=some (.tup [.str [],.str [47],.str p],[.tab]):=by
 refine cH (fi:=⟨br (aK pw 23),[]⟩) (σ:=[("p",.str (47::p))]) ∅ ∅ ?_
 refine aR [("p",.str (47::p))] (R1:=[.tab]) ∅ ?_
 refine aR [("p",.str (47::p)),("sep",.str [47]),("empty",.str [])] (R1:=[.tab]) ∅ ?_
 refine cQ (R1:=[.tab]) ∅ ?_
 refine ff (R1:=[.tab]) (A9 (R1:=[.tab]) (m7 (b :=!(p.take 1==[47])) ∅ (by rw [h];rfl))) ?_
 exact cP (.tup [.str [],.str [47],.str p]) (R1:=[.tab]) ∅ ⟨rfl,rfl⟩
theorem NM{k:Nat}{p:LS}{R:List aO}(h:(p.take 1==[47])=false)(hR:wE R=true):fG (k+2) 172 [.str (47::p)] [] R=some (.tup [.str [],.str [47],.str p],R):=
 dY (GD k p h) rfl rfl rfl hR
noncomputable def Ij(s:LS):Bool:=(s.drop (s.length-1)).take 1==[47]
noncomputable def Cw(a b c:LS):Prop:=(∃b',b=47::b'/\c=b)\/((b=[] \/ ∃b',b=46::b')/\((a=[47]/\c=47::b)\/(∃a',a=47::a'/\Ij a=false/\c=a++(47::b))))/\a.length+b.length<100000
theorem GG(k:Nat)(a b c:LS)(hj:Cw a b c):nF (fG (k+1)) pw 400 165 [.str a,.str b] [] [.tab]=some (.str c,[.tab]):=by
 refine cH (fi:=⟨br (aK pw 21),[]⟩) (σ:=[("a",.str a),("p",.tup [.str b])]) ∅ ∅ ?_
 refine aR [("a",.str a),("p",.tup [.str b])] (R1:=[.tab]) ∅ ?_
 refine aR [("a",.str a),("p",.tup [.str b]),("sep",.str [47])] (R1:=[.tab]) ∅ ?_
 refine aR [("a",.str a),("p",.tup [.str b]),("sep",.str [47]),("path",.str a)] (R1:=[.tab]) ∅ ?_
 refine xH ?_
 refine gB (xs:=[.str b]) (σ1:=[("a",.str a),("p",.tup [.str b]),("sep",.str [47]),("path",.str a)]) (R1:=[.tab]) ∅ ∅ ?_
 refine ii (λxs σ R=>(xs=([.str b]:List PV)/\σ=([("a",.str a),("p",.tup [.str b]),("sep",.str [47]),("path",.str a)]:bq)/\R=([.tab]:List aO))\/(xs=[]/\σ=([("a",.str a),("p",.tup [.str b]),("sep",.str [47]),("path",.str c),("b",.str b)]:bq)/\R=([.tab]:List aO))) ?_ ?_ _ _ _ (av ⟨rfl,rfl,rfl⟩)
 ·rintro x xs σ R (⟨h1,rfl,rfl⟩ | ⟨h1,_⟩)
  ·cases h1
   refine jn [("a",.str a),("p",.tup [.str b]),("sep",.str [47]),("path",.str a),("b",.str b)] ∅ ?_
   refine aR [("a",.str a),("p",.tup [.str b]),("sep",.str [47]),("path",.str a),("b",.str b)] (R1:=[.tab]) ∅ ?_
   refine jp [("a",.str a),("p",.tup [.str b]),("sep",.str [47]),("path",.str c),("b",.str b)] (R1:=[.tab]) ?_ (aX (an ⟨rfl,rfl,rfl⟩))
   rcases hj with ⟨b',rfl,rfl⟩ | ⟨⟨hb,hc⟩,hl⟩
   ·refine ff (R1:=[.tab]) ∅ ?_
    exact aR _ ∅ (aX (aX rfl))
   ·have hla:a≠[]:=by rcases hc with ⟨rfl,_⟩ | ⟨a',rfl,_⟩<;>exact λq=>nomatch q
    refine cQ (R1:=[.tab]) ?_ ?_
    ·rcases hc with ⟨rfl,_⟩ | ⟨a',rfl,_⟩<;>rcases hb with rfl | ⟨b',rfl⟩<;>kernel_rfl
    rcases hc with ⟨rfl,rfl⟩ | ⟨a',rfl,he,rfl⟩
    ·refine ff (R1:=[.tab]) ∅ ?_
     exact aR _ (yb (x:=.str [47]) (y:=.str b) (v:=.str (47::b)) (R1:=[.tab]) ∅ ∅ (jb (qY (b:=100000) (by show b.length+1<=_;simp only [aq,cj]at hl;exact Ug hl) (by decide))) ∅) (aX (aX (aX rfl)))
    ·refine cQ (R1:=[.tab]) (m7 (b:=decide (1<=(47::a').length)&&Ij (47::a')) ∅ (by rw [he,jI])) ?_
     refine aR _ (yb (x:=.str (47::a')) (y:=.str (47::b)) (v:=.str (47::a'++47::b)) (R1:=[.tab]) ∅ (jw (x:=.str [47]) (y:=.str b) (R1:=[.tab]) ∅ ∅ ∅ (jb (l:=47::b) (qY (b:=100000) (by show b.length+1<=_;simp only [aq]at hl;exact Uf hl) (by decide)))) (jb (qY (b:=100001) (by rw [ai];show _+(b.length+1)<=_;exact Ue hl) (by decide))) ∅) (aX (aX (aX rfl)))
  ·cases h1
 ·rintro σ R (⟨h1,_⟩ | ⟨_,rfl,rfl⟩)
  ·cases h1
  ·refine aX ?_
   exact cP (.str c) (R1:=[.tab]) ∅ ⟨rfl,rfl⟩
theorem NP{k:Nat}{a b c:LS}{R:List aO}(hj:Cw a b c)(hR:wE R=true):fG (k+2) 165 [.str a,.str b] [] R=some (.str c,R):=
 dY (GG k a b c hj) rfl rfl rfl hR
end Mine.W
end
section
namespace Mine.W
theorem Hg{γ:Type}{R:List aO}{j:Nat}{l:List PV}{k:List PV->Option γ}{z:Option γ}(h:R[j]? = some (.lst l))(hk:k l=z):C3 R j k=z:=dc h hk
theorem dq{sp:Spec}{R1 R2:List aO}{k:Nat}{l0 l:List PV}{v:PV}(h1:R1[k]? = some (.lst l0))(h2:R2[k]? = some (.lst l))(hl:l.length<SZ):sC sp R1 (.obj k) "append" [v] R2=some (.none,R2.set k (.lst (l++[v]))):=
 dc (k:=λr=>Hb sp r k "append" [v] R2) h1 (Hg h2 (An ∅ (fU (decide_eq_true hl) rfl)))
theorem EA{sp:Spec}{R1 R2:List aO}{k:Nat}{l0 l:List PV}{v:PV}(h1:R1[k]? = some (.lst l0))(h2:R2[k]? = some (.lst (l++[v]))):sC sp R1 (.obj k) "pop" [] R2=some (v,R2.set k (.lst l)):=
 dc (k:=λr=>Hb sp r k "pop" [] R2) h1 (Hg h2 (DE ∅ (fU ∅ (dc (o:=(l++[v]).getLast?) (d:=none) (k:=λv'=>some (v',R2.set k (.lst (l++[v]).dropLast))) List.getLast?_concat (by rw [List.dropLast_concat])))))
theorem jQ(s:LS):∀l:List LS,(ce s l).length<=(l.map bX).sum+l.length*s.length
 | []=>bo _
 | [x]=>by simp only [ce,aN,lw,qu,List.sum_nil];exact Ud
 | x::y::r=>by
  have ih:=jQ s (y::r)
  simp only [ce,ai,aN,qu,aq,DO]at ih ⊢
  exact Uc ih
theorem gG(l:List LS):ft (l.map .str)=some l:=by
 unfold ft
 induction l with
 | nil=>rfl
 | cons x r ih=>simp only [aN,gw,pO,ih];rfl
theorem nc{sp:Spec}{R1 R2:List aO}{v:PV}{s:LS}{l:List LS}(h:lK R2 v=some (l.map .str))(hl:(l.map bX).sum+l.length*s.length<=SZ):sC sp R1 (.str s) "join" [v] R2=some (.str (ce s l),R2):=
 An (c:=("join":Str)=="join") (y:=fO (xB s "join" [v]) R2) ∅ (dc h (dc (gG l) (fU (decide_eq_true hl) (gT (jb (ah (jQ s l) hl))))))
theorem ou{sp:Spec}{R1 R2:List aO}{c:Nat}{s:LS}(hl:(aL c s).length<=SZ):sC sp R1 (.str s) "split" [.str [c]] R2=some (.list ((aL c s).map .str),R2):=by
 refine cU (b:=fO (mkL ((aL c s).map .str)) R2) ∅ (gT (if_pos (by rw [ae];exact hl)))
noncomputable def cN(acc:List LS)(c:LS):List LS:=bif c==[]||c==[46]then acc else bif c==[46,46]then acc.dropLast else acc++[c]
noncomputable def ic(acc:List LS)(l:List LS):List LS:=l.foldl cN acc
noncomputable def aG(row:List LS):LS:=47::ce [47] row
noncomputable def cc(l:List LS):Nat:=(l.map bX).sum+l.length
theorem eG(x:LS)(l:List LS):cc (x::l)=x.length+1+cc l:=by unfold cc;simp only [aN,qu,aq];exact Ub
theorem gA(a b:List LS):cc (a++b)=cc a+cc b:=by
 induction a with
 | nil=>simp [cc]
 | cons x a ih=>rw [eP,eG,eG,ih];exact Pl
theorem fe(c:Nat)(s:LS):aL c s≠[]:=by
 cases s with
 | nil=>exact λq=>nomatch q
 | cons x r=>
  rw [b9]
  split
  ·exact λq=>nomatch q
  ·split<;>exact λq=>nomatch q
theorem j6(c:Nat):∀s:LS,cc (aL c s)=s.length+1:=by
 intro s
 induction s with
 | nil=>
  exact rfl
 | cons x r ih=>
  have ih:=ih
  rw [b9]
  split
  ·rw [eG,ih];simp only [cj,aq];exact Ua
  ·cases e:aL c r with
   | nil=>exact absurd e (fe c r)
   | cons h t=>
    rw [e]at ih
    simp only [eG,aq]at ih ⊢
    exact T9 ih
theorem j8(l:List LS):l.length<=cc l:=by unfold cc;exact Pk
noncomputable abbrev Oy(p:LS)(c:PV)(tl:bq):bq:=("path",.str p)::("sep",.str [47])::("dot",.str [46])::("dotdot",.str [46,46])::("_",.str [])::("initial_slashes",.str [47])::("comps",c)::("new_comps",.obj 1)::tl
noncomputable abbrev QX(p:LS)(c:PV):bq:=Oy p c []
noncomputable abbrev QH(p:LS)(c:PV)(v:PV):bq:=Oy p c [("comp",v)]
theorem Eo{α:Type}(l:List α)(x:α):iB (l++[x]) (-1)=some x:=by
 unfold iB
 rw [if_neg (by decide),if_pos (by rw [ai];simp only [aq,cj];exact T8)]
 have:(-1+((l++[x]).length:Int)).toNat=l.length:=by rw [ai];simp only [aq,cj];exact T7
 rw [this,bH (aF _),eW]
 rfl
theorem GE(k:Nat)(p:LS)(h:(p.take 1==[47])=false)(hl:p.length<=300000):nF (fG (k+2)) pw 400 179 [.str (47::p)] [] [.tab]=some (.str (aG (ic [] (aL 47 p))),[.tab,.dead]):=by
 have hsz:=j6 47 p
 have hsl:(aL 47 p).length<=SZ:=ah (j8 _) (by rw [hsz];exact ah (kD hl 1) (by decide))
 refine cH (fi:=⟨br (aK pw 24),[]⟩) (σ:=[("path",.str (47::p))]) ∅ ∅ ?_
 refine aR [("path",.str (47::p))] (R1:=[.tab]) ∅ ?_
 refine aR [("path",.str (47::p)),("sep",.str [47]),("dot",.str [46]),("dotdot",.str [46,46])] (R1:=[.tab]) ∅ ?_
 refine aR [("path",.str (47::p)),("sep",.str [47]),("dot",.str [46]),("dotdot",.str [46,46])] (R1:=[.tab]) ∅ ?_
 refine b8 (.tup [.str [],.str [47],.str p]) [("path",.str p),("sep",.str [47]),("dot",.str [46]),("dotdot",.str [46,46]),("_",.str []),("initial_slashes",.str [47])] (R1:=[.tab]) (ej (g:=172) (as:=[.str (47::p)]) (R1:=[.tab]) ∅ ∅ ∅ ∅ (NM h rfl)) ∅ ∅ ∅ ?_
 refine b8 (.list ((aL 47 p).map .str)) [("path",.str p),("sep",.str [47]),("dot",.str [46]),("dotdot",.str [46,46]),("_",.str []),("initial_slashes",.str [47]),("comps",.list ((aL 47 p).map .str))] (R1:=[.tab]) (ei (x:=.str p) (as:=[.str [47]]) (R1:=[.tab]) (R2:=[.tab]) ∅ ∅ ∅ (ou hsl)) ∅ ∅ ∅ ?_
 refine aR (QX p (.list ((aL 47 p).map .str))) (R1:=[.tab,.lst []]) ∅ ?_
 refine gB (xs:=(aL 47 p).map .str) (σ1:=QX p (.list ((aL 47 p).map .str))) (R1:=[.tab,.lst []]) ∅ ∅ ?_
 refine ii (λxs σ R=>∃(rest acc:List LS) (cm:PV),xs=rest.map .str/\(σ=QX p (.list ((aL 47 p).map .str))\/σ=QH p (.list ((aL 47 p).map .str)) cm)/\R=([.tab,.lst (acc.map .str)]:List aO)/\ic acc rest=ic [] (aL 47 p)/\[46,46] ∉ acc/\cc acc+cc rest<=p.length+1) ?_ ?_ _ _ _ ⟨aL 47 p,[],.none,rfl,av rfl,rfl,rfl,bJ,by rw [hsz];simp [cc]⟩
 ·rintro x xs σ R ⟨rest,acc,cm,h1,h2,rfl,h4,h5,h6⟩
  cases rest with
  | nil=>cases h1
  | cons c rest=>
   simp only [aN,dF]at h1
   obtain⟨rfl,rfl⟩:=h1
   have h4':ic (cN acc c) rest=ic [] (aL 47 p):=h4
   rw [eG]at h6
   refine jn (QH p (.list ((aL 47 p).map .str)) (.str c)) (by rcases h2 with rfl | rfl<;>kernel_rfl) ?_
   by_cases e1:c=[]
   ·subst e1
    refine ff (R1:=[.tab,.lst (acc.map .str)]) ∅ ?_
    refine zt ?_
    exact⟨rest,acc,_,rfl,an rfl,rfl,h4',h5,by simp only [cj]at h6;exact T6 h6⟩
   by_cases e2:c=[46]
   ·subst e2
    refine ff (R1:=[.tab,.lst (acc.map .str)]) ∅ ?_
    refine zt ?_
    exact⟨rest,acc,_,rfl,an rfl,rfl,h4',h5,by simp only [aq,cj]at h6;exact T5 h6⟩
   by_cases e3:c=[46,46]
   ·subst e3
    refine cQ (R1:=[.tab,.lst (acc.map .str)]) ∅ (aX ?_)
    rcases oL acc with rfl | ⟨acc',last,hcc⟩
    ·refine cQ (R1:=[.tab,.lst []]) ∅ ?_
     refine cQ (R1:=[.tab,.lst []]) ∅ (aX (aX (aX ?_)))
     exact⟨rest,[],_,rfl,an rfl,rfl,h4',h5,by simp only [aq,cj]at h6;exact T4 h6⟩
    ·rw [A0]at hcc
     subst hcc
     have hlast:(last==[46,46])=false:=by
      rw [beq_eq_false_iff_ne]
      rintro rfl
      exact h5 (cg _ (aC.mpr rfl))
     have hR:∀b:Bool,b = !(((acc'++[last]).map PV.str).isEmpty)->b=true:=λb e=>by rw [e];simp
     refine cQ (R1:=[.tab,.lst ((acc'++[last]).map .str)]) (qb (R1:=[.tab,.lst ((acc'++[last]).map .str)]) ∅ (m6 (R1:=[.tab,.lst ((acc'++[last]).map .str)]) ∅ (m6 (R1:=[.tab,.lst ((acc'++[last]).map .str)]) (tB (R1:=[.tab,.lst ((acc'++[last]).map .str)]) (m7 (b :=!(((acc'++[last]).map PV.str).isEmpty)) ∅ (hR _ rfl)) (y8 (i9 (x:=.str last) (y:=.str [46,46]) (R1:=[.tab,.lst ((acc'++[last]).map .str)]) ∅ (mn (x:=.obj 1) (R1:=[.tab,.lst ((acc'++[last]).map .str)]) ∅ ∅ ?_) ∅ ?_))) ∅))) ?_
     ·refine cU (b:=fO (iB ((acc'++[last]).map PV.str) (-1)) [.tab,.lst ((acc'++[last]).map .str)]) ∅ (gT ?_)
      rw [bV,List.map_singleton,Eo]
     ·refine cU (b:=some (last==[46,46])) ∅ ?_
      rw [hlast]
     ·refine ff (R1:=[.tab,.lst ((acc'++[last]).map .str)]) (m7 (b :=!(((acc'++[last]).map PV.str).isEmpty)) ∅ (hR _ rfl)) ?_
      refine aR (QH p (.list ((aL 47 p).map .str)) (.str [46,46])) (R1:=[.tab,.lst (acc'.map .str)]) ?_ (aX (aX (aX ?_)))
      ·refine HV (y:=last) (ei (x:=.obj 1) (as:=[]) (R1:=[.tab,.lst ((acc'++[last]).map .str)]) (R2:=[.tab,.lst ((acc'++[last]).map .str)]) ∅ ∅ ∅ ?_)
       rw [bV]
       exact EA (l:=acc'.map .str) rfl rfl
      ·refine⟨rest,acc',_,rfl,an rfl,rfl,?_,λq=>h5 (e9 _ q),?_⟩
       ·rw [<-h4'];congr 1;simp [cN]
       ·rw [gA]at h6;simp only [aq,cj]at h6;exact T3 h6
   ·have b1:(c==[])=false:=beq_eq_false_iff_ne.mpr e1
    have b2:(c==[46])=false:=beq_eq_false_iff_ne.mpr e2
    have b3:(c==[46,46])=false:=beq_eq_false_iff_ne.mpr e3
    refine cQ (R1:=[.tab,.lst (acc.map .str)]) (qb (R1:=[.tab,.lst (acc.map .str)]) ?_ (m6 (R1:=[.tab,.lst (acc.map .str)]) (m7 (b:=c==[46]) ∅ b2) ∅)) (aX ?_)
    ·cases c with
     | nil=>exact absurd rfl e1
     | cons d c=>kernel_rfl
    refine ff (R1:=[.tab,.lst (acc.map .str)]) (A9 (m7 (b :=!(c==[46,46])) ∅ (by rw [b3];rfl))) ?_
    refine aR (QH p (.list ((aL 47 p).map .str)) (.str c)) (R1:=[.tab,.lst (acc.map .str++[.str c])]) ?_ (aX (aX ?_))
    ·refine gE (ei (x:=.obj 1) (as:=[.str c]) (R1:=[.tab,.lst (acc.map .str)]) (R2:=[.tab,.lst (acc.map .str)]) ∅ ∅ ∅ (dq (l:=acc.map .str) rfl rfl ?_))
     rw [ae]
     have:=j8 acc
     have hS:SZ=1000000:=rfl
     exact T2 hl h6 this hS
    ·refine⟨rest,acc++[c],_,rfl,an rfl,by rw [bV];rfl,?_,?_,?_⟩
     ·rw [<-h4'];congr 1;simp [cN,b1,b2,b3]
     ·intro q
      rcases dp.mp q with q | q
      ·exact h5 q
      ·exact e3 (aC.mp q).symm
     ·rw [gA,eG];have:cc []=0:=rfl;exact T1 h6 this
 ·rintro σ R ⟨rest,acc,cm,h1,h2,rfl,h4,h5,h6⟩
  cases rest with
  | cons c rest=>cases h1
  | nil=>
   have h4':acc=ic [] (aL 47 p):=h4
   rw [<-h4']
   have hB:cc acc<=p.length+1:=by have:cc ([]:List LS)=0:=rfl;exact T0 h6
   have hs2:(acc.map bX).sum+acc.length*([47]:LS).length<=SZ:=by
    have:([47]:LS).length=1:=rfl
    have hS:SZ=1000000:=rfl
    unfold cc at hB
    rw [this,f8]
    exact TZ hl hB hS
   have hs3:(aG acc).length<=SZ:=by
    have h7:=jQ [47] acc
    have:([47]:LS).length=1:=rfl
    have hS:SZ=1000000:=rfl
    unfold cc at hB
    rw [this,f8]at h7
    show(ce [47] acc).length+1<=SZ
    exact TY hl hB h7 hS
   have fin:∀cmv:bq,(cmv=[]\/cmv=([("comp",cm)]:bq))->oF (fG (k+2)) 393 ⟨(br (aK pw 24)).scope.names,1⟩ (yV 7 (br (aK pw 24)).body) (Oy p (.list ((aL 47 p).map .str)) cmv) [.tab,.lst (acc.map .str)] λo=>o.1 = .ret (.str (aG acc))/\o.2.2=[.tab,.dead]:=by
    intro cmv hcm
    refine aR (r:=yV 8 (br (aK pw 24)).body) (s:=(br (aK pw 24)).body.getD 7 bO) (Oy p (.obj 1) cmv) (R1:=[.tab,.lst (acc.map .str)]) (by rcases hcm with rfl | rfl<;>kernel_rfl) ?_
    refine b8 (r:=yV 9 (br (aK pw 24)).body) (.str (aG acc)) (Oy (aG acc) (.obj 1) cmv) (R1:=[.tab,.lst (acc.map .str)]) ?_ ∅ ∅ (by rcases hcm with rfl | rfl<;>kernel_rfl) ?_
    ·exact jw (x:=.str [47]) (y:=.str (ce [47] acc)) (R1:=[.tab,.lst (acc.map .str)]) (by rcases hcm with rfl | rfl<;>kernel_rfl) (ei (x:=.str [47]) (as:=[.obj 1]) (R1:=[.tab,.lst (acc.map .str)]) (R2:=[.tab,.lst (acc.map .str)]) ∅ (by rcases hcm with rfl | rfl<;>kernel_rfl) (by rcases hcm with rfl | rfl<;>kernel_rfl) (nc (l:=acc) rfl hs2)) ∅ (yt (jb (l:=aG acc) hs3) rfl)
    ·exact cP (.str (aG acc)) (R1:=[.tab,.dead]) (by rcases hcm with rfl | rfl<;>kernel_rfl) ⟨rfl,rfl⟩
   rcases h2 with rfl | rfl
   ·exact fin [] (av rfl)
   ·exact fin [("comp",cm)] (an rfl)
theorem NO{k:Nat}{p:LS}{R:List aO}(h:(p.take 1==[47])=false)(hl:p.length<=300000)(hR:wE R=true):fG (k+3) 179 [.str (47::p)] [] R=some (.str (aG (ic [] (aL 47 p))),R):=
 dY (GE k p h hl) rfl rfl rfl hR
end Mine.W
end
section
namespace Mine.W
noncomputable def c7(s:LS):LS:=bif s.isEmpty then [39,39]else bif !s.any cW then s else [39]++dO 39 [39,34,39,34,39] s++[39]
theorem rM(s:LS):(dO 39 [39,34,39,34,39] s).length<=5*s.length:=by
 unfold dO
 induction s with
 | nil=>exact bo _
 | cons x s ih=>
  rw [jF,ai,aq]
  have:(if x=39 then [39,34,39,34,39]else [x]:LS).length<=5:=by by_cases h:x=39<;>simp [h]
  exact p1 ih this
theorem Ee(k:Nat)(s:LS)(hl:s.length<=100000):nF (fG k) pw 400 892 [.str s] [] [.tab]=some (.str (c7 s),[.tab]):=by
 refine cH (fi:=⟨br (aK pw 49),[]⟩) (σ:=[("s",.str s)]) ∅ ∅ ?_
 unfold c7
 cases h0:s.isEmpty with
 | true=>exact ff (R1:=[.tab]) (m7 (b :=!(!s.isEmpty)) ∅ (by rw [h0];rfl)) (cP (.str [39,39]) (R1:=[.tab]) ∅ ⟨rfl,rfl⟩)
 | false=>
  refine cQ (R1:=[.tab]) (m7 (b :=!(!s.isEmpty)) ∅ (by rw [h0];rfl)) (aX ?_)
  cases h1 :!s.any cW with
  | true=>exact ff (R1:=[.tab]) (m7 (b :=!s.any cW) ∅ h1) (cP (.str s) (R1:=[.tab]) ∅ ⟨rfl,rfl⟩)
  | false=>
   refine cQ (R1:=[.tab]) (m7 (b :=!s.any cW) ∅ h1) (aX ?_)
   have h2:=rM s
   have hS:SZ=1000000:=rfl
   refine cP (.str ([39]++dO 39 [39,34,39,34,39] s++[39])) (R1:=[.tab]) ?_ ⟨rfl,rfl⟩
   refine jw (x:=.str ([39]++dO 39 [39,34,39,34,39] s)) (y:=.str [39]) (R1:=[.tab]) ?_ ∅ ∅ (jb ?_)
   ·refine cU (b:=(mkS ([39]++dO 39 [39,34,39,34,39] s)).map λv=>(v,[.tab])) ∅ ?_
    rw [jb (by rw [ai];show 1+_<=_;exact TX hl h2 hS)]
    rfl
   ·rw [ai,ai];show 1+_+1<=_;exact TV hl h2 hS
theorem KO{k:Nat}{s:LS}{R:List aO}(hl:s.length<=100000)(hR:wE R=true):fG (k+1) 892 [.str s] [] R=some (.str (c7 s),R):=dY (Ee k s hl) rfl rfl rfl hR
noncomputable abbrev tupP(row:List LS):PV:=.tup (row.map .str)
noncomputable def aZ(here:List LS)(way:LS):List LS:=ic (bif way.take 1==[47]then []else here) (aL 47 way)
theorem DX{α:Type}(l:List α)(h:l≠[]):dG l none (some (-1))=l.dropLast:=by
 show l.take (r7 (-1) l.length)=_
 unfold r7
 rw [if_pos (by decide),hG]
 congr 1
 exact TU
theorem Bj(l:List LS):dG (l.map PV.str) none (some (-1))=l.dropLast.map .str:=by
 rcases oL l with rfl | ⟨a,x,rfl⟩
 ·rfl
 ·rw [DX _ (by simp),List.map_dropLast]
theorem GZ(acc:List LS)(c:LS):(cN acc c).length<=acc.length+1:=by
 unfold cN
 cases c==[]||c==[46]with
 | true=>exact cX _
 | false=>cases c==[46,46]with
  | true=>show acc.dropLast.length<=_;rw [CM];exact ah (fA _ _) (cX _)
  | false=>show(acc++[c]).length<=_;rw [ai];exact aF _
theorem BA{l:List PV}(h:l.length<=SZ):mkT l=some (.tup l):=by unfold mkT;rw [if_pos h]
theorem Ef(k:Nat)(here:List LS)(way:LS)(hl:here.length+way.length<=100000):nF (fG k) pw 400 925 [tupP here,.str way] [] [.tab]=some (tupP (aZ here way),[.tab]):=by
 have hsl:=ah (j8 _) (aA (j6 47 way))
 have hS:SZ=1000000:=rfl
 refine cH (fi:=⟨br (aK pw 55),[]⟩) (σ:=[("here",tupP here),("way",.str way)]) ∅ ∅ ?_
 refine b8 (tupP (bif way.take 1==[47]then []else here)) [("here",tupP here),("way",.str way),("names",tupP (bif way.take 1==[47]then []else here))] (R1:=[.tab]) (ka (b:=way.take 1==[47]) (R1:=[.tab]) ∅ (by cases way.take 1==[47]<;>kernel_rfl)) ∅ ∅ ∅ ?_
 refine gB (xs:=(aL 47 way).map .str) (σ1:=[("here",tupP here),("way",.str way),("names",tupP (bif way.take 1==[47]then []else here))]) (R1:=[.tab]) ?_ ∅ ?_
 ·exact fV (ei (x:=.str way) (as:=[.str [47]]) (R1:=[.tab]) ∅ ∅ ∅ (ou (by exact TS hl hsl hS))) ∅ ∅
 refine ii (λxs σ R=>∃(rest acc:List LS) (tl:bq),xs=rest.map .str/\(tl=[] \/ ∃v,tl=([("piece",v)]:bq))/\σ=(("here",tupP here)::("way",.str way)::("names",tupP acc)::tl:bq)/\R=([.tab]:List aO)/\ic acc rest=aZ here way/\acc.length+rest.length<=200000) ?_ ?_ _ _ _ ⟨aL 47 way,_,[],rfl,av rfl,rfl,rfl,rfl,?_⟩
 ·rintro x xs σ R ⟨rest,acc,tl,h1,h2,rfl,rfl,h4,h6⟩
  cases rest with
  | nil=>cases h1
  | cons c rest=>
   simp only [aN,dF]at h1
   obtain⟨rfl,rfl⟩:=h1
   have h4':ic (cN acc c) rest=aZ here way:=h4
   have hn:=GZ acc c
   rw [aq]at h6
   refine jn [("here",tupP here),("way",.str way),("names",tupP acc),("piece",.str c)] (by rcases h2 with rfl | ⟨v,rfl⟩<;>kernel_rfl) ?_
   have fin:CC (λxs σ R=>∃(rest acc:List LS) (tl:bq),xs=rest.map .str/\(tl=[] \/ ∃v,tl=([("piece",v)]:bq))/\σ=(("here",tupP here)::("way",.str way)::("names",tupP acc)::tl:bq)/\R=([.tab]:List aO)/\ic acc rest=aZ here way/\acc.length+rest.length<=200000) (rest.map .str) (sO (fG k) 398 ⟨(br (aK pw 55)).scope.names,1⟩ (yV 2 (br (aK pw 55)).body) (λo=>o.1 = .ret (tupP (aZ here way))/\o.2.2=[.tab])) (.next,[("here",tupP here),("way",.str way),("names",tupP (cN acc c)),("piece",.str c)],[.tab]):=
    ⟨rest,_,_,rfl,an ⟨_,rfl⟩,rfl,rfl,h4',by exact TQ h6 hn⟩
   refine jp [("here",tupP here),("way",.str way),("names",tupP (cN acc c)),("piece",.str c)] (R1:=[.tab]) ?_ (aX fin)
   by_cases e3:c=[46,46]
   ·subst e3
    refine ff (R1:=[.tab]) ∅ ?_
    refine b8 (tupP (cN acc [46,46])) [("here",tupP here),("way",.str way),("names",tupP (cN acc [46,46])),("piece",.str [46,46])] (R1:=[.tab]) ?_ ∅ ∅ ∅ (aX (aX rfl))
    refine cU (b:=some (.tup (dG (acc.map PV.str) none (some (-1))),[.tab])) ∅ ?_
    rw [Bj];rfl
   have b3:(c==[46,46])=false:=beq_eq_false_iff_ne.mpr e3
   refine cQ (R1:=[.tab]) (m7 (b:=c==[46,46]) ∅ b3) ?_
   cases e:c==[]||c==[46]with
   | true=>
    refine cQ (R1:=[.tab]) ?_ (aX (aX (aX ?_)))
    ·rcases gt.mp e with e | e<;>(have e:=aJ e;subst e;kernel_rfl)
    ·unfold cN;rw [e];rfl
   | false=>
    obtain⟨b1,b2⟩:=iz.mp e
    have hns:cN acc c=acc++[c]:=by unfold cN;rw [e,b3];rfl
    refine ff (R1:=[.tab]) (m7 (b :=!([]==c||([46]==c||false))) ∅ ?_) ?_
    ·rw [show([]==c)=false by rw [beq_eq_false_iff_ne]at b1 ⊢;exact λq=>b1 q.symm,show([46]==c)=false by rw [beq_eq_false_iff_ne]at b2 ⊢;exact λq=>b2 q.symm];rfl
    ·refine b8 (tupP (cN acc c)) [("here",tupP here),("way",.str way),("names",tupP (cN acc c)),("piece",.str c)] (R1:=[.tab]) (jw (x:=tupP acc) (y:=.tup [.str c]) (R1:=[.tab]) ∅ ∅ ∅ ?_) ∅ ∅ ∅ (aX (aX (aX rfl)))
     rw [hns]
     refine(BA (l:=acc.map PV.str++[PV.str c]) ?_).trans (by show some (PV.tup (acc.map PV.str++[c].map PV.str))=_;rw [<-bV])
     rw [ai,ae];show _+1<=_;exact TP hS h6
 ·rintro σ R ⟨rest,acc,tl,h1,h2,rfl,rfl,h4,h6⟩
  cases rest with
  | cons c rest=>cases h1
  | nil=>
   have h4':acc=aZ here way:=h4
   rw [<-h4']
   refine cP (tupP acc) (R1:=[.tab]) (by rcases h2 with rfl | ⟨v,rfl⟩<;>kernel_rfl) ⟨rfl,rfl⟩
 ·cases way.take 1==[47]
  ·show here.length+_<=_;exact TO hl hsl
  ·show 0+_<=_;exact TN hl hsl
theorem bG(l:List LS):bz (l.map .str)=true:=by
 induction l with
 | nil=>rfl
 | cons x l ih=>exact ih
theorem Dw{k:Nat}{here:List LS}{way:LS}{R:List aO}(hl:here.length+way.length<=100000)(hR:wE R=true):fG (k+1) 925 [tupP here,.str way] [] R=some (tupP (aZ here way),R):=
 dY (Ef k here way hl) (by show(bz (here.map .str)&&true)=true;rw [bG];rfl) (bG _) rfl hR
end Mine.W
end
section
namespace Mine.W
theorem uD{l:List PV}(h:l.length<=SZ):mkL l=some (.list l):=by unfold mkL;rw [if_pos h]
theorem bN{α:Type}{l:List α}{f:α->PV}(h:∀x∈l,noObj (f x)=true):bz (l.map f)=true:=by
 induction l with
 | nil=>rfl
 | cons x l ih=>
  show(noObj (f x)&&bz (l.map f))=true
  rw [h x aj,ih λy hy=>h y (am _ hy)]
  rfl
theorem M5{l:List PV}(h:bz l=true):∀x∈l,noObj x=true:=by
 induction l with
 | nil=>exact λx hx=>nomatch hx
 | cons y l ih=>
  have h':=aM.mp (show(noObj y&&bz l)=true from h)
  intro x hx
  rcases aw.mp hx with rfl | hx
  ·exact h'.1
  ·exact ih h'.2 x hx
theorem Ed(k:Nat)(r:List LS)(hl:cc r<=300000):nF (fG k) pw 400 937 [tupP r] [] [.tab]=some (.str (aG r),[.tab]):=by
 have hS:SZ=1000000:=rfl
 have h1:(r.map bX).sum+r.length*([47]:LS).length<=SZ:=by
  have:([47]:LS).length=1:=rfl
  unfold cc at hl
  rw [this,f8];exact M1 hl hS
 have h2:=jQ [47] r
 refine cH (fi:=⟨br (aK pw 57),[]⟩) (σ:=[("row",tupP r)]) ∅ ∅ ?_
 refine ff (R1:=[.tab]) ∅ ?_
 refine cP (.str (aG r)) (R1:=[.tab]) ?_ ⟨rfl,rfl⟩
 refine jw (x:=.str [47]) (y:=.str (ce [47] r)) (R1:=[.tab]) ∅ (ei (x:=.str [47]) (as:=[tupP r]) (R1:=[.tab]) (R2:=[.tab]) ∅ ∅ ∅ (nc (l:=r) rfl h1)) ∅ (yt (jb (l:=47::ce [47] r) ?_) rfl)
 have:([47]:LS).length=1:=rfl
 unfold cc at hl
 rw [this,f8]at h2
 show(ce [47] r).length+1<=_
 exact Pj hl hS h2
theorem tN{k:Nat}{r:List LS}{R:List aO}(hl:cc r<=300000)(hR:wE R=true):fG (k+1) 937 [tupP r] [] R=some (.str (aG r),R):=
 dY (Ed k r hl) (by show(bz (r.map .str)&&true)=true;rw [bG];rfl) rfl rfl hR
theorem Du{k:Nat}{l:List PV}{g:PV->PV}{R:List aO}(hn:l.length<=SZ)(h:∀x∈l,dP k 937 [x] (g x))(h1:bz l=true)(h2:∀x∈l,noObj (g x)=true)(hR:wE R=true):fG (k+1) 937 [.list l] [] R=some (.list (l.map g),R):=by
 refine dY (R1:=[.tab]) ?_ (by show(bz l&&true)=true;rw [h1];rfl) (bN h2) rfl hR
 refine cH (fi:=⟨br (aK pw 57),[]⟩) (σ:=[("row",.list l)]) ∅ ∅ ?_
 refine cQ (R1:=[.tab]) ∅ (aX ?_)
 refine cP (.list (l.map g)) (R1:=[.tab]) (gb (jx g ∅ (ij ∅ ∅) λx hx=>⟨[("part",x)],∅,?_⟩) (by rw [ae];exact hn)) ⟨rfl,rfl⟩
 exact ej (g:=937) (as:=[x]) (R1:=[.tab]) ∅ ∅ ∅ ∅ (h x hx _ rfl)
theorem HQ{k:Nat}{here:List LS}{w:LS}{vs:List PV}{f:PV->PV}{R:List aO}(hl:here.length+w.length<=100000)(hn:vs.length<1000)
  (hv:∀v∈vs,noObj (f v)=true/\((∃s,v = .str s/\f v=tupP (aZ (aZ here w) s)/\(aZ here w).length+s.length<=100000)\/(∃l,v = .list l/\bz l=true/\dP (k+1) 932 [v,tupP (aZ here w)] (f v))))(hR:wE R=true) :
  fG (k+2) 932 [.list [.str w,.list vs],tupP here] [] R=some (.list (tupP (aZ here w)::vs.map f),R):=by
 have hno:bz vs=true:=by
  have:bz (vs.map λx=>x)=true:=bN λv hx=>by
   rcases(hv v hx).2 with ⟨s,rfl,_⟩ | ⟨l,rfl,h,_⟩
   ·rfl
   ·exact h
  rwa [fY]at this
 refine dY (R1:=[.tab,.dead]) ?_ (by show((true&&(bz vs&&true))&&(bz (here.map .str)&&true))=true;rw [bG,hno];rfl) (by show(bz ((aZ here w).map .str)&&bz (vs.map f))=true;rw [bG,bN λv hx=>(hv v hx).1];rfl) rfl hR
 refine cH (fi:=⟨br (aK pw 56),[]⟩) (σ:=[("vote",.list [.str w,.list vs]),("here",tupP here)]) ∅ ∅ ?_
 refine b8 (tupP (aZ here w)) [("vote",.list [.str w,.list vs]),("here",tupP (aZ here w))] (R1:=[.tab]) (ej (g:=925) (as:=[tupP here,.str w]) (R1:=[.tab]) ∅ ∅ ∅ ∅ (Dw hl rfl)) ∅ ∅ ∅ ?_
 refine aR [("vote",.list [.str w,.list vs]),("here",tupP (aZ here w)),("rows",.obj 1)] (R1:=[.tab,.lst [tupP (aZ here w)]]) ∅ ?_
 refine gB (xs:=vs) (σ1:=[("vote",.list [.str w,.list vs]),("here",tupP (aZ here w)),("rows",.obj 1)]) (R1:=[.tab,.lst [tupP (aZ here w)]]) (fV ∅ ∅ ∅) ∅ ?_
 refine qS (λo=>("vote",.list [.str w,.list vs])::("here",tupP (aZ here w))::("rows",.obj 1)::(o.map λv=>(("voice":Str),v)).toList) f [tupP (aZ here w)] vs (by show 1+_<_;exact M0 hn) (λo v acc hx ha=>?_) (λo=>?_)
 ·refine oP [("vote",.list [.str w,.list vs]),("here",tupP (aZ here w)),("rows",.obj 1),("voice",v)] (by cases o<;>kernel_rfl) (cR (gE (ei (x:=.obj 1) (as:=[f v]) (R1:=[.tab,.lst acc]) (R2:=[.tab,.lst acc]) ∅ ∅ (fh ?_) (dq (l:=acc) rfl rfl (bI ha (by decide))))))
  rcases(hv v hx).2 with ⟨s,rfl,h2,h3⟩ | ⟨l,rfl,h1,h2⟩
  ·rw [h2]
   exact ka (b:=true) (R1:=[.tab,.lst acc]) ∅ (ej (g:=925) (as:=[tupP (aZ here w),.str s]) (R1:=[.tab,.lst acc]) ∅ ∅ ∅ ∅ (Dw h3 rfl))
  ·refine ka (b:=false) (R1:=[.tab,.lst acc]) ∅ (ej (g:=932) (as:=[.list l,tupP (aZ here w)]) (R1:=[.tab,.lst acc]) ∅ ∅ ∅ ∅ (h2 _ rfl))
 ·exact cP (.list (tupP (aZ here w)::vs.map f)) (R1:=[.tab,.dead]) (by cases o<;>kernel_rfl) ⟨rfl,rfl⟩
end Mine.W
end
section
namespace Mine.W
noncomputable abbrev eH:LS:=[109,111,115,116]
theorem QU{k j:Nat}{l:List PV}(h:j≠k):sub k l (.obj j) = .obj j:=if_neg h
noncomputable def lO(ws:List LS):LS:=ce [32] (ws.map c7)
theorem HR{k:Nat}{w:LS}{vs:List PV}{g:PV->LS}(hn:vs.length<1000)
  (hw:(((eH::w::vs.map g).map c7).map bX).sum+(vs.length+2)<=300000)(hq:∀s∈w::vs.map g,s.length<=100000)
  (hv:∀v∈vs,(∃s,v = .str s/\g v=s)\/(∃l,v = .list l/\bz l=true/\dP (k+1) 911 [v] (.str (g v)))):dP (k+2) 911 [.list [.str w,.list vs]] (.str (lO (eH::w::vs.map g))):=by
 intro R hR
 have hno:bz vs=true:=by
  have:bz (vs.map λx=>x)=true:=bN λv hx=>by
   rcases hv v hx with ⟨s,rfl,_⟩ | ⟨l,rfl,h,_⟩
   ·rfl
   ·exact h
  rwa [fY]at this
 have hS:SZ=1000000:=rfl
 refine dY (R1:=[.tab,.dead]) ?_ (by show((true&&(bz vs&&true))&&true)=true;rw [hno];rfl) rfl rfl hR
 refine cH (fi:=⟨br (aK pw 53),[]⟩) (σ:=[("vote",.list [.str w,.list vs])]) ∅ ∅ ?_
 refine aR [("vote",.list [.str w,.list vs]),("words",.obj 1)] (R1:=[.tab,.lst [.str eH,.str w]]) ∅ ?_
 refine gB (xs:=vs) (σ1:=[("vote",.list [.str w,.list vs]),("words",.obj 1)]) (R1:=[.tab,.lst [.str eH,.str w]]) (fV ∅ ∅ ∅) ∅ ?_
 refine qS (λo=>("vote",.list [.str w,.list vs])::("words",.obj 1)::(o.map λv=>(("voice":Str),v)).toList) (λv=>.str (g v)) [.str eH,.str w] vs (by show 2+_<_;exact TM hn) (λo v acc hx ha=>?_) (λo=>?_)
 ·refine oP [("vote",.list [.str w,.list vs]),("words",.obj 1),("voice",v)] (by cases o<;>kernel_rfl) (cR (gE (ei (x:=.obj 1) (as:=[.str (g v)]) (R1:=[.tab,.lst acc]) (R2:=[.tab,.lst acc]) ∅ ∅ (fh ?_) (dq (l:=acc) rfl rfl (bI ha (by decide))))))
  rcases hv v hx with ⟨s,rfl,h2⟩ | ⟨l,rfl,h1,h2⟩
  ·rw [h2]
   exact ka (b:=true) (R1:=[.tab,.lst acc]) ∅ ∅
  ·exact ka (b:=false) (R1:=[.tab,.lst acc]) ∅ (ej (g:=911) (as:=[.list l]) (R1:=[.tab,.lst acc]) ∅ ∅ ∅ ∅ (h2 _ rfl))
 ·have e1:([.str eH,.str w]++vs.map λv=>PV.str (g v))=(eH::w::vs.map g).map .str:=by simp only [aN,aI];rfl
  rw [e1]
  refine cP (.str (lO (eH::w::vs.map g))) (R1:=[.tab,.dead]) (ei (x:=.str [32]) (as:=[.list (((eH::w::vs.map g).map c7).map .str)]) (R1:=[.tab,.dead]) (R2:=[.tab,.dead]) ∅ (by cases o<;>kernel_rfl) (fh (gb ?_ ?_)) (nc (l:=(eH::w::vs.map g).map c7) rfl ?_)) ⟨rfl,rfl⟩
  ·have e2:((eH::w::vs.map g).map c7).map PV.str=((eH::w::vs.map g).map PV.str).map λp=>.str (c7 ((pO p).getD [])):=by rw [aI,aI];rfl
   rw [e2]
   refine jx (R1:=[.tab,.dead]) _ (by cases o<;>kernel_rfl) (ij (by cases o<;>kernel_rfl) ∅) λp hp=>?_
   obtain⟨s,hs,rfl⟩:=aH.mp hp
   refine⟨[("word",.str s)],by cases o<;>kernel_rfl,ej (g:=892) (as:=[.str s]) (R1:=[.tab,.dead]) ∅ ∅ ∅ ∅ (KO ?_ rfl)⟩
   rcases aw.mp hs with rfl | hs
   ·exact bv rfl
   ·exact hq s hs
  ·rw [ae,ae,aq,aq,ae];exact TL hw hS
  ·rw [ae,aq,aq,ae]
   have:([32]:LS).length=1:=rfl
   rw [this,f8];exact TK hw hS
noncomputable def lY(here:List LS)(w:LS):Prop:=∃p,Cw (aG here) w (47::p)/\(p.take 1==[47])=false/\p.length<=300000/\ic [] (aL 47 p)=aZ here w
theorem rh{k n:Nat}{cx:Cx}{σ:bq}{R:List aO}{f1 f2:Str}{p1 p2 p3 p4:dN}{a b:bE}{here:List LS}{w:LS}(hp:lY here w)(h1:gl cx f1=true)(h2:gl cx f2=true)(h3:(!Oh 179||[PySem.Expr.Call (.Name f2 p2) [a,b] [] p3].isEmpty)=false)
  (h4:lV (eZ f1) [.Call (.Name f2 p2) [a,b] [] p3] [] = .fn 179)(h5:lV (eZ f2) [a,b] [] = .fn 165)(ha:ev (fG (k+3)) (n+2) cx a σ R=some (.str (aG here),R))(hb:ev (fG (k+3)) (n+1) cx b σ R=some (.str w,R))(hR:wE R=true) :
  ev (fG (k+3)) (n+8) cx (.Call (.Name f1 p1) [.Call (.Name f2 p2) [a,b] [] p3] [] p4) σ R=some (.str (aG (aZ here w)),R):=by
 obtain⟨p,k1,k2,k3,k4⟩:=hp
 refine ej (n:=n+6) (g:=179) (as:=[.str (47::p)]) (R1:=R) h1 h4 h3 (fh (n:=n+4) (ej (n:=n+3) (g:=165) (as:=[.str (aG here),.str w]) (R1:=R) h2 h5 rfl (oY (n:=n) ha hb) (NP k1 hR))) ?_
 rw [<-k4]
 exact NO k2 k3 hR
theorem Qh{k:Nat}{line w:LS}{ws:List LS}{here:List LS}{f:PV->PV}(hn:ws.length<1000)(hs:dP (k+3) 884 [.str line,.bool true] (.list ((eH::w::ws).map .str)))(hw:lY here w)
  (hv:∀s∈ws,noObj (f (.str s))=true/\(((s.take 4==eH)=true/\dP (k+3) 918 [.str s,.str (aG (aZ here w))] (f (.str s)))\/((s.take 4==eH)=false/\lY (aZ here w) s/\f (.str s) = .str (aG (aZ (aZ here w) s))))) :
  dP (k+4) 918 [.str line,.str (aG here)] (.list (.str (aG (aZ here w))::(ws.map .str).map f)):=by
 intro R hR
 have hno:bz ((ws.map PV.str).map f)=true:=bN λv hx=>by
  obtain⟨s,hs,rfl⟩:=aH.mp hx
  exact(hv s hs).1
 refine dY (R1:=[.tab,.dead]) ?_ rfl hno rfl hR
 refine cH (fi:=⟨br (aK pw 54),[]⟩) (σ:=[("line",.str line),("here",.str (aG here))]) ∅ ∅ ?_
 refine b8 (.list ((eH::w::ws).map .str)) [("line",.str line),("here",.str (aG here)),("words",.list ((eH::w::ws).map .str))] (R1:=[.tab]) (ej (g:=884) (as:=[.str line,.bool true]) (R1:=[.tab]) ∅ ∅ ∅ ∅ (hs _ rfl)) ∅ ∅ ∅ ?_
 refine cQ (R1:=[.tab]) ∅ (aX ?_)
 refine b8 (.str (aG (aZ here w))) [("line",.str line),("here",.str (aG (aZ here w))),("words",.list ((eH::w::ws).map .str))] (R1:=[.tab]) (rh hw ∅ ∅ ∅ ∅ ∅ ∅ ∅ rfl) ∅ ∅ ∅ ?_
 refine aR [("line",.str line),("here",.str (aG (aZ here w))),("words",.list ((eH::w::ws).map .str)),("places",.obj 1)] (R1:=[.tab,.lst [.str (aG (aZ here w))]]) ∅ ?_
 refine gB (xs:=ws.map .str) (σ1:=[("line",.str line),("here",.str (aG (aZ here w))),("words",.list ((eH::w::ws).map .str)),("places",.obj 1)]) (R1:=[.tab,.lst [.str (aG (aZ here w))]]) (fV ∅ ∅ ∅) ∅ ?_
 refine qS (λo=>("line",.str line)::("here",.str (aG (aZ here w)))::("words",.list ((eH::w::ws).map .str))::("places",.obj 1)::(o.map λv=>(("word":Str),v)).toList) f [.str (aG (aZ here w))] (ws.map .str) (by rw [ae];show 1+_<_;exact M0 hn) (λo v acc hx ha=>?_) (λo=>?_)
 ·obtain⟨s,hsm,rfl⟩:=aH.mp hx
  refine oP [("line",.str line),("here",.str (aG (aZ here w))),("words",.list ((eH::w::ws).map .str)),("places",.obj 1),("word",.str s)] (by cases o<;>kernel_rfl) (cR ?_)
  rcases(hv s hsm).2 with ⟨h1,h2⟩ | ⟨h1,h2,h3⟩
  ·refine r4 (R1:=[.tab,.lst acc]) (m7 (b:=s.take 4==eH) ∅ h1) (cR (gE (ei (x:=.obj 1) (as:=[f (.str s)]) (R1:=[.tab,.lst acc]) (R2:=[.tab,.lst acc]) ∅ ∅ (fh ?_) (dq (l:=acc) rfl rfl (bI ha (by decide))))))
   exact ej (g:=918) (as:=[.str s,.str (aG (aZ here w))]) (R1:=[.tab,.lst acc]) ∅ ∅ ∅ ∅ (h2 _ rfl)
  ·refine gD (R1:=[.tab,.lst acc]) (m7 (b:=s.take 4==eH) ∅ h1) (cR (gE (ei (x:=.obj 1) (as:=[f (.str s)]) (R1:=[.tab,.lst acc]) (R2:=[.tab,.lst acc]) ∅ ∅ (fh ?_) (dq (l:=acc) rfl rfl (bI ha (by decide))))))
   rw [h3]
   exact rh h2 ∅ ∅ ∅ ∅ ∅ ∅ ∅ rfl
 ·exact cP (.list (.str (aG (aZ here w))::(ws.map .str).map f)) (R1:=[.tab,.dead]) (by cases o<;>kernel_rfl) ⟨rfl,rfl⟩
end Mine.W
end
section
namespace Mine.W
noncomputable abbrev MD:LS:=ls "abcdfeghijklmnopqrstuvwxyzABCDEFGHIJKLMNOPQRSTUVWXYZ0123456789_ßàáâãäåæçèéêëìíîïðñòóôõöøùúûüýþÿÀÁÂÃÄÅÆÇÈÉÊËÌÍÎÏÐÑÒÓÔÕÖØÙÚÛÜÝÞ"
noncomputable abbrev FL(ws:Bool)(st:PV)(tok:LS):List (Str × PV):=[("instream",.obj 2),("infile",.none),("posix",.bool true),("eof",.none),("commenters",.str [35]),("wordchars",.str MD),("whitespace",.str [32,9,13,10]),("whitespace_split",.bool ws),("quotes",.str [39,34]),("escape",.str [92]),("escapedquotes",.str [34]),("state",st),("pushback",.obj 3),("lineno",.int 1),("debug",.int 0),("token",.str tok),("filestack",.obj 4),("source",.none),("_punctuation_chars",.str [])]
noncomputable abbrev QP(b:LS)(p:Nat):List (Str × PV):=[("_StringIO__newline",.str [10]),("_StringIO__buf",.str b),("_StringIO__pos",.int (p:Int))]
noncomputable abbrev LX(st:PV)(tok b:LS)(p:Nat):List aO:=[.tab,.inst 872 (FL true st tok),.inst 737 (QP b p),.deq,.deq]
theorem Hi(k:Nat)(b:LS):fG (k+3) 796 [.obj 1,.str b] [("posix",.bool true)] [.tab,.inst 872 []]=some (.none,[.tab,.inst 872 (FL false (.str [32]) []),.inst 737 (QP b 0),.deq,.deq]):=∅
theorem jT{sp:Spec}{n:Nat}{cx:Cx}{s:ip}{r:List ip}{σ σ1:bq}{R R1:List aO}{z:St}(h:ex sp n cx s σ R=some (.next,σ1,R1))(k:exs sp n cx r σ1 R1=some z):exs sp (n+1) cx (s::r) σ R=some z:=(vd h).trans k
theorem zL{k:Nat}{st:PV}{tok b r:LS}{p c:Nat}(h:b.drop p=c::r):fG (k+2) 683 [.obj 2,.int 1] [] (LX st tok b p)=some (.str [c],LX st tok b (p+1)):=by
 have hp:p<b.length:=by
  rcases eX p b.length with h1 | h1
  ·exact h1
  ·rw [fE h1]at h;cases h
 rw [qE (by rfl)]
 refine cH (fi:=⟨br (bK pw 35 25),[.int (-1)]⟩) (σ:=[("self",.obj 2),("size",.int 1)]) ∅ ∅ ?_
 refine aR [("self",.obj 2),("size",.int 1)] (R1:=LX st tok b p) ∅ ?_
 refine aR [("self",.obj 2),("size",.int 1)] (R1:=LX st tok b p) ∅ ?_
 refine aR [("self",.obj 2),("size",.int 1)] (R1:=LX st tok b p) ∅ ?_
 refine aR [("self",.obj 2),("size",.int 1),("start",.int (p:Int))] (R1:=LX st tok b p) ∅ ?_
 refine aR [("self",.obj 2),("size",.int 1),("start",.int (p:Int)),("stop",.int (b.length:Int))] (R1:=LX st tok b p) ∅ ?_
 refine cQ (R1:=LX st tok b p) (m7 (b:=decide ((p:Int)≥(b.length:Int))) ∅ (by rw [decide_eq_false_iff_not];exact TJ hp)) (aX ?_)
 refine jp [("self",.obj 2),("size",.int 1),("start",.int (p:Int)),("stop",.int ((p+1:Nat):Int))] (R1:=LX st tok b p) ?_ ?_
 ·by_cases h2:(p:Int)+1<(b.length:Int)
  ·refine ff (R1:=LX st tok b p) (tB (R1:=LX st tok b p) ∅ (Ga (R1:=LX st tok b p) (m7 (b:=decide ((p:Int)+1<(b.length:Int))) ∅ (decide_eq_true h2)) ∅)) ?_
   exact aR _ ∅ (aX (aX rfl))
  ·refine cQ (R1:=LX st tok b p) (tB (R1:=LX st tok b p) ∅ (y8 (m7 (b:=decide ((p:Int)+1<(b.length:Int))) ∅ (decide_eq_false h2)))) (aX (aX ?_))
   rw [show b.length=p+1 by exact TI hp h2]
 refine aR [("self",.obj 2),("size",.int 1),("start",.int (p:Int)),("stop",.int ((p+1:Nat):Int))] (R1:=LX st tok b (p+1)) ∅ ?_
 refine cP (.str [c]) (R1:=LX st tok b (p+1)) (mn (x:=.str [c,32]) (R1:=LX st tok b (p+1)) ?_ ∅ ∅) ⟨rfl,rfl⟩
 refine jw (x:=.str [c]) (y:=.str [32]) (R1:=LX st tok b (p+1)) ?_ ∅ ∅ ∅
 refine B8 (b:=.str ((b.take (p+1)).drop p)) ∅ ?_
 rw [pE,show p+1-p=1 by exact Pi,h]
 rfl
theorem qW{k:Nat}{st:PV}{tok b:LS}:fG (k+2) 683 [.obj 2,.int 1] [] (LX st tok b b.length)=some (.str [],LX st tok b b.length):=by
 rw [qE (by rfl)]
 refine cH (fi:=⟨br (bK pw 35 25),[.int (-1)]⟩) (σ:=[("self",.obj 2),("size",.int 1)]) ∅ ∅ ?_
 refine aR [("self",.obj 2),("size",.int 1)] (R1:=LX st tok b b.length) ∅ ?_
 refine aR [("self",.obj 2),("size",.int 1)] (R1:=LX st tok b b.length) ∅ ?_
 refine aR [("self",.obj 2),("size",.int 1)] (R1:=LX st tok b b.length) ∅ ?_
 refine aR [("self",.obj 2),("size",.int 1),("start",.int (b.length:Int))] (R1:=LX st tok b b.length) ∅ ?_
 refine aR [("self",.obj 2),("size",.int 1),("start",.int (b.length:Int)),("stop",.int (b.length:Int))] (R1:=LX st tok b b.length) ∅ ?_
 refine ff (R1:=LX st tok b b.length) (m7 (b:=decide ((b.length:Int)≥(b.length:Int))) ∅ (decide_eq_true (Int.le_refl _))) ?_
 exact cP (.str []) (R1:=LX st tok b b.length) ∅ ⟨rfl,rfl⟩
end Mine.W
end
section
namespace Mine.W
noncomputable def eM:List ip:=match (br (bK pw 46 6)).body.getD 2 bO with
 | .While _ b _ _=>b
 | _=>[]
noncomputable def xP:bE:=match (br (bK pw 46 6)).body.getD 2 bO with
 | .While t _ _ _=>t
 | _=>bO
noncomputable abbrev FM:Cx:=⟨(br (bK pw 46 6)).scope.names,5⟩
noncomputable abbrev AE(q:Bool)(o:Option PV):bq:=("self",.obj 1)::("quoted",.bool q)::("escapedstate",.str [32])::(o.map λv=>(("nextchar":Str),v)).toList
noncomputable abbrev sZ(q:Bool)(c:LS):bq:=[("self",.obj 1),("quoted",.bool q),("escapedstate",.str [32]),("nextchar",.str c)]
noncomputable def jP(sp:Spec)(m:Nat)(σ:bq)(R:List aO):Option St:=A6 (λσ R=>tv sp 396 FM xP σ R) (λσ R=>exs sp 396 FM eM σ R) m σ R
theorem wN{k:Nat}{q:Bool}{o:Option PV}{st:PV}{tok b x:LS}{p p':Nat}(h:fG (k+2) 683 [.obj 2,.int 1] [] (LX st tok b p)=some (.str x,LX st tok b p')){z:St}(hr:exs (fG (k+2)) 395 FM (eM.drop 1) (sZ q x) (LX st tok b p')=some z):exs (fG (k+2)) 396 FM eM (AE q o) (LX st tok b p)=some z:=by
 refine jT (s:=eM.getD 0 bO) (r:=eM.drop 1) (σ1:=sZ q x) (R1:=LX st tok b p') ?_ hr
 refine gD (R1:=LX st tok b p) (by cases o<;>kernel_rfl) (cR (HX (v:=.str x) (ei (x:=.obj 2) (as:=[.int 1]) (R1:=LX st tok b p) (R2:=LX st tok b p) ∅ (by cases o<;>kernel_rfl) ∅ (cU (b:=fG (k+2) 683 [.obj 2,.int 1] [] (LX st tok b p)) ∅ h)) ∅ ∅ (by cases o<;>kernel_rfl)))
theorem iR{k m:Nat}{q q':Bool}{o:Option PV}{st st':PV}{tok tok' b r:LS}{p c:Nat}(h:b.drop p=c::r)(hr:exs (fG (k+2)) 395 FM (eM.drop 1) (sZ q [c]) (LX st tok b (p+1))=some (.next,sZ q' [c],LX st' tok' b (p+1))) :
  jP (fG (k+2)) (m+1) (AE q o) (LX st tok b p)=jP (fG (k+2)) m (AE q' (some (.str [c]))) (LX st' tok' b (p+1)):=by
 exact A5 (R1:=LX st tok b p) (f:=.next) (show tv (fG (k+2)) 396 FM xP (AE q o) (LX st tok b p)=some (true,LX st tok b p) by kernel_rfl) (wN (o:=o) (zL h) hr)
theorem uM{k m:Nat}{q q':Bool}{o:Option PV}{st st':PV}{tok tok' b x:LS}{p p':Nat}(h:fG (k+2) 683 [.obj 2,.int 1] [] (LX st tok b p)=some (.str x,LX st tok b p'))(hr:exs (fG (k+2)) 395 FM (eM.drop 1) (sZ q x) (LX st tok b p')=some (.brk,sZ q' x,LX st' tok' b p')) :
  jP (fG (k+2)) (m+1) (AE q o) (LX st tok b p)=some (.next,sZ q' x,LX st' tok' b p'):=by
 exact A5 (R1:=LX st tok b p) (f:=.brk) (show tv (fG (k+2)) 396 FM xP (AE q o) (LX st tok b p)=some (true,LX st tok b p) by kernel_rfl) (wN (o:=o) h hr)
noncomputable def TR(q:Bool)(st:PV)(tok:LS)(c:Nat)(q':Bool)(st':PV)(tok':LS):Prop:=∀(k:Nat) (b:LS) (p:Nat),exs (fG (k+2)) 395 FM (eM.drop 1) (sZ q [c]) (LX st tok b p)=some (.next,sZ q' [c],LX st' tok' b p)
noncomputable def sy:LS:=[97,98,99,65,46,47,109,111,115,116]
noncomputable def mi:LS:=[97,98,99,65,46,47,109,111,115,116,32,34,92,35]
theorem Gg{c:Nat}(hc:c∈sy):TR false (.str [32]) [] c false (.str [97]) [c]:=by
 intro k b p
 simp only [sy,aw,bJ,or_false]at hc
 rcases hc with rfl | rfl | rfl | rfl | rfl | rfl | rfl | rfl | rfl | rfl<;>kernel_rfl
theorem JK:TR false (.str [32]) [] 39 false (.str [39]) []:=λk b p=>∅
theorem Oq(q:Bool)(tok:LS):TR q (.str [97]) tok 39 q (.str [39]) tok:=λk b p=>∅
theorem Os(q:Bool)(tok:LS):TR q (.str [97]) tok 34 q (.str [34]) tok:=λk b p=>∅
theorem Gh(q:Bool)(tok:LS):TR q (.str [39]) tok 39 true (.str [97]) tok:=λk b p=>∅
theorem MI(q:Bool)(tok:LS):TR q (.str [34]) tok 34 true (.str [97]) tok:=λk b p=>∅
theorem Dz{sp:Spec}{n k:Nat}{cx:Cx}{σ:bq}{R R1 R2:List aO}{o e:bE}{a:Str}{ap p:dN}{op:cy}{C:aB}{fs fs':List (Str × PV)}{x y v:PV}(h1:ev sp n cx o σ R=some (.obj k,R1))(h2:R1[k]? = some (.inst C fs))(h3:ta C a=true)(h4:fs.lookup a=some x)(h5:ev sp n cx e σ R1=some (y,R2))(h6:R2[k]? = some (.inst C fs'))(h7:fs'.length<900)(h8:rt op x y=some v) :
  ex sp (n+2) cx (.AugAssign (.Attribute o a ap) op e p) σ R=some (.next,σ,R2.set k (.inst C (iF fs' a v))):=by
 show bnd (ev sp n cx o σ R) (λov R1=>ju R1 ov λk C fs=>grd (ta C a) (optO (fs.lookup a) none λx=>bnd (ev sp n cx e σ R1) λb R2=>ju R2 (.obj k) λζ D fs'=>grd (decide (D=C)&&decide (fs'.length<900)) (optO (rt op x b) none λv=>some (Fl.next,σ,R2.set k (.inst C (iF fs' a v))))))=_
 exact bl h1 (tJ h2 (fU h3 (dc h4 (bl h5 (tJ h6 (fU (by rw [decide_eq_true (rfl:C=C),decide_eq_true h7];rfl) (dc h8 rfl)))))))
theorem JJ{c:Nat}(hc:c∈sy)(q:Bool){tok:LS}(hl:tok.length<100000):TR q (.str [97]) tok c q (.str [97]) (tok++[c]):=by
 intro k b p
 have hm:rt .Add (.str tok) (.str [c])=some (.str (tok++[c])):=jb (qY (b:=100000) (by rw [ai];exact hl) (by decide))
 refine jT (s:=eM.getD 1 bO) (r:=eM.drop 2) (σ1:=sZ q [c]) (R1:=LX (.str [97]) tok b p) ?_ (jT (s:=eM.getD 2 bO) (r:=eM.drop 3) (σ1:=sZ q [c]) (R1:=LX (.str [97]) tok b p) ∅ (cR (s:=eM.getD 3 bO) (gD (R1:=LX (.str [97]) tok b p) ∅ (cR (gD (R1:=LX (.str [97]) tok b p) ∅ (cR (gD (R1:=LX (.str [97]) tok b p) ∅ (cR (gD (R1:=LX (.str [97]) tok b p) ∅ (cR (r4 (R1:=LX (.str [97]) tok b p) ∅ (cR
  (gD (R1:=LX (.str [97]) tok b p) ∅ (cR (gD (R1:=LX (.str [97]) tok b p) ?_ (cR (gD (R1:=LX (.str [97]) tok b p) ?_ (cR (gD (R1:=LX (.str [97]) tok b p) ∅ (cR (gD (R1:=LX (.str [97]) tok b p) ?_ (cR (gD (R1:=LX (.str [97]) tok b p) ?_ (cR (r4 (R1:=LX (.str [97]) tok b p) ?_ (cR
   (Dz (k:=1) (C:=872) (fs:=FL true (.str [97]) tok) (fs':=FL true (.str [97]) tok) (x:=.str tok) (y:=.str [c]) (R1:=LX (.str [97]) tok b p) (R2:=LX (.str [97]) tok b p) ∅ rfl ∅ ∅ ∅ rfl (dk (m:=20) (bv rfl) (bv rfl)) hm)))))))))))))))))))))))))))
 all_goals (simp only [sy,aw,bJ,or_false]at hc;rcases hc with rfl | rfl | rfl | rfl | rfl | rfl | rfl | rfl | rfl | rfl<;>kernel_rfl)
theorem wv{d c:Nat}(hc:(d=39/\c∈mi)\/(d=34/\c=39))(q:Bool){tok:LS}(hl:tok.length<100000):TR q (.str [d]) tok c true (.str [d]) (tok++[c]):=by
 intro k b p
 have hm:rt .Add (.str tok) (.str [c])=some (.str (tok++[c])):=jb (qY (b:=100000) (by rw [ai];exact hl) (by decide))
 refine jT (s:=eM.getD 1 bO) (r:=eM.drop 2) (σ1:=sZ q [c]) (R1:=LX (.str [d]) tok b p) ?_ (jT (s:=eM.getD 2 bO) (r:=eM.drop 3) (σ1:=sZ q [c]) (R1:=LX (.str [d]) tok b p) ∅ (cR (s:=eM.getD 3 bO) (gD (R1:=LX (.str [d]) tok b p) ∅ (cR (gD (R1:=LX (.str [d]) tok b p) ?_ (cR (r4 (R1:=LX (.str [d]) tok b p) ?_ (jT (σ1:=sZ true [c]) (R1:=LX (.str [d]) tok b p) ∅ (jT (σ1:=sZ true [c]) (R1:=LX (.str [d]) tok b p) ∅ (cR
  (gD (R1:=LX (.str [d]) tok b p) ?_ (cR (gD (R1:=LX (.str [d]) tok b p) ?_ (cR
   (Dz (k:=1) (C:=872) (fs:=FL true (.str [d]) tok) (fs':=FL true (.str [d]) tok) (x:=.str tok) (y:=.str [c]) (R1:=LX (.str [d]) tok b p) (R2:=LX (.str [d]) tok b p) ∅ rfl ∅ ∅ ∅ rfl (dk (m:=20) (bv rfl) (bv rfl)) hm)))))))))))))))
 all_goals
  rcases hc with ⟨rfl,hc⟩ | ⟨rfl,rfl⟩
  ·simp only [mi,aw,bJ,or_false]at hc
   rcases hc with rfl | rfl | rfl | rfl | rfl | rfl | rfl | rfl | rfl | rfl | rfl | rfl | rfl | rfl<;>kernel_rfl
  ·kernel_rfl
end Mine.W
end
section
namespace Mine.W
theorem IF{k p:Nat}{q:Bool}{tok b:LS}(h:(tok.isEmpty && !q)=false):exs (fG (k+2)) 395 FM (eM.drop 1) (sZ q [32]) (LX (.str [97]) tok b p)=some (.brk,sZ q [32],LX (.str [32]) tok b p):=by
 cases tok with
 | nil=>cases q with
  | false=>cases h
  | true=>kernel_rfl
 | cons c t=>kernel_rfl
theorem N0{k p:Nat}{q:Bool}{tok b:LS}:exs (fG (k+2)) 395 FM (eM.drop 1) (sZ q []) (LX (.str [97]) tok b p)=some (.brk,sZ q [],LX .none tok b p):=∅
theorem Le{k p:Nat}{q:Bool}{tok b:LS}:exs (fG (k+2)) 395 FM (eM.drop 1) (sZ q []) (LX .none tok b p)=some (.brk,sZ q [],LX .none [] b p):=∅
section
variable {k m p:Nat} {q:Bool} {o:Option PV} {tok b t:LS}
theorem gg{p c:Nat}{b r:LS}(h:b.drop p=c::r):b.drop (p+1)=r:=by
 rw [<-Ly,h];rfl
theorem KG:∀(s:LS) (q:Bool) (o:Option PV) (tok:LS) (m p:Nat),(∀c∈s,c∈sy)->tok.length+s.length<100000->b.drop p=s++t->∃o',jP (fG (k+2)) (m+s.length) (AE q o) (LX (.str [97]) tok b p)=jP (fG (k+2)) m (AE q o') (LX (.str [97]) (tok++s) b (p+s.length))/\b.drop (p+s.length)=t:=by
 intro s
 induction s with
 | nil=>
  intro q o tok m p _ _ h
  exact⟨o,by rw [aP];rfl,h⟩
 | cons c s ih=>
  intro q o tok m p hs hl h
  rw [aq]at hl
  obtain⟨o',h1,h2⟩:=ih q (some (.str [c])) (tok++[c]) m (p+1) (λd hd=>hs d (am _ hd)) (by rw [ai];show tok.length+1+_<_;exact Ph hl) (gg h)
  refine⟨o',?_,by rw [aq,gR s.length 1,<-g0];exact h2⟩
  rw [aq,<-g0,iR (c:=c) (r:=s++t) h (JJ (hs c aj) q (by exact MZ hl) k b (p+1)),h1,aQ,g0 p 1,gR 1]
  rfl
noncomputable abbrev ri:LS:=[39,34,39,34,39]
theorem Br(c:Nat)(s:LS):dO 39 ri (c::s)=(if c=39 then ri else [c]:LS)++dO 39 ri s:=rfl
theorem E0:∀(s:LS) (q:Bool) (o:Option PV) (tok:LS) (m p:Nat),(∀c∈s,c=39\/c∈mi)->tok.length+s.length<100000->b.drop p=dO 39 ri s++t ->
  ∃q' o',jP (fG (k+2)) (m+(dO 39 ri s).length) (AE q o) (LX (.str [39]) tok b p)=jP (fG (k+2)) m (AE q' o') (LX (.str [39]) (tok++s) b (p+(dO 39 ri s).length))/\b.drop (p+(dO 39 ri s).length)=t:=by
 intro s
 induction s with
 | nil=>
  intro q o tok m p _ _ h
  exact⟨q,o,by rw [aP];rfl,h⟩
 | cons c s ih=>
  intro q o tok m p hs hl h
  rw [aq]at hl
  have hl':(tok++[c]).length+s.length<100000:=by rw [ai];show tok.length+1+_<_;exact Ph hl
  have hs':∀d∈s,d=39\/d∈mi:=λd hd=>hs d (am _ hd)
  rw [Br]at h ⊢
  by_cases e:c=39
  ·subst e
   rw [if_pos rfl]at h ⊢
   have h1:=gg h
   have h2:=gg h1
   have h3:=gg h2
   have h4:=gg h3
   have h5:=gg h4
   obtain⟨q',o',k1,k2⟩:=ih true (some (.str [39])) (tok++[39]) m (p+1+1+1+1+1) hs' hl' h5
   have en:p+(ri++dO 39 ri s).length=p+1+1+1+1+1+(dO 39 ri s).length:=by rw [ai];show _+(5+_)=_;exact TH
   refine⟨q',o',?_,by rw [en];exact k2⟩
   rw [en,show m+(ri++dO 39 ri s).length=m+(dO 39 ri s).length+1+1+1+1+1 by rw [ai];show _+(5+_)=_;exact TG]
   rw [iR h (Gh q tok k b _),iR h1 (Os true tok k b _),iR h2 (wv (an ⟨rfl,rfl⟩) true (by exact MZ hl) k b _),iR h3 (MI true (tok++[39]) k b _),iR h4 (Oq true (tok++[39]) k b _),k1,aQ]
   rfl
  ·rw [if_neg e]at h ⊢
   have hc:c∈mi:=(hs c aj).resolve_left e
   obtain⟨q',o',k1,k2⟩:=ih true (some (.str [c])) (tok++[c]) m (p+1) hs' hl' (gg h)
   have en:p+(([c]:LS)++dO 39 ri s).length=p+1+(dO 39 ri s).length:=by rw [ai];show _+(1+_)=_;exact TF
   refine⟨q',o',?_,by rw [en];exact k2⟩
   rw [en,show m+(([c]:LS)++dO 39 ri s).length=m+(dO 39 ri s).length+1 by rw [ai];show _+(1+_)=_;exact TD]
   rw [iR h (wv (av ⟨rfl,hc⟩) q (by exact MZ hl) k b _),k1,aQ]
   rfl
end
end Mine.W
end
section
namespace Mine.W
section
variable {k p:Nat} {b t w:LS}
noncomputable def iT(w:LS):Prop:=∀c∈w,c=39\/c∈mi
theorem JY{c:Nat}(h:c=39\/c∈mi)(hu:cW c=false):c∈sy:=by
 simp only [mi,sy,aw,bJ,or_false]at h ⊢
 rcases h with rfl | rfl | rfl | rfl | rfl | rfl | rfl | rfl | rfl | rfl | rfl | rfl | rfl | rfl | rfl<;>first | (exact absurd hu (by decide)) | decide
theorem Dm(hw:iT w)(hl:w.length<=10000)(h:b.drop p=c7 w++t):∃q o m,jP (fG (k+2)) 100000 (AE false none) (LX (.str [32]) [] b p)=jP (fG (k+2)) (m+1) (AE q o) (LX (.str [97]) w b (p+(c7 w).length))/\b.drop (p+(c7 w).length)=t/\(w.isEmpty && !q)=false:=by
 have hq:(∀c∈w,c∈sy)/\w≠[]/\c7 w=w\/c7 w=39::(dO 39 ri w++[39]):=by
  unfold c7
  cases w with
  | nil=>exact an rfl
  | cons c s=>
   cases e :!(c::s).any cW with
   | false=>exact an rfl
   | true=>
    refine av ⟨λd hd=>JY (hw d hd) ?_,gy c s,rfl⟩
    cases e':cW d with
    | false=>rfl
    | true=>rw [List.any_eq_true.mpr ⟨d,hd,e'⟩]at e;cases e
 rcases hq with ⟨h1,h2,h3⟩ | h3
 ·rw [h3]at h ⊢
  cases w with
  | nil=>exact absurd rfl h2
  | cons c s=>
   have hl':s.length<10000:=hl
   obtain⟨o',k1,k2⟩:=KG (k:=k) s false (some (.str [c])) [c] (99999-s.length) (p+1) (λd hd=>h1 d (am _ hd)) (by show 1+_<_;exact TC hl') (gg h)
   have en:p+(c::s).length=p+1+s.length:=by rw [aq];exact o0
   refine⟨false,o',99998-s.length,?_,by rw [en];exact k2,rfl⟩
   rw [en,show(100000:Nat)=99999-s.length+s.length+1 by exact TB hl',iR (c:=c) (r:=s++t) h (Gg (h1 c aj) k b (p+1)),k1,show 99998-s.length+1=99999-s.length by exact TA hl']
   rfl
 ·rw [h3]at h ⊢
  have h4:b.drop p=39::(dO 39 ri w++(39::t)):=by rw [h,eP,aQ];rfl
  have hr:=rM w
  obtain⟨q',o',k1,k2⟩:=E0 (k:=k) w false (some (.str [39])) [] (99999-(dO 39 ri w).length) (p+1) hw (by show 0+_<_;exact Tz hl) (gg h4)
  have en:p+(39::(dO 39 ri w++[39])).length=p+1+(dO 39 ri w).length+1:=by rw [aq,ai];show _+(_+1+1)=_;exact Tx
  refine⟨true,some (.str [39]),99997-(dO 39 ri w).length,?_,by rw [en];exact gg k2,by cases w<;>rfl⟩
  have hr2:(dO 39 ri w).length<=50000:=by have:(dO 39 ri w).length<=5*w.length:=hr;exact Tw hl this
  rw [en,show(100000:Nat)=99999-(dO 39 ri w).length+(dO 39 ri w).length+1 by exact Tv hr2,iR h4 (JK k b (p+1)),k1,show 99999-(dO 39 ri w).length=99997-(dO 39 ri w).length+1+1 by exact Tu hr2,iR k2 (Gh q' _ k b _)]
  rfl
noncomputable abbrev LG(q:Bool)(c:LS)(v:PV):bq:=[("self",.obj 1),("quoted",.bool q),("escapedstate",.str [32]),("nextchar",.str c),("result",v)]
theorem Dt{q:Bool}{x tok:LS}{st st':PV}{p':Nat}(h:jP (fG (k+2)) 100000 (AE false none) (LX st [] b p)=some (.next,sZ q x,LX st' tok b p'))(hv:(tok.isEmpty && !q)=false):fG (k+3) 840 [.obj 1] [] (LX st [] b p)=some (.str tok,LX st' [] b p'):=by
 rw [qE (by rfl)]
 refine cH (fi:=⟨br (bK pw 46 6),[]⟩) (σ:=[("self",.obj 1)]) ∅ ∅ ?_
 refine aR [("self",.obj 1),("quoted",.bool false)] (R1:=LX st [] b p) ∅ ?_
 refine aR [("self",.obj 1),("quoted",.bool false),("escapedstate",.str [32])] (R1:=LX st [] b p) ∅ ?_
 refine aR (sZ q x) (R1:=LX st' tok b p') ((show _=jP (fG (k+2)) 100000 (AE false none) (LX st [] b p) by kernel_rfl).trans h) ?_
 refine aR (LG q x (.str tok)) (R1:=LX st' tok b p') ∅ ?_
 refine aR (LG q x (.str tok)) (R1:=LX st' [] b p') ∅ ?_
 refine aR (LG q x (.str tok)) (R1:=LX st' [] b p') ?_ ?_
 ·cases tok with
  | nil=>cases q with
   | false=>cases hv
   | true=>kernel_rfl
  | cons c t=>cases q<;>kernel_rfl
 refine aR (LG q x (.str tok)) (R1:=LX st' [] b p') ∅ ?_
 exact cP (.str tok) (R1:=LX st' [] b p') ∅ ⟨rfl,rfl⟩
theorem z0:fG (k+3) 840 [.obj 1] [] (LX .none [] b b.length)=some (.none,LX .none [] b b.length):=by
 have h:jP (fG (k+2)) 100000 (AE false none) (LX .none [] b b.length)=some (.next,sZ false [],LX .none [] b b.length):=uM qW Le
 rw [qE (by rfl)]
 refine cH (fi:=⟨br (bK pw 46 6),[]⟩) (σ:=[("self",.obj 1)]) ∅ ∅ ?_
 refine aR [("self",.obj 1),("quoted",.bool false)] (R1:=LX .none [] b b.length) ∅ ?_
 refine aR [("self",.obj 1),("quoted",.bool false),("escapedstate",.str [32])] (R1:=LX .none [] b b.length) ∅ ?_
 refine aR (sZ false []) (R1:=LX .none [] b b.length) ((show _=jP (fG (k+2)) 100000 (AE false none) (LX .none [] b b.length) by kernel_rfl).trans h) ?_
 refine aR (LG false [] (.str [])) (R1:=LX .none [] b b.length) ∅ ?_
 refine aR (LG false [] (.str [])) (R1:=LX .none [] b b.length) ∅ ?_
 refine aR (LG false [] (.none)) (R1:=LX .none [] b b.length) ∅ ?_
 refine aR (LG false [] (.none)) (R1:=LX .none [] b b.length) ∅ ?_
 exact cP .none (R1:=LX .none [] b b.length) ∅ ⟨rfl,rfl⟩
theorem LW{v:PV}{st st':PV}{p':Nat}(h:fG (k+3) 840 [.obj 1] [] (LX st [] b p)=some (v,LX st' [] b p'))(hv:v = .none \/ ∃s,v = .str s):fG (k+4) 833 [.obj 1] [] (LX st [] b p)=some (v,LX st' [] b p'):=by
 rw [qE (by rfl)]
 refine cH (fi:=⟨br (bK pw 46 5),[]⟩) (σ:=[("self",.obj 1)]) ∅ ∅ ?_
 refine aR [("self",.obj 1)] (R1:=LX st [] b p) ∅ ?_
 refine b8 v [("self",.obj 1),("raw",v)] (R1:=LX st' [] b p') (ei (x:=.obj 1) (as:=[]) (R1:=LX st [] b p) (R2:=LX st [] b p) ∅ ∅ ∅ ((show _=fG (k+3) 840 [.obj 1] [] (LX st [] b p) by kernel_rfl).trans h)) ∅ ∅ ∅ ?_
 refine aR [("self",.obj 1),("raw",v)] (R1:=LX st' [] b p') ∅ ?_
 rcases hv with rfl | ⟨s,rfl⟩
 ·exact iO (z:=(.ret .none,[("self",.obj 1),("raw",.none)],LX st' [] b p')) ∅ ⟨rfl,rfl⟩
 ·refine aR [("self",.obj 1),("raw",.str s)] (R1:=LX st' [] b p') ∅ ?_
  refine aR [("self",.obj 1),("raw",.str s)] (R1:=LX st' [] b p') ∅ ?_
  exact cP (.str s) (R1:=LX st' [] b p') ∅ ⟨rfl,rfl⟩
theorem C4{sp:Spec}{j:Nat}{R R1:List aO}{v e:PV}{gs fs:List (Str × PV)}{c:Bool}(h1:R[j]? = some (.inst 872 gs))(h2:(gs.lookup ("get_token":Str)).isNone=true)(h3:sp 833 [.obj j] [] R=some (v,R1))(h4:R1[j]? = some (.inst 872 fs))(h5:fs.lookup ("eof":Str)=some e)(h6:td R1 .Eq v e=some c):lN sp j R=some (bif c then none else some v,R1):=tJ h1 (fU h2 (bl h3 (tJ h4 (fU rfl (dc h5 (dc (k:=λb=>some (bif b then none else some v,R1)) h6 rfl))))))
theorem wG{s:LS}{st st':PV}{p':Nat}(h:fG (k+3) 840 [.obj 1] [] (LX st [] b p)=some (.str s,LX st' [] b p')):lN (fG (k+4)) 1 (LX st [] b p)=some (some (.str s),LX st' [] b p'):=
 C4 (e:=.none) (c:=false) (gs:=FL true st []) (fs:=FL true st' []) rfl ∅ (LW h (an ⟨s,rfl⟩)) rfl ∅ ∅
theorem Ex:lN (fG (k+4)) 1 (LX .none [] b b.length)=some (none,LX .none [] b b.length):=
 C4 (e:=.none) (c:=true) (gs:=FL true .none []) (fs:=FL true .none []) rfl ∅ (LW (k:=k) (b:=b) z0 (av rfl)) rfl ∅ ∅
theorem sH:∀(ws:List LS) (p m:Nat),(∀w∈ws,iT w/\w.length<=10000)->ws≠[]->b.drop p=ce [32] (ws.map c7)->p<=b.length->ws.length<m->kt (λR=>lN (fG (k+4)) 1 R) m (LX (.str [32]) [] b p)=some (ws.map .str,LX .none [] b b.length)
 | [],_,_,_,h,_,_,_=>absurd rfl h
 | [w],p,m+2,hw,_,h,hp,_=>by
  obtain⟨h1,h2⟩:=hw w aj
  obtain⟨q,o,j,k1,k2,k3⟩:=Dm (k:=k) (t:=[]) h1 h2 (by rw [aP];exact h)
  have hpe:p+(c7 w).length=b.length:=by
   have:=congrArg bX h
   rw [cT]at this
   have:b.length-p=(c7 w).length:=this
   exact Tt hp this
  rw [hpe]at k1
  have k4:=Dt (k:=k) (k1.trans (uM qW N0)) k3
  exact Ad (wG k4) (Fd Ex)
 | w::w'::ws,p,m+1,hw,_,h,hp,hm=>by
  obtain⟨h1,h2⟩:=hw w aj
  have hj:ce [32] ((w::w'::ws).map c7)=c7 w++(32::ce [32] ((w'::ws).map c7)):=by
   show c7 w++[32]++_=_
   rw [aQ];rfl
  obtain⟨q,o,j,k1,k2,k3⟩:=Dm (k:=k) h1 h2 (h.trans hj)
  have k4:=Dt (k:=k) (k1.trans (uM (zL k2) (IF k3))) k3
  have k5:=gg k2
  have hp':p+(c7 w).length+1<=b.length:=by
   have:=congrArg bX k2
   rw [cT,aq]at this
   exact Ts this
  exact Ad (wG k4) (sH (w'::ws) _ m (λx hx=>hw x (am _ hx)) (λq=>nomatch q) k5 hp' (by rw [aq]at hm;exact Pg hm))
theorem Dv{ws:List LS}(hw:∀w∈ws,iT w/\w.length<=10000)(hn:ws≠[])(hl:ws.length<1000):dP (k+5) 884 [.str (ce [32] (ws.map c7)),.bool true] (.list (ws.map .str)):=by
 intro R hR
 have hL:=λs=>Hi (k+1) s
 refine dY (R1:=[.tab,.inst 872 (FL true .none []),.inst 737 (QP (ce [32] (ws.map c7)) (ce [32] (ws.map c7)).length),.deq,.deq]) ?_ rfl (bG ws) rfl hR
 generalize hb:ce [32] (ws.map c7)=b
 refine cH (fi:=⟨br (aK pw 47),[.bool false,.bool true]⟩) (σ:=[("s",.str b),("comments",.bool true),("posix",.bool true)]) ∅ ∅ ?_
 refine aR [("s",.str b),("comments",.bool true),("posix",.bool true)] (R1:=[.tab]) ∅ ?_
 refine aR [("s",.str b),("comments",.bool true),("posix",.bool true),("lex",.obj 1)] (R1:=[.tab,.inst 872 (FL false (.str [32]) []),.inst 737 (QP b 0),.deq,.deq]) ∅ ?_
 refine aR [("s",.str b),("comments",.bool true),("posix",.bool true),("lex",.obj 1)] (R1:=LX (.str [32]) [] b 0) ∅ ?_
 refine aR [("s",.str b),("comments",.bool true),("posix",.bool true),("lex",.obj 1)] (R1:=LX (.str [32]) [] b 0) ∅ ?_
 refine cP (.list (ws.map .str)) (R1:=LX .none [] b b.length) ?_ ⟨rfl,rfl⟩
 refine cU (b:=bnd (kt (λR=>lN (fG (k+4)) 1 R) 100000 (LX (.str [32]) [] b 0)) λys R2=>fO (mkL ys) R2) ∅ ?_
 exact bl (sH ws 0 100000 hw hn hb.symm (bo _) (by exact Tr hl)) (gT (uD (by rw [ae];exact bg (bI hl (by decide)))))
end
end Mine.W
end
section
namespace Mine.W
theorem mz{α:Type}(l:List α)(i:Nat):iB l (i:Int)=l[i]? := by
 unfold iB
 rw [if_pos (gS i),fy]
theorem um(ss:List LS):(fZ ss).length=ss.length:=AY _
theorem xe{R:List aO}{ss:List LS}(h:ss.length<64):Ok R (.builtin "sorted") [.list (ss.map .str)]=some (.list ((fZ ss).map .str)):=by
 refine cU (b:=optO (ft (ss.map .str)) none λss=>grd (decide (ss.length<64)) (some (.list ((fZ ss).map .str)))) ∅ (dc (gG ss) (fU (decide_eq_true h) rfl))
noncomputable def Aq(ss:List LS)(i:Nat):LS:=(fZ ss).getD i []
theorem yw{ss:List LS}{i:Nat}(h:i<ss.length):((fZ ss).map PV.str)[i]? = some (.str (Aq ss i)):=by
 have h':i<(fZ ss).length:=by rw [um];exact h
 rw [jE,bR h']
 unfold Aq
 rw [dg,bR h']
 rfl
theorem NQ{k:Nat}{ss:List LS}(h0:ss≠[])(hl:ss.length<64):dP (k+1) 71 [.list (ss.map .str)] (.str (Aq ss (ss.length / 2))):=by
 intro R hR
 have hpos:0<ss.length:=b5.mpr h0
 refine dY (R1:=[.tab]) ?_ (by show(bz (ss.map .str)&&true)=true;rw [bG];rfl) rfl rfl hR
 refine cH (fi:=⟨br (aK pw 6),[]⟩) (σ:=[("data",.list (ss.map .str))]) ∅ ∅ ?_
 refine b8 (.list ((fZ ss).map .str)) [("data",.list ((fZ ss).map .str))] (R1:=[.tab]) (sG (as:=[.list (ss.map .str)]) ∅ ∅ ∅ (xe hl)) ∅ ∅ ∅ ?_
 refine b8 (.int (ss.length:Int)) [("data",.list ((fZ ss).map .str)),("n",.int (ss.length:Int))] (R1:=[.tab]) (B8 (b:=.int ((((fZ ss).map PV.str).length:Nat):Int)) ∅ (by rw [ae,um])) ∅ ∅ ∅ ?_
 refine cQ (R1:=[.tab]) (m7 (b:=(ss.length:Int)==0) ∅ (beq_eq_false_iff_ne.mpr (by exact Pf hpos))) (aX ?_)
 refine cP (.str (Aq ss (ss.length / 2))) (R1:=[.tab]) (mn (x:=.list ((fZ ss).map .str)) (R1:=[.tab]) ∅ ∅ ?_) ⟨rfl,rfl⟩
 refine cU (b:=(iB ((fZ ss).map PV.str) (kE (ss.length:Int) (2:Nat))).map λv=>(v,[.tab])) ∅ ?_
 rw [j9,mz,yw (oI hpos (by decide))];rfl
theorem LV{k:Nat}{ss:List LS}(h0:ss≠[])(hl:ss.length<64):dP (k+1) 64 [.list (ss.map .str)] (.str (Aq ss ((ss.length-1) / 2))):=by
 intro R hR
 have hpos:0<ss.length:=b5.mpr h0
 refine dY (R1:=[.tab]) ?_ (by show(bz (ss.map .str)&&true)=true;rw [bG];rfl) rfl rfl hR
 refine cH (fi:=⟨br (aK pw 5),[]⟩) (σ:=[("data",.list (ss.map .str))]) ∅ ∅ ?_
 refine b8 (.list ((fZ ss).map .str)) [("data",.list ((fZ ss).map .str))] (R1:=[.tab]) (sG (as:=[.list (ss.map .str)]) ∅ ∅ ∅ (xe hl)) ∅ ∅ ∅ ?_
 refine b8 (.int (ss.length:Int)) [("data",.list ((fZ ss).map .str)),("n",.int (ss.length:Int))] (R1:=[.tab]) (B8 (b:=.int ((((fZ ss).map PV.str).length:Nat):Int)) ∅ (by rw [ae,um])) ∅ ∅ ∅ ?_
 refine cQ (R1:=[.tab]) (m7 (b:=(ss.length:Int)==0) ∅ (beq_eq_false_iff_ne.mpr (by exact Pf hpos))) (aX ?_)
 by_cases ho:ss.length % 2=1
 ·refine ff (R1:=[.tab]) (m7 (b:=pX (ss.length:Int) (2:Nat)==1) ∅ (by rw [oA,ho];rfl)) ?_
  refine cP (.str (Aq ss ((ss.length-1) / 2))) (R1:=[.tab]) (mn (x:=.list ((fZ ss).map .str)) (R1:=[.tab]) ∅ ∅ ?_) ⟨rfl,rfl⟩
  refine cU (b:=(iB ((fZ ss).map PV.str) (kE (ss.length:Int) (2:Nat))).map λv=>(v,[.tab])) ∅ ?_
  rw [j9,mz,show ss.length / 2=(ss.length-1) / 2 by exact Tq ho,yw (by exact Tp ho)];rfl
 ·refine cQ (R1:=[.tab]) (m7 (b:=pX (ss.length:Int) (2:Nat)==1) ∅ (by rw [oA,beq_eq_false_iff_ne];exact To ho)) ?_
  refine cP (.str (Aq ss ((ss.length-1) / 2))) (R1:=[.tab]) (mn (x:=.list ((fZ ss).map .str)) (R1:=[.tab]) ∅ ∅ ?_) ⟨rfl,rfl⟩
  refine cU (b:=(iB ((fZ ss).map PV.str) (kE (ss.length:Int) (2:Nat)-1)).map λv=>(v,[.tab])) ∅ ?_
  rw [j9,show((ss.length / 2:Nat):Int)-1=(((ss.length-1) / 2:Nat):Int) by exact Tn hpos ho,mz,yw (by exact Pe hpos)];rfl
theorem tH(n:Nat)(l:List LS):uA (n+1) (tupP l)=true:=by
 show ol n (l.map .str)=true
 induction l with
 | nil=>cases n<;>rfl
 | cons x l ih=>show(uA n (.str x)&&ol n (l.map .str))=true;rw [ih];cases n<;>rfl
theorem sd(a b:List LS):mG (a.map .str) (b.map .str)=(a==b):=by
 induction a generalizing b with
 | nil=>cases b<;>rfl
 | cons x a ih=>cases b with
  | nil=>rfl
  | cons y b=>show(yv (.str x) (.str y)&&mG (a.map .str) (b.map .str))=_;rw [ih];rfl
theorem K3(a b:List LS):AF (tupP a) (tupP b)=some (a==b):=by
 unfold AF
 rw [tH,tH]
 show some (mG (a.map .str) (b.map .str))=_
 rw [sd]
theorem m9(r:List LS)(k:Nat):dG (r.map PV.str) none (some (k:Int))=(r.take k).map .str:=by
 show(r.map PV.str).take (r7 (k:Int) _)=_
 unfold r7
 rw [if_neg (by exact MY),fy,qv]
noncomputable def rk(rows:List (List LS))(far:List LS)(k:Nat):Nat:=(rows.filter λr=>r.take k==far.take k).length
noncomputable def gf(rows:List (List LS))(far:List LS)(least:Nat):Nat->Nat
 | 0=>0
 | k+1=>if rk rows far (k+1)<least then gf rows far least k else k+1
noncomputable def d4(rows:List (List LS))(far:List LS)(least:Nat):List LS:=far.take (gf rows far least far.length)
noncomputable def Oz(p:List LS->Bool):PV->Option PV
 | .tup y=>(ft y).bind λr=>if p r then some (.tup y)else none
 | _=>none
theorem uu(p:List LS->Bool)(r:List LS):Oz p (tupP r)=if p r then some (tupP r)else none:=by
 show(ft (r.map .str)).bind _=_
 rw [gG];rfl
theorem v6(p:List LS->Bool):∀l:List (List LS),(l.map tupP).filterMap (Oz p)=(l.filter p).map tupP:=by
 intro l
 induction l with
 | nil=>
  exact rfl
 | cons r l ih=>
  rw [aN,gr,d5,uu,ih]
  cases p r<;>rfl
noncomputable abbrev Oa(rows:List (List LS))(far:List LS)(least k:Nat):bq:=[("rows",.list (rows.map tupP)),("far",tupP far),("least",.int (least:Int)),("k",.int (k:Int))]
theorem Dx{k:Nat}{rows:List (List LS)}{far:List LS}{least:Nat}(hl:least<=rows.length)(hf:far.length<10000)(hr:rows.length<10000):dP (k+1) 942 [.list (rows.map tupP),tupP far,.int (least:Int)] (tupP (d4 rows far least)):=by
 intro R hR
 refine dY (R1:=[.tab]) ?_ (by show(bz (rows.map tupP)&&(bz (far.map .str)&&true))=true;rw [bN (f:=tupP) λr ζ=>bG r,bG];rfl) (bG _) rfl hR
 refine cH (fi:=⟨br (aK pw 58),[]⟩) (σ:=[("rows",.list (rows.map tupP)),("far",tupP far),("least",.int (least:Int))]) ∅ ∅ ?_
 refine b8 (.int (far.length:Int)) (Oa rows far least far.length) (R1:=[.tab]) (B8 (b:=.int (((far.map PV.str).length:Nat):Int)) ∅ (by rw [ae])) ∅ ∅ ∅ ?_
 have test:∀j,tv (fG k) 397 ⟨(br (aK pw 58)).scope.names,1⟩ (match (br (aK pw 58)).body.getD 1 bO with | .While t _ _ _=>t | _=>bO) (Oa rows far least j) [.tab]=some (decide (rk rows far j<least),[.tab]):=by
  intro j
  refine i9 (x:=.int (rk rows far j:Int)) (y:=.int (least:Int)) (R1:=[.tab]) ∅ (sG (g:=.builtin "len") (as:=[.list ((rows.filter λr=>r.take j==far.take j).map tupP)]) ∅ ∅ (fh (gb ?_ ?_)) ?_) ∅ ?_
  ·rw [<-v6]
   refine vo (R1:=[.tab]) _ ∅ (ij ∅ ∅) λx hx=>?_
   obtain⟨r,hr,rfl⟩:=aH.mp hx
   refine⟨[("far",tupP far),("k",.int (j:Int)),("row",tupP r)],r.take j==far.take j,∅,?_,λe=>⟨tupP r,∅,?_⟩,λe=>?_⟩
   ·refine m5 (i9 (x:=tupP (r.take j)) (y:=tupP (far.take j)) (R1:=[.tab]) ∅ (B8 (b:=.tup (dG (r.map PV.str) none (some (j:Int)))) ∅ (by rw [m9])) (B8 (b:=.tup (dG (far.map PV.str) none (some (j:Int)))) ∅ (by rw [m9])) (K3 _ _))
   ·rw [uu,if_pos e]
   ·rw [uu,if_neg (by rw [e];exact bc)]
  ·rw [ae];exact ah (g8 _ _) (bg (bI hr (by decide)))
  ·refine cU (b:=some (.int (((rows.filter λr=>r.take j==far.take j).map tupP).length:Int))) ∅ ?_
   rw [ae];rfl
  ·refine cU (b:=some (decide ((rk rows far j:Int)<(least:Int)))) ∅ ?_
   congr 1
   rw [decide_eq_decide];exact Tl
 have loop:∀j m,j<m->A6 (λσ R=>tv (fG k) 397 ⟨(br (aK pw 58)).scope.names,1⟩ (match (br (aK pw 58)).body.getD 1 bO with | .While t _ _ _=>t | _=>bO) σ R) (λσ R=>exs (fG k) 397 ⟨(br (aK pw 58)).scope.names,1⟩ (match (br (aK pw 58)).body.getD 1 bO with | .While _ b _ _=>b | _=>[]) σ R) m (Oa rows far least j) [.tab]=some (.next,Oa rows far least (gf rows far least j),[.tab]):=by
  intro j
  induction j with
  | zero=>
   intro m hm
   cases m with
   | zero=>exact absurd hm (eY 0)
   | succ m=>
    refine CS ((test 0).trans (congrArg some (congrArg (·,[aO.tab]) (decide_eq_false ?_))))
    have:rk rows far 0=rows.length:=by
     unfold rk
     rw [iV.mpr]
     intro r _
     rw [jD,jD];rfl
    exact Tk hl this
  | succ j ih=>
   intro m hm
   cases m with
   | zero=>exact absurd hm (ji _)
   | succ m=>
    by_cases hc:rk rows far (j+1)<least
    ·rw [show gf rows far least (j+1)=gf rows far least j from if_pos hc]
     exact(A5 (y':=(Oa rows far least j,[.tab])) ((test (j+1)).trans (congrArg some (congrArg (·,[aO.tab]) (decide_eq_true hc)))) (cR (yb (x:=.int ((j+1:Nat):Int)) (y:=.int 1) (v:=.int (j:Int)) (R1:=[.tab]) ∅ ∅ (by show some (PV.int (((j+1:Nat):Int)-1))=_;rw [show((j+1:Nat):Int)-1=(j:Int) by exact Tj]) ∅))).trans (ih m (by exact Pg hm))
    ·rw [show gf rows far least (j+1)=j+1 from if_neg hc]
     exact CS ((test (j+1)).trans (congrArg some (congrArg (·,[aO.tab]) (decide_eq_false hc))))
 refine Ec (z:=(.next,Oa rows far least (gf rows far least far.length),[.tab])) (loop far.length 100000 (by exact Ti hf)) ?_
 exact cP (tupP (d4 rows far least)) (R1:=[.tab]) (B8 (b:=.tup (dG (far.map PV.str) none (some ((gf rows far least far.length:Nat):Int)))) ∅ (by rw [m9];rfl)) ⟨rfl,rfl⟩
end Mine.W
end
section
namespace Mine.W
section
variable {sp:Spec} {n k:Nat} {cx:Cx} {σ σ1:bq} {R R1 R2:List aO} {t e it l:bE} {v x y:PV} {p:dN}
theorem oZ{f:Str}{fp:dN}{kws:List cS}{l:List PV}(hg:gl cx f=true)(hk:lV (eZ f) [e] kws = .maxLen e)(hw:LP cx kws=true)(h:ev sp n cx e σ R=some (.list l,R1))(hm:maxLen R1 l=some v):ev sp (n+2) cx (.Call (.Name f fp) [e] kws p) σ R=some (v,R1):=by
 exact rn hg hk (fU hw (bl (k:=λv R1=>listP v none λl=>fO (maxLen R1 l) R1) h (gT hm)))
theorem Co{α β:Type}(g:α->β)(bt:β->β->Bool)(l:List α):iI bt (l.map g)=(iI (λa b=>bt (g a) (g b)) l).map g:=by
 cases l with
 | nil=>rfl
 | cons x l=>
  show some ((l.map g).foldl _ (g x))=some (g (l.foldl _ x))
  congr 1
  induction l generalizing x with
  | nil=>rfl
  | cons y l ih=>
   simp only [aN,kM]
   rw [<-ih,apply_ite g]
noncomputable def kH{α:Type}(l:List (List α)):Option (List α):=iI (λa b=>decide (b.length<a.length)) l
theorem wJ{α:Type}{F:List α->PV}(hF:∀x,qX R (F x)=some x.length)(l:List (List α)):maxLen R (l.map F)=(kH l).map F:=by
 unfold maxLen
 have:(l.map F).mapM (λv=>(qX R v).map λn=>(n,v))=some (l.map λx=>(x.length,F x)):=by
  induction l with
  | nil=>rfl
  | cons x l ih=>simp only [aN,gw,hF,ih,iZ];rfl
 rw [this,gj,Co (λx=>(x.length,F x)),Option.map_map]
 rfl
theorem Kn(x:List LS):qX R (tupP x)=some x.length:=by
 show some ((x.map PV.str).length)=_
 rw [ae]
theorem len_str(x:LS):qX R (.str x)=some x.length:=rfl
end
noncomputable def bw(flat:List (List LS)):List LS:=(kH (flat.map λr=>d4 flat r (flat.length / 2+1))).getD []
theorem qU{α:Type}{l:List (List α)}(h:l≠[]):kH l=some ((kH l).getD []):=by
 cases l with
 | nil=>exact absurd rfl h
 | cons x l=>rfl
noncomputable def Cu(k:Nat)(f:PV->List LS)(v:PV):Prop:=v=tupP (f v) \/ ∃l,v = .list l/\bz l=true/\dP k 947 [v] (tupP (f v))
theorem Cu.noObj{k:Nat}{f:PV->List LS}{v:PV}(h:Cu k f v):noObj v=true:=by
 rcases h with h | ⟨l,rfl,h,_⟩
 ·rw [h];exact bG _
 ·exact h
theorem Ds{k:Nat}{vs:List PV}{f:PV->List LS}(hn:vs≠[])(hl:vs.length<1000)(hv:∀v∈vs,Cu (k+1) f v/\(f v).length<10000):dP (k+2) 947 [.list vs] (tupP (bw (vs.map f))):=by
 intro R hR
 have hno:bz vs=true:=by
  have:bz (vs.map λx=>x)=true:=bN λv hx=>(hv v hx).1.noObj
  rwa [fY]at this
 refine dY (R1:=[.tab]) ?_ (by show(bz vs&&true)=true;rw [hno];rfl) (bG _) rfl hR
 refine cH (fi:=⟨br (aK pw 59),[]⟩) (σ:=[("rows",.list vs)]) ∅ ∅ ?_
 have e0:(vs.map f).map tupP=vs.map λv=>tupP (f v):=by rw [aI];rfl
 refine b8 (.list ((vs.map f).map tupP)) [("rows",.list vs),("flat",.list ((vs.map f).map tupP))] (R1:=[.tab]) (gb ?_ (by rw [ae,ae];exact bg (bI hl (by decide)))) ∅ ∅ ∅ ?_
 ·rw [e0]
  refine jx (R1:=[.tab]) _ ∅ (ij ∅ ∅) λv hx=>⟨[("row",v)],∅,?_⟩
  rcases(hv v hx).1 with h | ⟨l,rfl,h1,h2⟩
  ·obtain⟨r,hr⟩:∃r,f v=r:=⟨_,rfl⟩
   rw [hr]at h ⊢
   subst h
   exact ka (b:=true) (R1:=[.tab]) ∅ ∅
  ·exact ka (b:=false) (R1:=[.tab]) ∅ (ej (g:=947) (as:=[.list l]) (R1:=[.tab]) ∅ ∅ ∅ ∅ (h2 _ rfl))
 generalize hfl:vs.map f=flat
 have hflen:flat.length=vs.length:=by rw [<-hfl,ae]
 have hpos:0<vs.length:=b5.mpr hn
 have hfd:∀r∈flat,r.length<10000:=λr hr=>by
  rw [<-hfl]at hr
  obtain⟨v,hv',rfl⟩:=aH.mp hr
  exact(hv v hv').2
 refine cP (tupP (bw flat)) (R1:=[.tab]) (oZ (l:=(flat.map λr=>d4 flat r (flat.length / 2+1)).map tupP) ∅ ∅ ∅ (gb ?_ ?_) ?_) ⟨rfl,rfl⟩
 ·have e1:(flat.map λr=>d4 flat r (flat.length / 2+1)).map tupP=(flat.map tupP).map λx=>match x with | .tup y=>tupP (d4 flat ((ft y).getD []) (flat.length / 2+1)) | _=>.none:=by
   rw [aI,aI]
   refine bf λr ζ=>?_
   show _=tupP (d4 flat ((ft (r.map .str)).getD []) (flat.length / 2+1))
   rw [gG];rfl
  rw [e1]
  refine jx (R1:=[.tab]) _ ∅ (ij ∅ ∅) λx hx=>?_
  obtain⟨r,hr,rfl⟩:=aH.mp hx
  refine⟨[("flat",.list (flat.map tupP)),("row",tupP r)],∅,?_⟩
  show ev _ _ _ _ _ _=some (tupP (d4 flat ((ft (r.map .str)).getD []) (flat.length / 2+1)),_)
  rw [gG]
  refine ej (g:=942) (as:=[.list (flat.map tupP),tupP r,.int ((flat.length / 2+1:Nat):Int)]) (R1:=[.tab]) ∅ ∅ ∅ ?_ (Dx (by exact Th hflen hpos) (hfd r hr) (by exact Tg hl hflen) _ rfl)
  refine cU (b:=some ([.list (flat.map tupP),tupP r,.int (kE (((flat.map tupP).length:Nat):Int) (2:Nat)+1)],[.tab])) ∅ ?_
  rw [ae,j9];rfl
 ·rw [ae,ae,hflen];exact bg (bI hl (by decide))
 ·rw [wJ Kn,qU]
  ·rfl
  ·intro q
   have:=congrArg bX q
   rw [ae,cj]at this
   exact Tf hflen hpos this
end Mine.W
end
section
namespace Mine.W
section
variable {sp:Spec} {n k:Nat} {cx:Cx} {σ σ1:bq} {R R1 R2:List aO} {t e it l:bE} {v x y:PV} {p q:dN}
theorem r6{f g h:Str}{fp gp hp:dN}{a:aB}{l:List PV}(hg:gl cx f=true)(hk:lV (eZ f) [.Call (.Name g gp) [.Name h hp,e] [] q] [] = .tupMap a e)(hm:LM cx [.Call (.Name g gp) [.Name h hp,e] [] q]=true)(he:ev sp n cx e σ R=some (.list l,R1))(hs:∀x∈l,sp a [x] [] R1=some (x,R1))(hl:l.length<=SZ) :
  ev sp (n+2) cx (.Call (.Name f fp) [.Call (.Name g gp) [.Name h hp,e] [] q] [] p) σ R=some (.tup l,R1):=by
 have hm':mj (Hf sp a) l R1=some (l,R1):=(zH (g:=some) λx hx=>bl (k:=λy R'=>some (some y,R')) (hs x hx) rfl).trans (by rw [List.filterMap_some])
 exact rn hg hk (fU hm (bl (k:=λv R1=>listP v none λl=>bnd (mj (Hf sp a) l R1) λys R2=>fO (mkT ys) R2) he (bl (k:=λys R2=>fO (mkT ys) R2) hm' (gT (BA hl)))))
theorem Di{xs:List PV}(h:ev sp n cx it σ R=some (.tup xs,R1))(hk:ik cx it = .plain):itv sp (n+1) cx it σ R=some (xs,R1):=xT hk (bl (k:=λv R1=>seqP v none λl=>some (l,R1)) h rfl)
theorem Hx{xs:List PV}(h:ev sp n cx e σ R=some (.list xs,R1))(hk:ik cx it = .enum e):itv sp (n+1) cx it σ R=some (mC 0 xs,R1):=xT hk (bl (k:=λv R1=>listP v none λl=>some (mC 0 l,R1)) h rfl)
theorem BX{f:Str}{fp:dN}{xs:List PV}(h:ev sp n cx e σ R=some (.list xs,R1))(hk:ik cx (.Call (.Name f fp) [e] [] q) = .enum e):forIt sp (n+2) cx (.Call (.Name f fp) [e] [] q) σ R=some (mC 0 xs,σ,R1):=zX (Hx h hk) rfl
theorem B3{f:Str}{tt elt:bE}{gs:List fK}{sc:Scope}{b:Bool}{r:List PV}(ha:ak tt (.SetComp elt gs sc q) = .one f elt gs sc)(h:cmpv sp n cx elt gs sc σ R=some (.bool b::r,R1))(hr:r.all (VJ b)=true)(hs:qG cx σ f (.bool b)=some σ1):ex sp (n+2) cx (.Assign [tt] (.SetComp elt gs sc q) p) σ R=some (.next,σ1,R1):=by
 refine Cp ha ?_
 delta Fu
 exact bl h (fU hr (dc hs rfl))
end
noncomputable def cE(s:LS):List LS:=(aL 47 s).filter λc =>!c.isEmpty && !(c==[46])
noncomputable def gZ:List LS->List LS->List LS
 | x::a,y::b=>if x=y then x::gZ a b else []
 | _,_=>[]
noncomputable def vY(l:List (List LS)):List LS:=(iI (λa b=>decide (a<b)) l).getD []
noncomputable def zF(l:List (List LS)):List LS:=(iI (λa b=>decide (b<a)) l).getD []
noncomputable def tR(ss:List LS):LS:=aG (gZ (vY (ss.map cE)) (zF (ss.map cE)))
theorem sL(l:List (List LS)):gc (l.map λr=>.list (r.map .str))=some l:=by
 unfold gc
 induction l with
 | nil=>rfl
 | cons x l ih=>simp only [aN,gw,gG,ih];rfl
noncomputable abbrev jc(r:List LS):PV:=.list (r.map .str)
theorem N2{R:List aO}{l:List (List LS)}(h:l≠[]):Ok R (.builtin "min") [.list (l.map jc)]=some (jc (vY l)):=by
 refine cU (b:=optO (gc (l.map jc)) none λss=>optO (iI (λa b=>decide (a<b)) ss) none λs=>some (.list (s.map .str))) ∅ (dc (sL l) ?_)
 cases l with
 | nil=>exact absurd rfl h
 | cons x l=>rfl
theorem N3{R:List aO}{l:List (List LS)}(h:l≠[]):Ok R (.builtin "max") [.list (l.map jc)]=some (jc (zF l)):=by
 refine cU (b:=optO (gc (l.map jc)) none λss=>optO (iI (λa b=>decide (b<a)) ss) none λs=>some (.list (s.map .str))) ∅ (dc (sL l) ?_)
 cases l with
 | nil=>exact absurd rfl h
 | cons x l=>rfl
noncomputable def MN(p:LS->Bool):PV->Option PV
 | .str c=>if p c then some (.str c)else none
 | _=>none
theorem ut(p:LS->Bool)(c:LS):MN p (.str c)=if p c then some (.str c)else none:=rfl
theorem pL(p:LS->Bool):∀l:List LS,(l.map PV.str).filterMap (MN p)=(l.filter p).map .str:=by
 intro l
 induction l with
 | nil=>
  exact rfl
 | cons r l ih=>
  rw [aN,gr,d5,ut,ih]
  cases p r<;>rfl
noncomputable abbrev Jp(ss:List LS)(s1 s2 com:List LS)(tl:bq):bq:=("paths",.tup (ss.map .str))::("sep",.str [47])::("curdir",.str [46])::("split_paths",.list ((ss.map cE).map jc))::("isabs",.bool true)::("s1",jc s1)::("s2",jc s2)::("common",jc com)::tl
theorem Ca(i:Nat)(x:PV)(l:List PV):mC i (x::l) = .tup [.int (i:Int),x]::mC (i+1) l:=rfl
theorem Oj{a:List LS}:gZ a []=[]:=by cases a<;>rfl
theorem xa:∀a b:List LS,cc (gZ a b)<=cc a
 | [],_=>aF _
 | x::a,[]=>bo _
 | x::a,y::b=>by
  show cc (if x=y then x::gZ a b else [])<=_
  split
  ·rw [eG,eG];exact qt (xa a b) _
  ·exact bo _
theorem Fj{x y:LS}{a b:List LS}:∀d:List LS,¬x=y->gZ (d++x::a) (d++y::b)=d:=by
 intro d
 induction d with
 | nil=>
  intro h
  show(if x=y then _ else _)=_;rw [if_neg h]
 | cons z d ih=>
  intro h
  show(if z=z then z::gZ (d++x::a) (d++y::b)else [])=_;rw [if_pos rfl,ih h]
theorem vm:∀d b:List LS,gZ d (d++b)=d
 | [],b=>by cases b<;>rfl
 | z::d,b=>by show(if z=z then z::gZ d (d++b)else [])=_;rw [if_pos rfl,vm d b]
theorem EF:∀(d:List LS) (c:LS) (r:List LS),d<d++c::r:=by
 intro d
 induction d with
 | nil=>
  intro c r
  exact List.Lex.nil
 | cons z d ih=>
  intro c r
  exact List.Lex.cons (ih c r)
theorem u9{k:Nat}{ss:List LS}(h0:ss≠[])(hl:ss.length<1000)(hs:∀s∈ss,s.length<=1000 /\ ∃s',s=47::s')(hle:¬(zF (ss.map cE)<vY (ss.map cE)))(hm:cc (vY (ss.map cE))<=300000) :
  dP (k+2) 184 [.list (ss.map .str)] (.str (tR ss)):=by
 intro R hR
 have hS:SZ=1000000:=rfl
 refine dY (R1:=[.tab]) ?_ (by show(bz (ss.map .str)&&true)=true;rw [bG];rfl) rfl rfl hR
 obtain⟨sa,sr,hsa⟩:∃a r,ss=a::r:=by
  cases ss with
  | nil=>exact absurd rfl h0
  | cons a r=>exact⟨a,r,rfl⟩
 refine cH (fi:=⟨br (aK pw 25),[]⟩) (σ:=[("paths",.list (ss.map .str))]) ∅ ∅ ?_
 refine b8 (.tup (ss.map .str)) [("paths",.tup (ss.map .str))] (R1:=[.tab]) (r6 (a:=144) ∅ ∅ ∅ ∅ ?_ (by rw [ae];exact MX hl hS)) ∅ ∅ ∅ ?_
 ·intro x hx
  obtain⟨s,_,rfl⟩:=aH.mp hx
  exact HS rfl
 refine aR [("paths",.tup (ss.map .str))] (R1:=[.tab]) (by subst hsa;kernel_rfl) ?_
 refine aR [("paths",.tup (ss.map .str)),("sep",.str [47]),("curdir",.str [46])] (R1:=[.tab]) (by subst hsa;kernel_rfl) ?_
 refine xH ?_
 have hst:∀(g:LS->PV),(ss.map PV.str).map (λx=>g ((pO x).getD []))=ss.map g:=λg=>by rw [aI];rfl
 refine b8 (.list (ss.map λs=>jc (aL 47 s))) [("paths",.tup (ss.map .str)),("sep",.str [47]),("curdir",.str [46]),("split_paths",.list (ss.map λs=>jc (aL 47 s)))] (R1:=[.tab]) (gb ?_ (by rw [ae];exact MX hl hS)) ∅ ∅ ∅ ?_
 ·rw [<-hst λs=>jc (aL 47 s)]
  refine jx (R1:=[.tab]) _ ∅ (Di ∅ ∅) λx hx=>?_
  obtain⟨s,hsm,rfl⟩:=aH.mp hx
  have:=(hs s hsm).1
  have h2:=j6 47 s
  have h3:=j8 (aL 47 s)
  exact⟨[("sep",.str [47]),("path",.str s)],∅,ei (x:=.str s) (as:=[.str [47]]) (R1:=[.tab]) ∅ ∅ ∅ (ou (by exact Te hS this h2 h3))⟩
 refine jp [("paths",.tup (ss.map .str)),("sep",.str [47]),("curdir",.str [46]),("split_paths",.list (ss.map λs=>jc (aL 47 s))),("isabs",.bool true)] (R1:=[.tab]) (xH (aR _ (R1:=[.tab]) (B3 (f:="isabs") (b:=true) (r:=sr.map λζ=>.bool true) ∅ ?_ (by rw [List.all_map];exact bu.mpr λζ ζ=>rfl) ∅) (aX (aX rfl)))) ?_
 ·have e:(PV.bool true::sr.map λζ=>PV.bool true)=(ss.map PV.str).map λζ=>PV.bool true:=by rw [hsa,aI];rfl
  rw [e]
  refine jx (R1:=[.tab]) _ ∅ (Di ∅ ∅) λx hx=>?_
  obtain⟨s,hsm,rfl⟩:=aH.mp hx
  obtain⟨_,s',rfl⟩:=hs s hsm
  exact⟨[("sep",.str [47]),("p",.str (47::s'))],∅,∅⟩
 refine b8 (.list ((ss.map cE).map jc)) [("paths",.tup (ss.map .str)),("sep",.str [47]),("curdir",.str [46]),("split_paths",.list ((ss.map cE).map jc)),("isabs",.bool true)] (R1:=[.tab]) (gb ?_ (by rw [ae,ae];exact MX hl hS)) ∅ ∅ ∅ ?_
 ·have e:(ss.map cE).map jc=(ss.map λs=>jc (aL 47 s)).map λx=>match x with | .list y=>.list (y.filterMap (MN λc =>!c.isEmpty && !(c==[46]))) | _=>.none:=by
   rw [aI,aI]
   refine bf λs ζ=>?_
   show PV.list _=PV.list _
   rw [pL];rfl
  rw [e]
  refine jx (R1:=[.tab]) _ ∅ (ij ∅ ∅) λx hx=>?_
  obtain⟨s,hsm,rfl⟩:=aH.mp hx
  refine⟨[("curdir",.str [46]),("s",jc (aL 47 s))],∅,gb ?_ ?_⟩
  ·refine vo (R1:=[.tab]) _ ∅ (ij ∅ ∅) λx hx=>?_
   obtain⟨c,hc,rfl⟩:=aH.mp hx
   refine⟨[("curdir",.str [46]),("c",.str c)],!c.isEmpty && !(c==[46]),∅,?_,λe=>⟨.str c,∅,?_⟩,λe=>?_⟩
   ·cases c with
    | nil=>kernel_rfl
    | cons d c'=>
     refine m5 (tB (R1:=[.tab]) ∅ (m5 (m7 (b :=!(d::c'==[46])) ∅ ?_)))
     show _=(!(d::c').isEmpty && !(d::c'==[46]))
     rfl
   ·rw [ut,if_pos e]
   ·rw [ut,if_neg (by rw [e];exact bc)]
  ·rw [pL,ae]
   have:=(hs s hsm).1
   have h2:=j6 47 s
   have h3:=j8 (aL 47 s)
   have h4:=g8 (λc:LS =>!c.isEmpty && !(c==[46])) (aL 47 s)
   exact Td hS this h2 h3 h4
 have hne:ss.map cE≠[]:=by rw [hsa];exact λq=>nomatch q
 generalize hs1:vY (ss.map cE)=s1 at hle hm
 generalize hs2:zF (ss.map cE)=s2 at hle
 have hcp:tR ss=aG (gZ s1 s2):=by unfold tR;rw [hs1,hs2]
 rw [hcp]
 refine b8 (jc s1) [("paths",.tup (ss.map .str)),("sep",.str [47]),("curdir",.str [46]),("split_paths",.list ((ss.map cE).map jc)),("isabs",.bool true),("s1",jc s1)] (R1:=[.tab]) (sG (g:=.builtin "min") (as:=[.list ((ss.map cE).map jc)]) ∅ ∅ ∅ (by rw [<-hs1];exact N2 hne)) ∅ ∅ ∅ ?_
 refine b8 (jc s2) [("paths",.tup (ss.map .str)),("sep",.str [47]),("curdir",.str [46]),("split_paths",.list ((ss.map cE).map jc)),("isabs",.bool true),("s1",jc s1),("s2",jc s2)] (R1:=[.tab]) (sG (g:=.builtin "max") (as:=[.list ((ss.map cE).map jc)]) ∅ ∅ ∅ (by rw [<-hs2];exact N3 hne)) ∅ ∅ ∅ ?_
 refine aR (Jp ss s1 s2 s1 []) (R1:=[.tab]) ∅ ?_
 have hm':cc (gZ s1 s2)<=300000:=ah (xa s1 s2) hm
 have fin:∀tl:bq,(tl=[] \/ ∃a b,tl=([("i",a),("c",b)]:bq))->oF (fG (k+1)) 388 ⟨(br (aK pw 25)).scope.names,1⟩ (match (br (aK pw 25)).body.getD 3 bO with | .Try b _ _ _ _=>b.drop 7 | _=>[]) (Jp ss s1 s2 (gZ s1 s2) tl) [.tab] λo=>o.1 = .ret (.str (aG (gZ s1 s2)))/\o.2.2=[.tab]:=by
  intro tl htl
  refine aR (s:=match (br (aK pw 25)).body.getD 3 bO with | .Try b _ _ _ _=>b.getD 7 bO | _=>bO) (r:=match (br (aK pw 25)).body.getD 3 bO with | .Try b _ _ _ _=>b.drop 8 | _=>[]) (Jp ss s1 s2 (gZ s1 s2) (tl++([("prefix",.str [47])]:bq))) (R1:=[.tab]) (by rcases htl with rfl | ⟨a,b,rfl⟩<;>kernel_rfl) ?_
  refine cP (.str (aG (gZ s1 s2))) (R1:=[.tab]) ?_ ⟨rfl,rfl⟩
  have h2:=jQ [47] (gZ s1 s2)
  have h1:([47]:LS).length=1:=rfl
  unfold cc at hm'
  rw [h1,f8]at h2
  refine jw (x:=.str [47]) (y:=.str (ce [47] (gZ s1 s2))) (R1:=[.tab]) (by rcases htl with rfl | ⟨a,b,rfl⟩<;>kernel_rfl) (ei (x:=.str [47]) (as:=[jc (gZ s1 s2)]) (R1:=[.tab]) (R2:=[.tab]) ∅ (by rcases htl with rfl | ⟨a,b,rfl⟩<;>kernel_rfl) (by rcases htl with rfl | ⟨a,b,rfl⟩<;>kernel_rfl) (nc (l:=gZ s1 s2) rfl (by rw [h1,f8];exact Tc hS hm'))) ∅ (yt (e:=rfl) <| jb (l:=47::ce [47] (gZ s1 s2)) (by show(ce [47] (gZ s1 s2)).length+1<=_;exact Tb hS hm' h2))
 refine gB (xs:=mC 0 (s1.map .str)) (σ1:=Jp ss s1 s2 s1 []) (R1:=[.tab]) ?_ ∅ ?_
 ·exact BX ∅ ∅
 refine ii (λxs σ R=>∃(done rest:List LS) (tl:bq),s1=done++rest/\xs=mC done.length (rest.map .str)/\(tl=[] \/ ∃a b,tl=([("i",a),("c",b)]:bq))/\σ=Jp ss s1 s2 s1 tl/\R=([.tab]:List aO) /\ ∃r2,s2=done++r2) ?_ ?_ _ _ _ ⟨[],s1,[],rfl,rfl,av rfl,rfl,rfl,s2,rfl⟩
 ·rintro x xs σ R ⟨done,rest,tl,h1,h2,h3,rfl,rfl,r2,h4⟩
  cases rest with
  | nil=>cases h2
  | cons c rest=>
   rw [aN,Ca]at h2
   cases h2
   have hcd:∃d r2',r2=d::r2':=by
    cases r2 with
    | nil=>
     refine absurd ?_ hle
     rw [h1,h4,aP]
     exact EF done c rest
    | cons d r2'=>exact⟨d,r2',rfl⟩
   obtain⟨d,r2',rfl⟩:=hcd
   refine jn (Jp ss s1 s2 s1 [("i",.int (done.length:Int)),("c",.str c)]) (by rcases h3 with rfl | ⟨a,b,rfl⟩<;>kernel_rfl) ?_
   have hpick:iB (s2.map PV.str) (done.length:Int)=some (.str d):=by
    rw [mz,h4,bV,bH (by rw [ae];exact aF _),ae,eW];rfl
   have tst:∀b:Bool,(!(c==d))=b->tv (fG (k+1)) 385 ⟨(br (aK pw 25)).scope.names,1⟩ (match (br (aK pw 25)).body.getD 3 bO with | .Try b _ _ _ _=>(match b.getD 6 bO with | .For _ _ b _ _=>(match b.getD 0 bO with | .If t _ _ _=>t | _=>bO) | _=>bO) | _=>bO) (Jp ss s1 s2 s1 [("i",.int (done.length:Int)),("c",.str c)]) [.tab]=some (b,[.tab]):=by
    rintro b rfl
    refine i9 (x:=.str c) (y:=.str d) (R1:=[.tab]) ∅ ∅ (mn (x:=jc s2) (R1:=[.tab]) ∅ ∅ ?_) ∅
    exact cU (b:=fO (iB (s2.map PV.str) (done.length:Int)) [.tab]) ∅ (gT hpick)
   by_cases e:c=d
   ·subst e
    refine iO (z:=(.next,Jp ss s1 s2 s1 [("i",.int (done.length:Int)),("c",.str c)],[.tab])) (gD (tst false (by rw [beq_self_eq_true];rfl)) rfl) (aX ?_)
    exact⟨done++[c],rest,_,by rw [h1,aQ];rfl,by rw [ai];rfl,an ⟨_,_,rfl⟩,rfl,rfl,r2',by rw [h4,aQ];rfl⟩
   ·have hc:gZ s1 s2=done:=by rw [h1,h4];exact Fj done e
    refine ff (tst true (by rw [beq_eq_false_iff_ne.mpr e];rfl)) ?_
    refine b8 (jc done) (Jp ss s1 s2 done [("i",.int (done.length:Int)),("c",.str c)]) (R1:=[.tab]) (B8 (b:=.list (dG (s1.map PV.str) none (some (done.length:Int)))) ∅ (by rw [m9,h1,List.take_left])) ∅ ∅ ∅ ?_
    refine iO (z:=(.brk,Jp ss s1 s2 done [("i",.int (done.length:Int)),("c",.str c)],[.tab])) rfl ?_
    have:=fin [("i",.int (done.length:Int)),("c",.str c)] (an ⟨_,_,rfl⟩)
    rw [hc]at this
    exact qJ this λz h=>by rcases z with ⟨f,a,b⟩;obtain⟨h1,h2⟩:=h;cases h1;cases h2;exact⟨by rw [hc],rfl⟩
 ·rintro σ R ⟨done,rest,tl,h1,h2,h3,rfl,rfl,r2,h4⟩
  cases rest with
  | cons c rest=>cases h2
  | nil=>
   rw [aP]at h1
   have hc:gZ s1 s2=s1:=by rw [h1,h4];exact vm done r2
   have:=fin tl h3
   rw [hc]at this
   exact qJ this λz h=>by rcases z with ⟨f,a,b⟩;obtain⟨h1,h2⟩:=h;cases h1;cases h2;exact⟨by rw [hc],rfl⟩
end Mine.W
end
section
namespace Mine.W
section
variable {sp:Spec} {n k:Nat} {cx:Cx} {σ σ1:bq} {R R1 R2:List aO} {t e it l:bE} {v x y:PV} {p q:dN}
noncomputable def nv(ss:List LS):List LS:=ss.mergeSort λa b =>!decide (aL 47 b<aL 47 a)
theorem z8{f:Str}{fp:dN}{kws:List cS}{ss:List LS}(hg:gl cx f=true)(hk:lV (eZ f) [e] kws = .sortKey e)(h:ev sp n cx e σ R=some (.list (ss.map .str),R1))(h1:0<ss.length)(h2:ss.length<64)(h3:∀s∈ss,s.length<SZ)(h4:lP R1=true)(h5:cx.names.lookup ("met":Str)=some .cell) :
  ev sp (n+2) cx (.Call (.Name f fp) [e] kws p) σ R=some (.list ((nv ss).map .str),R1):=by
 refine rn hg hk ?_
 delta lh
 refine bl h (dc (gG ss) (fU ?_ rfl))
 rw [decide_eq_true h1,decide_eq_true h2,bu.mpr λs hs=>decide_eq_true (h3 s hs),h4,h5]
 rfl
theorem wT{f:Str}{fp:dN}{j:Nat}(h:ev sp n cx e σ R=some (.int (j:Int),R1))(hk:ik cx (.Call (.Name f fp) [e] [] q) = .range e)(hj:j<1000):itv sp (n+1) cx (.Call (.Name f fp) [e] [] q) σ R=some ((cM j).map λ(i:Nat)=>PV.int (i:Int),R1):=by
 refine xT hk (bl (k:=λv R1=>intP v none λi=>grd (decide (-1000000<=i)&&decide (i<=1000000)) (some (iG i,R1))) h (fU ?_ rfl))
 rw [decide_eq_true (show(-1000000:Int)<=(j:Int) by exact Ta),decide_eq_true (show(j:Int)<=1000000 by exact S9 hj)]
 rfl
end
theorem wy{α:Type}(l:List α)(a b:Nat):dG l (some (a:Int)) (some (b:Int))=(l.take b).drop a:=by
 show(l.take (r7 (b:Int) _)).drop (r7 (a:Int) _)=_
 unfold r7
 rw [if_neg (by exact MY),if_neg (by exact MY),fy,fy]
noncomputable def iN(t:List LS)(m k:Nat):List LS:=(t.take (k+m)).drop (k+1)++(t.take (k+1)).drop k
noncomputable def vZ(ss:List LS):LS:=(kH ((cM (ss.length-(ss.length / 2+1)+1)).map λk=>tR (iN (nv ss) (ss.length / 2+1) k))).getD []
noncomputable def yz(s:LS):Prop:=s.length<=1000 /\ ∃s',s=47::s'
noncomputable def mJ(ss:List LS):Prop:=ss≠[]/\ss.length<1000/\(∀s∈ss,yz s) /\ ¬(zF (ss.map cE)<vY (ss.map cE))/\cc (vY (ss.map cE))<=300000
theorem Qi{k:Nat}{vs:List PV}{g:PV->LS}(hn:vs≠[])(hl:vs.length<64)(hv:∀v∈vs,(v = .str (g v) \/ ∃l,v = .list l/\bz l=true/\dP (k+2) 952 [v] (.str (g v)))/\yz (g v))
  (hw:∀j<vs.length-(vs.length / 2+1)+1,mJ (iN (nv (vs.map g)) (vs.length / 2+1) j)):dP (k+3) 952 [.list vs] (.str (vZ (vs.map g))):=by
 intro R hR
 have hno:bz vs=true:=by
  have:bz (vs.map λx=>x)=true:=bN λv hx=>by
   rcases(hv v hx).1 with h | ⟨l,rfl,h,_⟩
   ·rw [h];rfl
   ·exact h
  rwa [fY]at this
 have hpos:0<vs.length:=b5.mpr hn
 have hS:SZ=1000000:=rfl
 refine dY (R1:=[.tab]) ?_ (by show(bz vs&&true)=true;rw [hno];rfl) rfl rfl hR
 refine cH (fi:=⟨br (aK pw 60),[]⟩) (σ:=[("places",.list vs)]) ∅ ∅ ?_
 have e0:(vs.map g).map PV.str=vs.map λv=>PV.str (g v):=by rw [aI];rfl
 refine b8 (.list ((vs.map g).map .str)) [("places",.list vs),("met",.list ((vs.map g).map .str))] (R1:=[.tab]) (gb ?_ (by rw [ae,ae];exact S8 hl hS)) ∅ ∅ ∅ ?_
 ·rw [e0]
  refine jx (R1:=[.tab]) _ ∅ (ij ∅ ∅) λv hx=>⟨[("place",v)],∅,?_⟩
  rcases(hv v hx).1 with h | ⟨l,rfl,h1,h2⟩
  ·obtain⟨r,hr⟩:∃r,g v=r:=⟨_,rfl⟩
   rw [hr]at h ⊢
   subst h
   exact ka (b:=true) (R1:=[.tab]) ∅ ∅
  ·exact ka (b:=false) (R1:=[.tab]) ∅ (ej (g:=952) (as:=[.list l]) (R1:=[.tab]) ∅ ∅ ∅ ∅ (h2 _ rfl))
 generalize hss:vs.map g=ss at hw
 have hlen:ss.length=vs.length:=by rw [<-hss,ae]
 have hss':∀s∈ss,yz s:=λs hs=>by
  rw [<-hss]at hs
  obtain⟨v,hv',rfl⟩:=aH.mp hs
  exact(hv v hv').2
 rw [<-hlen]at hw hpos hl
 have hsl:(nv ss).length=ss.length:=AY _
 refine b8 (.list ((nv ss).map .str)) [("places",.list vs),("met",.list ((nv ss).map .str))] (R1:=[.tab]) (z8 (ss:=ss) ∅ ∅ ∅ hpos hl (λs hs=>by have:=(hss' s hs).1;exact S7 hS this) rfl ∅) ∅ ∅ ∅ ?_
 generalize ht:nv ss=t at hw hsl
 generalize hm:ss.length / 2+1=m at hw
 refine b8 (.int (m:Int)) [("places",.list vs),("met",.list (t.map .str)),("many",.int (m:Int))] (R1:=[.tab]) (B8 (b:=.int (kE (((t.map PV.str).length:Nat):Int) (2:Nat)+1)) ∅ (by rw [ae,j9,hsl,<-hm];rfl)) ∅ ∅ ∅ ?_
 have hmet:vZ ss=(kH ((cM (ss.length-m+1)).map λk=>tR (iN t m k))).getD []:=by unfold vZ;rw [hm,ht]
 refine cP (.str (vZ ss)) (R1:=[.tab]) (oZ (l:=((cM (ss.length-m+1)).map λk=>tR (iN t m k)).map .str) ∅ ∅ ∅ (gb ?_ ?_) ?_) ⟨rfl,rfl⟩
 ·have e1:((cM (ss.length-m+1)).map λk=>tR (iN t m k)).map PV.str=((cM (ss.length-m+1)).map λ(i:Nat)=>PV.int (i:Int)).map λx=>match x with | .int i=>.str (tR (iN t m i.toNat)) | _=>.none:=by
   rw [aI,aI]
   exact bf λj ζ=>by show _=PV.str (tR (iN t m (j:Int).toNat));rw [fy];rfl
  rw [e1]
  refine jx (R1:=[.tab]) _ ∅ (wT ?_ ∅ (by exact S6 hl)) λx hx=>?_
  ·refine B8 (b:=.int ((((t.map PV.str).length:Nat):Int)-(m:Int)+1)) ∅ ?_
   rw [ae,hsl]
   congr 1
   exact S5 hpos hm
  ·obtain⟨j,hj,rfl⟩:=aH.mp hx
   rw [iu]at hj
   show ∃σ',_/\ev _ _ _ _ σ' _=some (PV.str (tR (iN t m (j:Int).toNat)),_)
   rw [fy]
   obtain⟨c1,c2,c3,c4,c5⟩:=hw j hj
   refine⟨[("many",.int (m:Int)),("met",.list (t.map .str)),("k",.int (j:Int))],∅,ej (g:=184) (as:=[.list ((iN t m j).map .str)]) (R1:=[.tab]) ∅ ∅ ∅ (fh (jw (x:=.list (((t.take (j+m)).drop (j+1)).map .str)) (y:=.list (((t.take (j+1)).drop j).map .str)) (R1:=[.tab]) ?_ ?_ ∅ ?_)) (u9 c1 c2 c3 c4 c5 _ rfl)⟩
   ·refine B8 (b:=.list (dG (t.map PV.str) (some ((j:Int)+1)) (some ((j:Int)+(m:Int))))) ∅ ?_
    rw [show(j:Int)+1=((j+1:Nat):Int) by exact Pd,show(j:Int)+(m:Int)=((j+m:Nat):Int) by exact S4,wy,Mw,qv]
   ·refine B8 (b:=.list (dG (t.map PV.str) (some (j:Int)) (some ((j:Int)+1)))) ∅ ?_
    rw [show(j:Int)+1=((j+1:Nat):Int) by exact Pd,wy,Mw,qv]
   ·refine(uD (l:=((t.take (j+m)).drop (j+1)).map PV.str++((t.take (j+1)).drop j).map PV.str) ?_).trans ?_
    ·rw [ai,ae,ae,cT,cD,cT,cD];exact S3 hS hl hm
    ·rw [<-bV];rfl
 ·rw [ae,ae,hU];exact S2 hS hl
 ·rw [wJ len_str,hmet,qU]
  ·rfl
  ·intro q
   have:=congrArg bX q
   rw [ae,hU,cj]at this
   exact Pc this
theorem HP{k:Nat}{vs:List PV}{g:PV->LS}{far:LS}(hl:vs.length<1000)(hv:∀v∈vs,(∃s,v = .str s/\g v=tR [s,far]/\mJ [s,far])\/(∃l ws,v = .list l/\bz l=true/\dP (k+2) 959 [v,.str far] (.list (ws.map .str))/\ws≠[]/\ws.length<64/\g v=Aq ws ((ws.length-1) / 2))) :
  dP (k+3) 959 [.list vs,.str far] (.list ((vs.map g).map .str)):=by
 intro R hR
 have hno:bz vs=true:=by
  have:bz (vs.map λx=>x)=true:=bN λv hx=>by
   rcases hv v hx with ⟨s,rfl,_⟩ | ⟨l,ws,rfl,h,_⟩
   ·rfl
   ·exact h
  rwa [fY]at this
 refine dY (R1:=[.tab,.dead]) ?_ (by show(bz vs&&true)=true;rw [hno];rfl) (bG _) rfl hR
 refine cH (fi:=⟨br (aK pw 61),[]⟩) (σ:=[("places",.list vs),("far",.str far)]) ∅ ∅ ?_
 refine aR [("places",.list vs),("far",.str far),("seen",.obj 1)] (R1:=[.tab,.lst []]) ∅ ?_
 refine gB (xs:=vs) (σ1:=[("places",.list vs),("far",.str far),("seen",.obj 1)]) (R1:=[.tab,.lst []]) ∅ ∅ ?_
 refine qS (λo=>("places",.list vs)::("far",.str far)::("seen",.obj 1)::(o.map λv=>(("place":Str),v)).toList) (λv=>.str (g v)) [] vs (by show 0+_<_;exact S1 hl) (λo v acc hx ha=>?_) (λo=>?_)
 ·refine oP [("places",.list vs),("far",.str far),("seen",.obj 1),("place",v)] (by cases o<;>kernel_rfl) (cR (gE (ei (x:=.obj 1) (as:=[.str (g v)]) (R1:=[.tab,.lst acc]) (R2:=[.tab,.lst acc]) ∅ ∅ (fh ?_) (dq (l:=acc) rfl rfl (bI ha (by decide))))))
  rcases hv v hx with ⟨s,rfl,h2,c1,c2,c3,c4,c5⟩ | ⟨l,ws,rfl,h1,h2,h3,h4,h5⟩
  ·rw [h2]
   exact ka (b:=true) (R1:=[.tab,.lst acc]) ∅ (ej (g:=184) (as:=[.list ([s,far].map .str)]) (R1:=[.tab,.lst acc]) ∅ ∅ ∅ ∅ (u9 c1 c2 c3 c4 c5 _ rfl))
  ·rw [h5]
   exact ka (b:=false) (R1:=[.tab,.lst acc]) ∅ (ej (g:=64) (as:=[.list (ws.map .str)]) (R1:=[.tab,.lst acc]) ∅ ∅ ∅ (fh (ej (g:=959) (as:=[.list l,.str far]) (R1:=[.tab,.lst acc]) ∅ ∅ ∅ ∅ (h2 _ rfl))) (LV h3 h4 _ rfl))
 ·have e:([]++vs.map λv=>PV.str (g v))=(vs.map g).map .str:=by rw [ew,aI];rfl
  rw [e]
  exact cP (.list ((vs.map g).map .str)) (R1:=[.tab,.dead]) (by cases o<;>kernel_rfl) ⟨rfl,rfl⟩
end Mine.W
end
section
namespace Mine.W
inductive cO where
 | way (w:LS)
 | sub (w:LS) (ws:List LS)
noncomputable def jm:cO->PV
 | .way w=>.str w
 | .sub w ws=>.list [.str w,.list (ws.map .str)]
noncomputable def fq:List cO->Nat
 | []=>0
 | .way _::r=>fq r
 | .sub _ _::r=>fq r+1
noncomputable def gU:Nat->List cO->List PV
 | _,[]=>[]
 | c,.way w::r=>.str w::gU c r
 | c,.sub _ _::r=>.obj (4+2*c)::gU (c+1) r
noncomputable def gY:Nat->List cO->List aO
 | _,[]=>[]
 | c,.way _::r=>gY c r
 | c,.sub w ws::r=>.lst (ws.map .str) :: .lst [.str w,.obj (3+2*c)]::gY (c+1) r
noncomputable def BZ:Nat->List cO->PV->PV
 | _,[],v=>v
 | c,.way _::r,v=>BZ c r v
 | c,.sub w ws::r,v=>BZ (c+1) r (sub (4+2*c) [.str w,.list (ws.map .str)] (sub (3+2*c) (ws.map .str) v))
mutual
theorem kr{k:Nat}{l:List PV}:∀{v:PV},noObj v=true->sub k l v=v
 | .none,_=>rfl
 | .bool _,_=>rfl
 | .int _,_=>rfl
 | .str _,_=>rfl
 | .val _,_=>rfl
 | .obj _,h=>nomatch h
 | .list xs,h=>congrArg PV.list (oO (l:=l) h)
 | .tup xs,h=>congrArg PV.tup (oO (l:=l) h)
theorem oO{k:Nat}{l:List PV}:∀{xs:List PV},bz xs=true->k9 k l xs=xs
 | [],_=>rfl
 | x::r,h=>by
  have h':=aM.mp (show(noObj x&&bz r)=true from h)
  show sub k l x::k9 k l r=_
  rw [kr h'.1,oO h'.2]
end
theorem zk{k:Nat}{l:List PV}:∀(a b:List PV),k9 k l (a++b)=k9 k l a++k9 k l b:=by
 intro a
 induction a with
 | nil=>
  intro b
  exact rfl
 | cons x a ih=>
  intro b
  show sub k l x::k9 k l (a++b)=_;rw [ih b];rfl
theorem qd{k j:Nat}{l:List PV}(h:j≠k):sub k l (.obj j) = .obj j:=by show(if j=k then _ else _)=_;rw [if_neg h]
theorem qD{k:Nat}{l:List PV}:∀(V:List cO) (c:Nat),k<4+2*c->k9 k l (gU c V)=gU c V
 | [],c,_=>rfl
 | .way w::r,c,h=>by show .str w::k9 k l (gU c r)=_;rw [qD r c h];rfl
 | .sub w ws::r,c,h=>by
  show sub k l (.obj (4+2*c))::k9 k l (gU (c+1) r)=_
  rw [qd (by exact S0 h),qD r (c+1) (by exact SY h)];rfl
theorem u8(s:LS):∀(V:List cO) (c:Nat) (pre:List PV),bz pre=true->BZ c V (.list [.str s,.list (pre++gU c V)]) = .list [.str s,.list (pre++V.map jm)]
 | [],c,pre,h=>rfl
 | .way w::r,c,pre,h=>by
  have e:pre++gU c (.way w::r)=(pre++[.str w])++gU c r:=by rw [aQ];rfl
  rw [e]
  show BZ c r _=_
  rw [u8 s r c (pre++[.str w]) (noObjs_app h rfl),aQ]at ⊢;rfl
 | .sub w ws::r,c,pre,h=>by
  show BZ (c+1) r (.list [.str s,.list (k9 (4+2*c) _ (k9 (3+2*c) _ (pre ++ .obj (4+2*c)::gU (c+1) r)))])=_
  have e1:k9 (3+2*c) (ws.map PV.str) (pre ++ .obj (4+2*c)::gU (c+1) r)=pre ++ .obj (4+2*c)::gU (c+1) r:=by
   rw [zk,oO h]
   show pre++(sub _ _ _::k9 _ _ _)=_
   rw [qd (by exact SX),qD r (c+1) (by exact SW)]
  have e2:k9 (4+2*c) [.str w,.list (ws.map PV.str)] (pre ++ .obj (4+2*c)::gU (c+1) r)=(pre++[jm (.sub w ws)])++gU (c+1) r:=by
   rw [zk,oO h,aQ]
   show pre++(sub _ _ (.obj (4+2*c))::k9 _ _ _)=_
   rw [qD r (c+1) (by exact SV)]
   show pre++((if 4+2*c=4+2*c then _ else _)::_)=_
   rw [if_pos rfl];rfl
  rw [e1,e2,u8 s r (c+1) _ (noObjs_app h (by show(true&&(bz (ws.map .str)&&true))=true;rw [bG];rfl)),aQ];rfl
where
 noObjs_app:∀{a:List PV} {x:PV},bz a=true->noObj x=true->bz (a++[x])=true
  | [],x,_,h=>by show(noObj x&&true)=true;rw [h];rfl
  | y::a,x,h1,h2=>by
   have h':=aM.mp (show(noObj y&&bz a)=true from h1)
   show(noObj y&&bz (a++[x]))=true
   rw [h'.1,noObjs_app h'.2 h2];rfl
theorem nr{k n:Nat}(h:k<n):below k n=k::below (k+1) n:=by
 unfold below
 rw [show n-k=(n-(k+1))+1 by exact SU h,List.range_succ_eq_map,aN,aI,dU]
 congr 1
 exact bf λi ζ=>by show i+1+k=i+(k+1);exact GX
theorem Ft{k:Nat}:below k k=[]:=by unfold below;rw [eW];rfl
noncomputable def yq(D:List aO):Prop:=∀d∈D,d = .tab\/d = .dead
theorem ID{D:List aO}(h:yq D)(k:Nat)(l:List PV):D.map (vT k l)=D:=by
 rw [bf (g:=id) λd hd=>by rcases h d hd with rfl | rfl<;>rfl,mv]
theorem mx{k:Nat}{l:List PV}:∀(V:List cO) (c:Nat),k<3+2*c->(gY c V).map (vT k l)=gY c V
 | [],c,_=>rfl
 | .way w::r,c,h=>mx r c h
 | .sub w ws::r,c,h=>by
  show aO.lst (k9 k l (ws.map .str)) :: .lst [.str w,sub k l (.obj (3+2*c))]::(gY (c+1) r).map (vT k l)=_
  rw [oO (bG ws),qd (by exact SS h),mx r (c+1) (by exact SR h)];rfl
theorem CX{D r:List aO}{x y:aO}:(D++x::r).set D.length y=D++y::r:=by
 rw [List.set_append_right _ _ (aF _),eW];rfl
theorem ra{k:Nat}{ks:List Nat}{σ:bq}{D r r':List aO}{l:List PV}(hk:D.length=k)(hD:yq D)(hr:r.map (vT k l)=r'):uX (k::ks) σ (D ++ .lst l::r)=uX ks (kZ k l σ) (D ++ .dead::r'):=by
 subst hk
 have e:(D ++ .lst l::r)[D.length]? = some (.lst l):=by rw [bH (aF _),eW];rfl
 have e':rb D.length σ (D ++ .lst l::r)=(kZ D.length l σ,D ++ .dead::r'):=by
  unfold rb
  simp only [e]
  show(kZ D.length l σ,((D ++ .lst l::r).map (vT D.length l)).set D.length .dead)=_
  rw [bV,aN,ID hD,hr,CX]
 exact congrArg (λy:bq × List aO=>uX ks y.1 y.2) e'
theorem DZ{k j:Nat}{l m:List PV}(σ:bq):kZ k l (kZ j m σ)=σ.map λx=>(x.1,sub k l (sub j m x.2)):=by unfold kZ;rw [aI];rfl
theorem r9{D:List aO}(h:yq D):yq (D++[.dead]):=λd hd=>by
 rcases dp.mp hd with hd | hd
 ·exact h d hd
 ·exact an (aC.mp hd)
theorem xY:∀(V:List cO) (c:Nat) (σ:bq) (D:List aO),D.length=3+2*c->yq D->∃D',yq D'/\(D'[0]? = D[0]?)/\uX (below (3+2*c) (3+2*c+2*fq V)) σ (D++gY c V)=(σ.map λx=>(x.1,BZ c V x.2),D')
 | [],c,σ,D,hl,hD=>⟨D,hD,rfl,by
   show uX (below (3+2*c) (3+2*c)) σ (D++[])=_
   rw [Ft,aP]
   show(σ,D)=(σ.map (λx=>(x.1,x.2)),D)
   rw [show(λx:Str × PV=>(x.1,x.2))=id from rfl,mv]⟩
 | .way w::r,c,σ,D,hl,hD=>xY r c σ D hl hD
 | .sub w ws::r,c,σ,D,hl,hD=>by
  obtain⟨D',h1,h2,h3⟩:=xY r (c+1) (kZ (4+2*c) [.str w,.list (ws.map .str)] (kZ (3+2*c) (ws.map .str) σ)) (D++[.dead]++[.dead]) (by rw [ai,ai,hl];show _+1+1=_;exact Pb) (r9 (r9 hD))
  refine⟨D',h1,h2.trans ?_,?_⟩
  ·rw [aQ,eF (by exact SQ hl)]
  ·have en:3+2*c+2*fq (.sub w ws::r)=3+2*(c+1)+2*fq r:=by show _+2*(fq r+1)=_;exact SP
   rw [en,nr (by exact SO),nr (by exact SN),show 3+2*c+1+1=3+2*(c+1) by exact Pb]
   show uX _ σ (D ++ .lst (ws.map .str) :: .lst [.str w,.obj (3+2*c)]::gY (c+1) r)=_
   rw [ra (r':=.lst [.str w,.list (ws.map .str)]::gY (c+1) r) hl hD (by
    show aO.lst [.str w,if 3+2*c=3+2*c then _ else _]::(gY (c+1) r).map _=_
    rw [if_pos rfl,mx r (c+1) (by exact SM)])]
   rw [show D ++ .dead :: .lst [.str w,.list (ws.map .str)]::gY (c+1) r=(D++[.dead]) ++ .lst [.str w,.list (ws.map .str)]::gY (c+1) r by rw [aQ];rfl]
   rw [ra (r':=gY (c+1) r) (by rw [ai,hl];show _+1=_;exact SL) (r9 hD) (mx r (c+1) (by exact SK))]
   rw [show 3+2*c+1=4+2*c by exact Pa,show(D++[.dead]) ++ .dead::gY (c+1) r=(D++[.dead]++[.dead])++gY (c+1) r by simp only [aQ,eP,ew],h3,DZ,aI]
   rfl
noncomputable abbrev VS:=List cO × Option (LS × List LS)
noncomputable def ez(s:VS):List cO:=match s.2 with
 | none=>s.1
 | some (w,ws)=>s.1++[.sub w ws]
noncomputable def fP(x:Int):Nat:=x.natAbs / 10 % 10
noncomputable def dw(s:VS)(x:Int):VS:=
 if 7<fP x then(ez s++[.way (gu x)],none)
 else if fP x=6\/fP x=7 then(ez s,some (gu x,[]))
 else match s.2 with
  | none=>(s.1++[.way (gu x)],none)
  | some (w,ws)=>(s.1,some (w,ws++[gu x]))
noncomputable def lU:List Int:=[63,0, -81]
noncomputable def fc(ns:List Int):List cO:=ez ((lU++ns.take 5).foldl dw ([],none))
theorem zj:∀a b:List cO,fq (a++b)=fq a+fq b
 | [],b=>(dU _).symm
 | .way w::a,b=>zj a b
 | .sub w ws::a,b=>by show fq (a++b)+1=fq a+1+fq b;rw [zj a b];exact SJ
theorem mE:∀(a b:List cO) (c:Nat),gU c (a++b)=gU c a++gU (c+fq a) b
 | [],b,c=>rfl
 | .way w::a,b,c=>congrArg (PV.str w :: ·) (mE a b c)
 | .sub w ws::a,b,c=>by
  show PV.obj (4+2*c)::gU (c+1) (a++b)=_
  rw [mE a b (c+1),show c+1+fq a=c+fq (.sub w ws::a) by show _=c+(fq a+1);exact GX];rfl
theorem mD:∀(a b:List cO) (c:Nat),gY c (a++b)=gY c a++gY (c+fq a) b
 | [],b,c=>rfl
 | .way w::a,b,c=>mD a b c
 | .sub w ws::a,b,c=>by
  show aO.lst (ws.map .str) :: .lst [.str w,.obj (3+2*c)]::gY (c+1) (a++b)=_
  rw [mD a b (c+1),show c+1+fq a=c+fq (.sub w ws::a) by show _=c+(fq a+1);exact GX];rfl
theorem oB:∀(a:List cO) (c:Nat),(gY c a).length=2*fq a
 | [],c=>rfl
 | .way w::a,c=>oB a c
 | .sub w ws::a,c=>by show(gY (c+1) a).length+1+1=2*(fq a+1);rw [oB a];exact SI
theorem oC:∀(a:List cO) (c:Nat),(gU c a).length=a.length
 | [],c=>rfl
 | .way w::a,c=>congrArg (· + 1) (oC a c)
 | .sub w ws::a,c=>congrArg (· + 1) (oC a (c+1))
theorem qi:∀(a:List cO) (c:Nat),(gY c a).all xL=true
 | [],c=>rfl
 | .way w::a,c=>qi a c
 | .sub w ws::a,c=>qi a (c+1)
noncomputable abbrev eI:LS:=[46,47,97]
noncomputable abbrev RV(V:List cO):List aO:=.tab :: .lst (gU 0 V) :: .lst [.str eI,.obj 1]::gY 0 V
theorem xO(V:List cO):wE (RV V)=true:=qi V 0
noncomputable def N5(s:VS):PV:=match s.2 with
 | none=>.obj 2
 | some _=>.obj (4+2*fq s.1)
end Mine.W
end
section
namespace Mine.W
theorem J2{sp:Spec}{n:Nat}{R:List aO}{σ:bq}{v:PV}{P:List aO->Prop}{f:aB}{fi:IY}{pos:List PV}{kw:List (Str × PV)}(h1:E6 pw f=some fi)(h2:vv fi.fd.params fi.dflt pos kw=some σ)(h3:oF sp n ⟨fi.fd.scope.names,R.length⟩ fi.fd.body σ R λo=>o.1 = .ret v/\P o.2.2):∃R1,nF sp pw n f pos kw R=some (v,R1)/\P R1:=by
 obtain⟨⟨g,σ',R'⟩,h4,h5,h6⟩:=h3
 cases h5
 exact⟨R',dc h1 (dc h2 (bl (k:=λf y=>L1 f y.2) h4 rfl)),h6⟩
theorem KR{sp:Spec}{n:Nat}{cx:Cx}{σ σ1:bq}{R:List aO}{e:bE}{f:Str}{p1 p2 p3 p4:dN}{x:PV}(h:ev sp (n+2) cx e σ R=some (x,R))(hd:rV e=none)(hs:qG cx σ f (.obj (R.length+1))=some σ1) :
  ex sp (n+7) cx (.Assign [.Name f p1] (.List [e,.List [] p2] p3) p4) σ R=some (.next,σ1,R++([.lst []]:List aO)++([.lst [x,.obj R.length]]:List aO)):=by
 have h1:evm sp (n+3) cx e σ R=some (x,R):=MS hd h
 have h2:evms sp (n+4) cx [e,.List [] p2] σ R=some ([x,.obj R.length],R++([.lst []]:List aO)):=bl (k:=λv R1=>bnd ((kI sp (n+3)).evms cx [.List [] p2] σ R1) λvs R2=>some (v::vs,R2)) h1 rfl
 have h3:evm sp (n+5) cx (.List [e,.List [] p2] p3) σ R=some (.obj (R++([.lst []]:List aO)).length,R++([.lst []]:List aO)++([.lst [x,.obj R.length]]:List aO)):=by
  exact dc (d:=ev sp (n+4) cx (.List [e,.List [] p2] p3) σ R) (k:=λes=>bnd ((kI sp (n+4)).evms cx es σ R) λvs R1=>grd (decide (vs.length<=SZ)) (some (PV.obj R1.length,R1++[aO.lst vs]))) (a:=[e,.List [] p2]) rfl (bl h2 rfl)
 rw [ai]at h3
 refine Cp (ak0:=.disp f) rfl ?_
 delta Fu
 exact bl h3 (dc hs rfl)
theorem wA(V:List cO)(v:cO)(h:gY (fq V) [v]=[]):(RV V).set 1 (.lst (gU 0 V++gU (fq V) [v]))=RV (V++[v]):=by
 show aO.tab :: .lst _ :: .lst _::gY 0 V=_
 unfold RV
 rw [mE,mD,dU,h,aP]
theorem N4(V:List cO)(w:LS)(ws:List LS):(RV (V++[.sub w ws]))[3+2*fq V]? = some (.lst (ws.map .str))/\(RV (V++[.sub w ws]))[4+2*fq V]? = some (.lst [.str w,.obj (3+2*fq V)]):=by
 have e:RV (V++[.sub w ws])=(.tab :: .lst (gU 0 (V++[.sub w ws])) :: .lst [.str eI,.obj 1]::gY 0 V)++[.lst (ws.map .str),.lst [.str w,.obj (3+2*fq V)]]:=by
  unfold RV
  rw [mD,dU];rfl
 have hl:(.tab :: .lst (gU 0 (V++[.sub w ws])) :: .lst [.str eI,.obj 1]::gY 0 V:List aO).length=3+2*fq V:=by
  simp only [aq,oB];exact MW
 rw [e]
 constructor
 ·rw [bH (by exact SH hl),hl,eW];rfl
 ·rw [bH (by exact SG hl),hl,show 4+2*fq V-(3+2*fq V)=1 by exact SF];rfl
theorem JT(V:List cO)(w:LS)(ws:List LS)(x:LS):(RV (V++[.sub w ws])).set (3+2*fq V) (.lst (ws.map .str++[.str x]))=RV (V++[.sub w (ws++[x])]):=by
 have e:∀ws,RV (V++[.sub w ws])=(.tab :: .lst (gU 0 (V++[.sub w []])) :: .lst [.str eI,.obj 1]::gY 0 V) ++ .lst (ws.map .str)::[.lst [.str w,.obj (3+2*fq V)]]:=by
  intro ws
  unfold RV
  rw [mD,mE,mE,dU];rfl
 have hl:(.tab :: .lst (gU 0 (V++[.sub w []])) :: .lst [.str eI,.obj 1]::gY 0 V:List aO).length=3+2*fq V:=by
  simp only [aq,oB];exact MW
 rw [e ws,e (ws++[x]),<-hl,CX,bV];rfl
theorem IR(V:List cO):(RV V).length=3+2*fq V:=by
 show(gY 0 V).length+1+1+1=_
 rw [oB];exact MW
noncomputable abbrev RX(V:List cO)(w:LS):List aO:=RV V++([.lst []]:List aO)++([.lst [.str w,.obj (3+2*fq V)]]:List aO)
noncomputable def vk(s:VS):Nat:=match s.2 with
 | none=>0
 | some (_,ws)=>ws.length
noncomputable abbrev Bm(S v:PV)(tl:bq):bq:=("script",S)::("first",.obj 2)::("vote",v)::tl
theorem NL{k:Nat}{ns:List Int}(hn:ns.length<=63):dP (k+2) 906 [.list (ns.map .int)] (.list [.str eI,.list ((fc ns).map jm)]):=by
 intro R hR
 have hS:SZ=1000000:=rfl
 have hres:noObj (.list [.str eI,.list ((fc ns).map jm)])=true:=by
  show(true&&(bz ((fc ns).map jm)&&true))=true
  rw [bN λv ζ=>?_]at ⊢
  ·rfl
  ·cases v with
   | way w=>rfl
   | sub w ws=>show(true&&(bz (ws.map .str)&&true))=true;rw [bG];rfl
 suffices h:∃R1,nF (fG (k+1)) pw 400 906 [.list (ns.map .int)] [] [.tab]=some (.list [.str eI,.list ((fc ns).map jm)],R1)/\lP R1=true by
  obtain⟨R1,h1,h2⟩:=h
  exact dY h1 (by show(bz (ns.map .int)&&true)=true;rw [bN (f:=PV.int) λζ ζ=>rfl];rfl) hres h2 hR
 refine J2 (P:=λR=>lP R=true) (fi:=⟨br (aK pw 52),[]⟩) (σ:=[("script",.list (ns.map .int))]) ∅ ∅ ?_
 refine aR [("script",.list (ns.map .int)),("first",.obj 2)] (R1:=RV []) ∅ ?_
 refine aR (Bm (.list (ns.map .int)) (.obj 2) []) (R1:=RV []) ∅ ?_
 refine gB (xs:=(lU++ns.take 5).map .int) (σ1:=Bm (.list (ns.map .int)) (.obj 2) []) (R1:=RV []) (fV (jw (x:=.list (lU.map .int)) (y:=.list ((ns.take 5).map .int)) (R1:=RV []) ∅ (B8 (b:=.list ((ns.map PV.int).take 5)) ∅ (by rw [qv])) ∅ ?_) ∅ ∅) ∅ ?_
 ·refine(uD (l:=lU.map PV.int++(ns.take 5).map PV.int) ?_).trans (by rw [<-bV])
  rw [ai,ae,ae,cD]
  have:lU.length=3:=rfl
  exact SE hS this
 refine ii (λxs σ R=>∃(rest:List Int) (s:VS) (tl:bq),xs=rest.map .int/\rest.foldl dw s=(lU++ns.take 5).foldl dw ([],none)/\(tl=[] \/ ∃a b,tl=([("x",a),("kind",b)]:bq))/\σ=Bm (.list (ns.map .int)) (N5 s) tl/\R=RV (ez s)/\(ez s).length+vk s+rest.length<=16) ?_ ?_ _ _ _ ⟨lU++ns.take 5,([],none),[],rfl,rfl,av rfl,rfl,rfl,?_⟩
 ·rintro x xs σ R ⟨rest,s,tl,h1,h2,h3,rfl,rfl,h6⟩
  cases rest with
  | nil=>cases h1
  | cons y rest=>
   simp only [aN,dF]at h1
   obtain⟨rfl,rfl⟩:=h1
   rw [aq]at h6
   have h2':rest.foldl dw (dw s y)=(lU++ns.take 5).foldl dw ([],none):=h2
   refine jn (Bm (.list (ns.map .int)) (N5 s) (("x",.int y)::(match tl with | []=>[] | _::r=>r))) (by rcases h3 with rfl | ⟨a,b,rfl⟩<;>kernel_rfl) ?_
   refine b8 (.int (fP y:Int)) (Bm (.list (ns.map .int)) (N5 s) [("x",.int y),("kind",.int (fP y:Int))]) (R1:=RV (ez s)) (B8 (b:=.int (pX (kE (y.natAbs:Int) (10:Nat)) (10:Nat))) (by rcases h3 with rfl | ⟨a,b,rfl⟩<;>kernel_rfl) (by rw [j9,oA];rfl)) ∅ ∅ (by rcases h3 with rfl | ⟨a,b,rfl⟩<;>kernel_rfl) ?_
   have fin:∀(Φ:St->Prop) (s':VS),dw s y=s'->(ez s').length+vk s'<=(ez s).length+vk s+1->CC (λxs σ R=>∃(rest:List Int) (s:VS) (tl:bq),xs=rest.map .int/\rest.foldl dw s=(lU++ns.take 5).foldl dw ([],none)/\(tl=[] \/ ∃a b,tl=([("x",a),("kind",b)]:bq))/\σ=Bm (.list (ns.map .int)) (N5 s) tl/\R=RV (ez s)/\(ez s).length+vk s+rest.length<=16) (rest.map .int) Φ (.next,Bm (.list (ns.map .int)) (N5 s') [("x",.int y),("kind",.int (fP y:Int))],RV (ez s')):=by
    rintro Φ s' rfl hb
    exact⟨rest,dw s y,_,rfl,h2',an ⟨_,_,rfl⟩,rfl,rfl,by exact SD h6 hb⟩
   by_cases k7:7<fP y
   ·refine jp (Bm (.list (ns.map .int)) (.obj 2) [("x",.int y),("kind",.int (fP y:Int))]) (R1:=RV (ez s)) (ff (R1:=RV (ez s)) (m7 (b:=decide ((fP y:Int)>7)) ∅ (by rw [decide_eq_true_eq];exact SA k7)) (aR _ ∅ (aX (aX rfl)))) ?_
    have hv:dw s y=(ez s++[.way (gu y)],none):=if_pos k7
    refine jp (Bm (.list (ns.map .int)) (.obj 2) [("x",.int y),("kind",.int (fP y:Int))]) (R1:=RV (ez s++[.way (gu y)])) ?_ (aX (fin _ _ hv (by show(ez s++[cO.way (gu y)]).length+0<=_;rw [ai];show _+1+0<=_;exact O9)))
    refine cQ (R1:=RV (ez s)) (qb (R1:=RV (ez s)) (m7 (b:=(fP y:Int)==6) ∅ (beq_eq_false_iff_ne.mpr (by exact Sz k7))) (m6 (R1:=RV (ez s)) (m7 (b:=(fP y:Int)==7) ∅ (beq_eq_false_iff_ne.mpr (by exact Sy k7))) ∅)) ?_
    refine aR _ (R1:=RV (ez s++[.way (gu y)])) (gE ?_) (aX (aX rfl))
    rw [<-wA (ez s) (.way (gu y)) rfl]
    exact ei (x:=.obj 1) (as:=[.str (gu y)]) (R1:=RV (ez s)) (R2:=RV (ez s)) ∅ ∅ (fh (ej (g:=899) (as:=[.int y]) (R1:=RV (ez s)) ∅ ∅ ∅ ∅ (Dq (xO _)))) (dq (l:=gU 0 (ez s)) rfl rfl (by rw [oC];exact O8 hS h6))
   ·refine jp (Bm (.list (ns.map .int)) (N5 s) [("x",.int y),("kind",.int (fP y:Int))]) (R1:=RV (ez s)) (cQ (R1:=RV (ez s)) (m7 (b:=decide ((fP y:Int)>7)) ∅ (by rw [decide_eq_false_iff_not];exact Sx k7)) (aX (aX rfl))) ?_
    by_cases k6:fP y=6\/fP y=7
    ·have hv:dw s y=(ez s,some (gu y,[])):=by unfold dw;rw [if_neg k7,if_pos k6]
     refine jp (Bm (.list (ns.map .int)) (.obj (4+2*fq (ez s))) [("x",.int y),("kind",.int (fP y:Int))]) (R1:=RV (ez s++[.sub (gu y) []])) ?_ (aX (fin _ _ hv (by show(ez s++[cO.sub (gu y) []]).length+0<=_;rw [ai];show _+1+0<=_;exact O9)))
     refine ff (R1:=RV (ez s)) ?_ ?_
     ·rcases k6 with k6 | k6
      ·exact A9 (m7 (b:=(fP y:Int)==6) ∅ (by rw [k6];rfl))
      ·exact qb (R1:=RV (ez s)) (m7 (b:=(fP y:Int)==6) ∅ (by rw [k6];rfl)) (JG (m7 (b:=(fP y:Int)==7) ∅ (by rw [k6];rfl)))
     have hl:=IR (ez s)
     refine aR (Bm (.list (ns.map .int)) (.obj (4+2*fq (ez s))) [("x",.int y),("kind",.int (fP y:Int))]) (KR (x:=.str (gu y)) (ej (g:=899) (as:=[.int y]) (R1:=RV (ez s)) ∅ ∅ ∅ ∅ (Dq (xO _))) ∅ (by rw [hl,show 3+2*fq (ez s)+1=4+2*fq (ez s) by exact Pa];kernel_rfl)) ?_
     refine aR _ (R1:=RV (ez s++[.sub (gu y) []])) (gE ?_) (aX (aX rfl))
     rw [hl]
     have e2:RV (ez s++[.sub (gu y) []])=(RX (ez s) (gu y)).set 1 (.lst (gU 0 (ez s)++[.obj (4+2*fq (ez s))])):=by
      show aO.tab :: .lst _ :: .lst _::gY 0 _=aO.tab :: .lst _ :: .lst _::(gY 0 (ez s)++([.lst []]:List aO)++([.lst [.str (gu y),.obj (3+2*fq (ez s))]]:List aO))
      rw [mE,mD,dU,aQ];rfl
     rw [e2]
     exact ei (x:=.obj 1) (as:=[.obj (4+2*fq (ez s))]) (R1:=RX (ez s) (gu y)) (R2:=RX (ez s) (gu y)) ∅ ∅ ∅ (dq (l:=gU 0 (ez s)) rfl rfl (by rw [oC];exact O8 hS h6))
    ·have n6:¬fP y=6:=λq=>k6 (av q)
     have n7:¬fP y=7:=λq=>k6 (an q)
     obtain⟨V,cur⟩:=s
     cases cur with
     | none=>
      have hv:dw (V,none) y=(V++[.way (gu y)],none):=by unfold dw;rw [if_neg k7,if_neg k6]
      refine jp (Bm (.list (ns.map .int)) (.obj 2) [("x",.int y),("kind",.int (fP y:Int))]) (R1:=RV (V++[.way (gu y)])) ?_ (aX (fin _ _ hv (by show(V++[cO.way (gu y)]).length+0<=V.length+0+1;rw [ai];exact aF _)))
      refine cQ (R1:=RV V) (qb (R1:=RV V) (m7 (b:=(fP y:Int)==6) ∅ (beq_eq_false_iff_ne.mpr (by exact O0 n6))) (m6 (R1:=RV V) (m7 (b:=(fP y:Int)==7) ∅ (beq_eq_false_iff_ne.mpr (by exact OZ n7))) ∅)) ?_
      refine aR _ (R1:=RV (V++[.way (gu y)])) (gE ?_) (aX (aX rfl))
      rw [<-wA V (.way (gu y)) rfl]
      exact ei (x:=.obj 1) (as:=[.str (gu y)]) (R1:=RV V) (R2:=RV V) ∅ ∅ (fh (ej (g:=899) (as:=[.int y]) (R1:=RV V) ∅ ∅ ∅ ∅ (Dq (xO _)))) (dq (l:=gU 0 V) rfl rfl (by rw [oC];have:(ez (V,none)).length=V.length:=rfl;exact Sw hS h6 this))
     | some z=>
      obtain⟨w,ws⟩:=z
      have hv:dw (V,some (w,ws)) y=(V,some (w,ws++[gu y])):=by unfold dw;rw [if_neg k7,if_neg k6]
      obtain⟨a1,a2⟩:=N4 V w ws
      refine jp (Bm (.list (ns.map .int)) (.obj (4+2*fq V)) [("x",.int y),("kind",.int (fP y:Int))]) (R1:=RV (V++[.sub w (ws++[gu y])])) ?_ (aX (fin _ _ hv (by show(V++[cO.sub w (ws++[gu y])]).length+(ws++[gu y]).length<=(V++[cO.sub w ws]).length+ws.length+1;rw [ai,ai,ai];exact aF _)))
      refine cQ (R1:=RV (V++[.sub w ws])) (qb (R1:=RV (V++[.sub w ws])) (m7 (b:=(fP y:Int)==6) ∅ (beq_eq_false_iff_ne.mpr (by exact O0 n6))) (m6 (R1:=RV (V++[.sub w ws])) (m7 (b:=(fP y:Int)==7) ∅ (beq_eq_false_iff_ne.mpr (by exact OZ n7))) ∅)) ?_
      refine aR _ (R1:=RV (V++[.sub w (ws++[gu y])])) (gE ?_) (aX (aX rfl))
      rw [<-JT]
      refine ei (x:=.obj (3+2*fq V)) (as:=[.str (gu y)]) (R1:=RV (V++[.sub w ws])) (R2:=RV (V++[.sub w ws])) ∅ (mn (x:=.obj (4+2*fq V)) (R1:=RV (V++[.sub w ws])) ∅ ∅ ?_) (fh (ej (g:=899) (as:=[.int y]) (R1:=RV (V++[.sub w ws])) ∅ ∅ ∅ ∅ (Dq (xO _)))) (dq (l:=ws.map .str) a1 a1 ?_)
      ·refine cU (b:=fO (wV (RV (V++[.sub w ws])) (.obj (4+2*fq V)) 1) (RV (V++[.sub w ws]))) ∅ (gT (o:=wV (RV (V++[.sub w ws])) (.obj (4+2*fq V)) 1) (dc (k:=λl=>iB l 1) (show lK (RV (V++[.sub w ws])) (.obj (4+2*fq V))=some [.str w,.obj (3+2*fq V)] by unfold lK;simp only [a2];rfl) rfl))
      ·rw [ae]
       have:vk (V,some (w,ws))=ws.length:=rfl
       exact Sv hS h6 this
 ·rintro σ R ⟨rest,s,tl,h1,h2,h3,rfl,rfl,h6⟩
  cases rest with
  | cons y rest=>cases h1
  | nil=>
   have hs:ez s=fc ns:=by show ez (List.foldl dw s [])=_;rw [h2];rfl
   rw [hs]
   have hcalm:yq [.tab,.dead,.dead]:=λd hd=>by simp only [aw,bJ,or_false]at hd;rcases hd with rfl | rfl | rfl<;>simp
   have hcalm2:yq [.tab,.dead]:=λd hd=>by simp only [aw,bJ,or_false]at hd;rcases hd with rfl | rfl<;>simp
   have hcalm1:yq [.tab]:=λd hd=>by simp only [aw,bJ,or_false]at hd;exact av hd
   generalize hσ:Bm (.list (ns.map .int)) (N5 s) tl=σ
   obtain⟨D',c1,c2,c3⟩:=xY (fc ns) 0 (kZ 2 [.str eI,.list (gU 0 (fc ns))] (kZ 1 (gU 0 (fc ns)) σ)) [.tab,.dead,.dead] rfl hcalm
   have hfr:uX (below 1 (RV (fc ns)).length) σ (RV (fc ns))=(((kZ 2 [.str eI,.list (gU 0 (fc ns))] (kZ 1 (gU 0 (fc ns)) σ))).map λx=>(x.1,BZ 0 (fc ns) x.2),D'):=by
    rw [IR,nr (by exact Su),nr (by exact Ss),<-c3]
    refine(ra (k:=1) (D:=[.tab]) (l:=gU 0 (fc ns)) (r:=.lst [.str eI,.obj 1]::gY 0 (fc ns)) (r':=.lst [.str eI,.list (gU 0 (fc ns))]::gY 0 (fc ns)) rfl hcalm1 ?_).trans ?_
    ·show aO.lst [.str eI,.list _]::(gY 0 (fc ns)).map _=_
     rw [mx _ 0 (by decide)]
    ·exact(ra (k:=2) (D:=[.tab,.dead]) (l:=[.str eI,.list (gU 0 (fc ns))]) (r:=gY 0 (fc ns)) (r':=gY 0 (fc ns)) rfl hcalm2 (mx _ 0 (by decide))).trans rfl
   refine cP (.list [.str eI,.list ((fc ns).map jm)]) (R1:=D') ?_ ⟨rfl,by show lP D'=true;unfold lP;rw [c2];rfl⟩
   show ev _ _ _ _ (uX (below 1 (RV (fc ns)).length) σ (RV (fc ns))).1 (uX (below 1 (RV (fc ns)).length) σ (RV (fc ns))).2=_
   have e:=u8 eI (fc ns) 0 [] rfl
   rw [ew,ew]at e
   rw [hfr,<-e,<-hσ]
   kernel_rfl
 ·rw [ai,cD]
  have:lU.length=3:=rfl
  show 0+0+_<=_
  exact Sr this
end Mine.W
end
section
namespace Mine.W
inductive fw where
 | leaf (r:List LS)
 | node (l:List (List LS))
noncomputable def dd:fw->PV
 | .leaf r=>tupP r
 | .node l=>.list (l.map tupP)
noncomputable def bZ:fw->PV
 | .leaf r=>.str (aG r)
 | .node l=>.list (l.map λr=>.str (aG r))
noncomputable def jR:fw->Bool
 | .leaf _=>false
 | .node _=>true
noncomputable def b6:fw->List LS
 | .leaf r=>r
 | .node l=>bw l
noncomputable def ge:fw->List (List LS)
 | .leaf r=>[r]
 | .node l=>l
noncomputable def zA:fw->List fw
 | .leaf _=>[]
 | .node l=>l.map .leaf
noncomputable def oE(fs:List (List LS))(f:List LS):List (List LS):=bif fs.any (λx=>x==f)then fs else fs++[f]
noncomputable def gK(rows:List fw):List (List LS):=(rows.flatMap ge).foldl oE []
noncomputable def GU(rows:List fw):List (List fw):=rows::(rows.filter jR).map zA
structure Au(k:Nat)(fars:List (List LS))(own:List fw):Prop where
 len:own.length<60
 met:dP k 952 [.list (own.map bZ)] (.str (aG (bw (own.map b6))))
 val:dP k 947 [.list (own.map dd)] (tupP (bw (own.map b6)))
 txt:cc (bw (own.map b6))<=300000
 inn:∀l,.node l∈own->dP k 947 [.list (l.map tupP)] (tupP (bw l))
 flen:∀far∈fars,far.length<10000/\cc far<=300000
 seen:∀far∈fars,∃ss:List LS,ss≠[]/\ss.length<64/\dP k 959 [.list (own.map bZ),.str (aG far)] (.list (ss.map .str))/\mJ [aG (bw (own.map b6)),aG far]/\Aq ss ((ss.length-1) / 2)=tR [aG (bw (own.map b6)),aG far]/\Aq ss (ss.length / 2)=aG (d4 (own.map b6) far ((own.length+1) / 2))
theorem xf:∀(l:List LS),mG (l.map .str) (l.map .str)=true:=λl=>by rw [sd,beq_self_eq_true]
theorem Ie(r:fw):uA 5 (bZ r)=true/\yv (bZ r) (bZ r)=true:=by
 cases r with
 | leaf r=>exact⟨rfl,beq_self_eq_true _⟩
 | node l=>
  have e:l.map (λr=>PV.str (aG r))=(l.map aG).map .str:=by rw [aI];rfl
  constructor
  ·show ol 4 (l.map λr=>PV.str (aG r))=true
   rw [e]
   induction l.map aG with
   | nil=>rfl
   | cons x l ih=>exact ih
  ·show mG _ _=true
   rw [e];exact xf _
theorem DA(rows:List fw):AF (.list (rows.map bZ)) (.list (rows.map bZ))=some true:=by
 have h:ol 5 (rows.map bZ)=true/\mG (rows.map bZ) (rows.map bZ)=true:=by
  induction rows with
  | nil=>exact⟨rfl,rfl⟩
  | cons r rows ih=>
   obtain⟨a,b⟩:=Ie r
   constructor
   ·show(uA 5 (bZ r)&&ol 5 (rows.map bZ))=true;rw [a,ih.1];rfl
   ·show(yv (bZ r) (bZ r)&&mG (rows.map bZ) (rows.map bZ))=true;rw [b,ih.2];rfl
 unfold AF
 show(if(ol 5 (rows.map bZ)&&ol 5 (rows.map bZ))=true then _ else _)=_
 rw [h.1]
 show some (mG _ _)=_
 rw [h.2]
theorem K2(ss:List LS):AF (.list (ss.map .str)) (.list (ss.map .str))=some true:=by
 have h:=DA [.node []]
 have h1:ol 5 (ss.map PV.str)=true:=by
  induction ss with
  | nil=>rfl
  | cons x l ih=>exact ih
 unfold AF
 show(if(ol 5 (ss.map PV.str)&&ol 5 (ss.map PV.str))=true then some (mG (ss.map PV.str) (ss.map PV.str))else _)=_
 rw [h1,xf]
 rfl
theorem KA(fs:List (List LS))(f:List LS)(R:List aO)(v:PV)(h:lK R v=some (fs.map tupP))(hv:∀s,v ≠ .str s):Nu R (tupP f) v=some (fs.any λx=>x==f):=by
 have h1:(fs.map tupP).all (uA 6)=true:=by
  rw [List.all_map,bu]
  exact λx ζ=>tH 5 x
 refine dc h (fU (by rw [tH,h1];rfl) ?_)
 rw [List.any_map]
 congr 2
 funext x
 exact sd x f
theorem rP{α:Type}(l:List α)(d:α)(g:α->PV){i:Nat}(h:i<l.length):iB (l.map g) (i:Int)=some (g (l.getD i d)):=by
 rw [mz,jE,dg,bR h];rfl
theorem Ek{α:Type}(l:List α)(d:α):(cM l.length).map (λi=>l.getD i d)=l:=by
 apply Jh
 ·rw [ae,hU]
 ·intro i h1 h2
  rw [List.getElem_map,List.getElem_range,dg,bR h2];rfl
theorem BY{α:Type}(l:List α)(d:α)(p:α->Bool):((cM l.length).filter λi=>p (l.getD i d)).map (λi=>l.getD i d)=l.filter p:=by
 have:=vF (f:=λi=>l.getD i d) (p:=p) (l:=cM l.length)
 rw [Ek]at this
 exact this.symm
theorem yc{sp:Spec}{n:Nat}{cx:Cx}{σ:bq}{R R1:List aO}{es:List bE}{vs:List PV}{p:dN}(h:evs sp n cx es σ R=some (vs,R1))(hl:vs.length<=SZ):ev sp (n+1) cx (.List es p) σ R=some (.list vs,R1):=by
 exact bl (k:=λl R1=>fO (mkL l) R1) h (gT (uD hl))
theorem uB{R:List aO}{a:PV}(h:AF a a=some true):td R .NotEq a a=some false:=by
 show(AF a a).map not=_
 rw [h];rfl
theorem B9(s:LS):AF (.str s) (.str s)=some true:=by
 show some (s==s)=_
 rw [beq_self_eq_true]
noncomputable abbrev QW(S V r pl:PV)(tl:bq):bq:=("script",S)::("vote",V)::("rows",r)::("places",pl)::tl
noncomputable abbrev ya(fs:List (List LS)):PV:=.list (fs.map tupP)
section
variable {k:Nat} {S V:PV} {rows:List fw} {fs:List (List LS)}
noncomputable abbrev DB:Cx:=⟨(br (aK pw 62)).scope.names,1⟩
noncomputable def IG:List ip:=match (br (aK pw 62)).body.getD 7 bO with
 | .For _ _ b _ _=>b
 | _=>[]
noncomputable def L9:List ip:=match IG.getD 3 bO with
 | .For _ _ b _ _=>b
 | _=>[]
noncomputable abbrev yL(S V:PV)(rows:List fw)(F a b I:PV)(tl:bq):bq:=QW S V (.list (rows.map dd)) (.list (rows.map bZ)) (("fars",F)::("row",a)::("far",b)::("inner",I)::tl)
theorem Ko{a b b0 I:PV}{own:List fw}{far:List LS}{e:bq}{R:List aO}(hR:R=[.tab,.dead])(he:e=[] \/ ∃s t,e=([("seen",s),("kept",t)]:bq))(ho:Au (k+5) fs own)(hf:far∈fs)(hn:own≠[]) :
  ∃s t,oF (fG (k+5)) 386 DB L9 (yL S V rows (ya fs) a (tupP far) I (("held",.list (own.map bZ))::("own",.list (own.map dd))::("flat",.list ((own.map b6).map tupP))::("met",.str (aG (bw (own.map b6))))::e)) R λo=>o=(.next,yL S V rows (ya fs) a (tupP far) I (("held",.list (own.map bZ))::("own",.list (own.map dd))::("flat",.list ((own.map b6).map tupP))::("met",.str (aG (bw (own.map b6))))::("seen",s)::("kept",t)::[]),R):=by
 subst hR
 obtain⟨ss,s1,s2,s3,s4,s5,s6⟩:=ho.seen far hf
 obtain⟨l1,l2⟩:=ho.flen far hf
 obtain⟨c1,c2,c3,c4,c5⟩:=s4
 refine⟨.list (ss.map .str),.list (ss.map .str),?_⟩
 have hlen:=ho.len
 have T:∀{n:Nat} {σ:bq} {R:List aO} {fp p:dN} {e:bE} {r:List LS},wE R=true->cc r<=300000->ev (fG (k+5)) (n+1) DB e σ R=some (tupP r,R)->ev (fG (k+5)) (n+4) DB (.Call (.Name "_law_text" fp) [e] [] p) σ R=some (.str (aG r),R):=
  λhR hs he=>ej (g:=937) (as:=[tupP _]) ∅ ∅ ∅ (fh he) (tN hs hR)
 refine b8 (.list (ss.map .str)) (yL S V rows (ya fs) a (tupP far) I (("held",.list (own.map bZ))::("own",.list (own.map dd))::("flat",.list ((own.map b6).map tupP))::("met",.str (aG (bw (own.map b6))))::("seen",.list (ss.map .str))::e.drop 1)) (R1:=[.tab,.dead]) (ej (g:=959) (as:=[.list (own.map bZ),.str (aG far)]) (R1:=[.tab,.dead]) ∅ ∅ ∅ (oY ∅ (T rfl l2 ∅)) (s3 _ rfl)) ∅ ∅ (by rcases he with rfl | ⟨s,t,rfl⟩<;>kernel_rfl) ?_
 have cm:∀{n:Nat} {σ:bq} {e1 e2:bE},ev (fG (k+5)) (n+5) DB e1 σ [.tab,.dead]=some (.str (aG (bw (own.map b6))),[.tab,.dead])->ev (fG (k+5)) (n+1) DB e2 σ [.tab,.dead]=some (tupP far,[.tab,.dead])->∀(lp p q fp pp:dN),ev (fG (k+5)) (n+10) DB (.Call (.Name "commonpath" fp) [.List [e1,.Call (.Name "_law_text" lp) [e2] [] q] p] [] pp) σ [.tab,.dead]=some (.str (tR [aG (bw (own.map b6)),aG far]),[.tab,.dead]):=λh1 h2 lp p q fp pp=>by
  refine ej (g:=184) (as:=[.list ([aG (bw (own.map b6)),aG far].map .str)]) (R1:=[.tab,.dead]) ∅ ∅ ∅ (fh (yc (oY h1 (T rfl l2 h2)) ?_)) (u9 c1 c2 c3 c4 c5 _ rfl)
  exact bv rfl
 refine aR (yL S V rows (ya fs) a (tupP far) I (("held",.list (own.map bZ))::("own",.list (own.map dd))::("flat",.list ((own.map b6).map tupP))::("met",.str (aG (bw (own.map b6))))::("seen",.list (ss.map .str))::("kept",.list (ss.map .str))::[])) (R1:=[.tab,.dead]) (by rcases he with rfl | ⟨s,t,rfl⟩<;>kernel_rfl) ?_
 refine cQ (R1:=[.tab,.dead]) (i9 (x:=.str (tR [aG (bw (own.map b6)),aG far])) (y:=.str (tR [aG (bw (own.map b6)),aG far])) (R1:=[.tab,.dead]) ∅ (ej (g:=64) (as:=[.list (ss.map .str)]) (R1:=[.tab,.dead]) ∅ ∅ ∅ ∅ (by rw [<-s5];exact LV s1 s2 _ rfl)) (cm ∅ ∅ _ _ _ _ _) (uB (B9 _))) (aX ?_)
 have hfl:d4 (own.map b6) far ((own.length+1) / 2)=far.take (gf (own.map b6) far ((own.length+1) / 2) far.length):=rfl
 have hpos:0<own.length:=b5.mpr hn
 have hfs:cc (d4 (own.map b6) far ((own.length+1) / 2))<=300000:=by
  refine ah ?_ l2
  have:=gA (far.take (gf (own.map b6) far ((own.length+1) / 2) far.length)) (far.drop (gf (own.map b6) far ((own.length+1) / 2) far.length))
  rw [jZ]at this
  rw [hfl];exact Sq this
 refine cQ (R1:=[.tab,.dead]) (qb (R1:=[.tab,.dead]) (i9 (x:=.str (aG (d4 (own.map b6) far ((own.length+1) / 2)))) (y:=.str (aG (d4 (own.map b6) far ((own.length+1) / 2)))) (R1:=[.tab,.dead]) ∅ (ej (g:=71) (as:=[.list (ss.map .str)]) (R1:=[.tab,.dead]) ∅ ∅ ∅ ∅ (by rw [<-s6];exact NQ s1 s2 _ rfl)) (T rfl hfs (ej (g:=942) (as:=[.list ((own.map b6).map tupP),tupP far,.int (((own.length+1) / 2:Nat):Int)]) (R1:=[.tab,.dead]) ∅ ∅ ∅ ?_ (Dx (by rw [ae];exact Sp) l1 (by rw [ae];exact So hlen) _ rfl))) (uB (B9 _))) (m6 (R1:=[.tab,.dead]) (i9 (x:=.list (ss.map .str)) (y:=.list (ss.map .str)) (R1:=[.tab,.dead]) ∅ ∅ ∅ (uB (K2 _))) ∅)) (aX (aX rfl))
 refine cU (b:=some ([.list ((own.map b6).map tupP),tupP far,.int (kE (((((own.map b6).map tupP).length:Nat):Int)+1) (2:Nat))],[.tab,.dead])) ∅ ?_
 rw [ae,ae,show(own.length:Int)+1=((own.length+1:Nat):Int)from rfl,j9]
end
end Mine.W
end
section
namespace Mine.W
theorem E4{sp:Spec}{n k:Nat}{cx:Cx}{σ:bq}{R:List aO}{it:bE}{l:List PV}(h:qR R σ it=some (k,l))(hr:R[k]? = some (.lst l)):forIt sp (n+1) cx it σ R=some (l,kZ k l σ,(R.map (vT k l)).set k .dead):=by
 refine dc h ?_
 show some (l,rb k σ R)=_
 unfold rb
 simp only [hr]
 rfl
theorem QF{k:Nat}{l:List PV}:∀{σ:bq},(∀x∈σ,noObj x.2=true)->kZ k l σ=σ:=by
 intro σ
 induction σ with
 | nil=>
  intro _
  exact rfl
 | cons x σ ih=>
  intro h
  show(x.1,sub k l x.2)::kZ k l σ=_
  rw [kr (h x aj),ih λy hy=>h y (am _ hy)]
theorem lg(r:fw):noObj (dd r)=true:=by
 cases r with
 | leaf r=>exact bG r
 | node l=>exact bN (f:=tupP) λr ζ=>bG r
theorem lM(r:fw):noObj (bZ r)=true:=by
 cases r with
 | leaf r=>rfl
 | node l=>exact bN (f:=λr=>PV.str (aG r)) λr ζ=>rfl
section
variable {k:Nat} {S V:PV} {rows:List fw} {fs:List (List LS)}
theorem He{α:Type}{f:List aO->PV->Option (Option PV × List aO)}{F G:α->PV}{R:List aO}:∀{l:List α},(∀a∈l,f R (F a)=some (some (G a),R))->mj f (l.map F) R=some (l.map G,R):=by
 intro l
 induction l with
 | nil=>
  intro _
  exact rfl
 | cons x r ih=>
  intro h
  have ih:=ih λy hy=>h y (am _ hy)
  rw [aN]
  exact bl (h x aj) (bl ih rfl)
theorem xd{α:Type}{sp:Spec}{n:Nat}{cx:Cx}{σ:bq}{R R1:List aO}{t it elt:bE}{sc:Scope}{l:List α}(F G:α->PV)(hc:(cL t && !iH cx it&&qI cx σ sc)=true)(hi:itv sp (n+1) cx it σ R=some (l.map F,R1))
  (h:∀x∈l,∃σ',iC ⟨sc.names,cx.base⟩ t (F x) (eT sc.names σ)=some σ'/\ev sp (n+1) ⟨sc.names,cx.base⟩ elt σ' R1=some (G x,R1)) :
  cmpv sp (n+2) cx elt [⟨t,it,[],0⟩] sc σ R=some (l.map G,R1):=by
 refine ym hc hi (He λx hx=>?_)
 obtain⟨σ',k1,k2⟩:=h x hx
 exact dc k1 (bl (show(kI sp (n+1)).tvs ⟨sc.names,cx.base⟩ .And [] σ' R1=some (true,R1)from rfl) (An rfl (bl k2 rfl)))
noncomputable abbrev vh(S V:PV)(rows:List fw)(fs:List (List LS))(a b I:PV)(own:List fw)(e:bq):bq:=yL S V rows (ya fs) a b I (("held",.list (own.map bZ))::("own",.list (own.map dd))::("flat",.list ((own.map b6).map tupP))::("met",.str (aG (bw (own.map b6))))::e)
theorem De{a b I:PV}{own:List fw}{σ:bq}{R:List aO}(ho:Au (k+5) fs own)(hn:own≠[])(hf:fs≠[])(hS:noObj S=true)(hV:noObj V=true)(ha:noObj a=true)(hb:noObj b=true)(hI:noObj I=true)
  (hσ:(σ=yL S V rows (.obj 1) a b I [("held",.list (own.map bZ)),("own",.list (own.map dd))]/\R=[.tab,.lst (fs.map tupP)])\/(∃f0 m0 s0 t0,σ=yL S V rows (ya fs) a b I [("held",.list (own.map bZ)),("own",.list (own.map dd)),("flat",f0),("met",m0),("seen",s0),("kept",t0)]/\R=[.tab,.dead])) :
  ∃b' s t,noObj b'=true/\oF (fG (k+5)) 391 DB IG σ R λo=>o=(.next,vh S V rows fs a b' I own [("seen",s),("kept",t)],[.tab,.dead]):=by
 suffices h:oF (fG (k+5)) 391 DB IG σ R λo=>∃b' s t,noObj b'=true/\o=(.next,vh S V rows fs a b' I own [("seen",s),("kept",t)],[.tab,.dead]) by
  obtain⟨z,h1,b',s,t,h2,h3⟩:=h
  exact⟨b',s,t,h2,z,h1,h3⟩
 have hlen:=ho.len
 have hSZ:SZ=1000000:=rfl
 have hR:wE R=true:=by rcases hσ with ⟨rfl,rfl⟩ | ⟨f0,m0,s0,t0,rfl,rfl⟩<;>rfl
 have flat:∀r∈own,∀{n:Nat} {cx:Cx} {σ:bq} {fp p:dN} {t c d:bE},gl cx ("_law_value":Str)=true->ev (fG (k+5)) (n+1) cx d σ R=some (dd r,R)->ev (fG (k+5)) (n+4) cx c σ R=some (dd r,R)->tv (fG (k+5)) (n+4) cx t σ R=some (!jR r,R)->∀pp,ev (fG (k+5)) (n+5) cx (.IfExp t c (.Call (.Name "_law_value" fp) [d] [] p) pp) σ R=some (tupP (b6 r),R):=by
  intro r hr n cx σ fp p t c d h0 h1 h2 h3 pp
  cases r with
  | leaf r=>exact ka h3 h2
  | node l=>exact ka h3 (ej (n:=n+2) (g:=947) (as:=[.list (l.map tupP)]) (R1:=R) h0 ∅ ∅ (fh h1) (ho.inn l hr _ hR))
 obtain⟨σ1,h1,h2⟩:∃σ1,iC DB (.Name "flat" bO) (.list ((own.map b6).map tupP)) σ=some σ1/\((σ1=yL S V rows (.obj 1) a b I [("held",.list (own.map bZ)),("own",.list (own.map dd)),("flat",.list ((own.map b6).map tupP))]/\R=[.tab,.lst (fs.map tupP)])\/(∃m0 s0 t0,σ1=yL S V rows (ya fs) a b I [("held",.list (own.map bZ)),("own",.list (own.map dd)),("flat",.list ((own.map b6).map tupP)),("met",m0),("seen",s0),("kept",t0)]/\R=[.tab,.dead])):=by
  rcases hσ with ⟨rfl,rfl⟩ | ⟨f0,m0,s0,t0,rfl,rfl⟩
  ·exact⟨_,∅,av ⟨rfl,rfl⟩⟩
  ·exact⟨_,∅,an ⟨m0,s0,t0,rfl,rfl⟩⟩
 refine b8 (σ1:=σ1) (.list ((own.map b6).map tupP)) (R1:=R) (gb ?_ (by rw [ae,ae];exact MV hlen hSZ)) ∅ ∅ h1 ?_
 ·rw [aI]
  refine xd dd (λr=>tupP (b6 r)) (R1:=R) (by rcases hσ with ⟨rfl,rfl⟩ | ⟨f0,m0,s0,t0,rfl,rfl⟩<;>kernel_rfl) (ij (xs:=own.map dd) (by rcases hσ with ⟨rfl,rfl⟩ | ⟨f0,m0,s0,t0,rfl,rfl⟩<;>kernel_rfl) ∅) λr hr=>⟨[("row",dd r)],by rcases hσ with ⟨rfl,rfl⟩ | ⟨f0,m0,s0,t0,rfl,rfl⟩<;>kernel_rfl,flat r hr ∅ ∅ ∅ ?_ _⟩
  cases r<;>kernel_rfl
 obtain⟨σ2,h3,h4⟩:∃σ2,iC DB (.Name "met" bO) (.str (aG (bw (own.map b6)))) σ1=some σ2/\((σ2=yL S V rows (.obj 1) a b I [("held",.list (own.map bZ)),("own",.list (own.map dd)),("flat",.list ((own.map b6).map tupP)),("met",.str (aG (bw (own.map b6))))]/\R=[.tab,.lst (fs.map tupP)])\/(∃s0 t0,σ2=vh S V rows fs a b I own [("seen",s0),("kept",t0)]/\R=[.tab,.dead])):=by
  rcases h2 with ⟨rfl,rfl⟩ | ⟨m0,s0,t0,rfl,rfl⟩
  ·exact⟨_,∅,av ⟨rfl,rfl⟩⟩
  ·exact⟨_,∅,an ⟨s0,t0,rfl,rfl⟩⟩
 refine b8 (σ1:=σ2) (.str (aG (bw (own.map b6)))) (R1:=R) (ej (g:=952) (as:=[.list (own.map bZ)]) (R1:=R) ∅ ∅ ∅ (by rcases h2 with ⟨rfl,rfl⟩ | ⟨m0,s0,t0,rfl,rfl⟩<;>kernel_rfl) (ho.met _ hR)) ∅ ∅ h3 ?_
 refine cQ (R1:=R) (i9 (x:=.str (aG (bw (own.map b6)))) (y:=.str (aG (bw (own.map b6)))) (R1:=R) ∅ (by rcases h4 with ⟨rfl,rfl⟩ | ⟨s0,t0,rfl,rfl⟩<;>kernel_rfl) (ej (g:=937) (as:=[tupP (bw (own.map b6))]) (R1:=R) ∅ ∅ ∅ (fh (ej (g:=947) (as:=[.list (own.map dd)]) (R1:=R) ∅ ∅ ∅ (by rcases h4 with ⟨rfl,rfl⟩ | ⟨s0,t0,rfl,rfl⟩<;>kernel_rfl) (ho.val _ hR))) (tN ho.txt hR)) (uB (B9 _))) (aX ?_)
 have fin:∀e:bq,(e=[] \/ ∃s t,e=([("seen",s),("kept",t)]:bq))->Fx (uh (fG (k+5)) 386 DB (.Name "far" bO) L9) (fs.map tupP) (vh S V rows fs a b I own e) [.tab,.dead] λo=>∃b' s t,noObj b'=true/\o=(.next,vh S V rows fs a b' I own [("seen",s),("kept",t)],[.tab,.dead]):=by
  intro e he
  refine ii (λxs σ R=>∃(rest:List (List LS)) (b:PV) (e:bq),xs=rest.map tupP/\(∀f∈rest,f∈fs)/\noObj b=true/\((e=[]/\rest≠[]) \/ ∃s t,e=([("seen",s),("kept",t)]:bq))/\σ=vh S V rows fs a b I own e/\R=([.tab,.dead]:List aO)) ?_ ?_ _ _ _ ⟨fs,b,e,rfl,λζ h=>h,hb,he.imp (λq=>⟨q,hf⟩) id,rfl,rfl⟩
  ·rintro x xs σ R ⟨rest,b,e,g1,g2,g3,g4,rfl,rfl⟩
   cases rest with
   | nil=>cases g1
   | cons f rest=>
    simp only [aN,dF]at g1
    obtain⟨rfl,rfl⟩:=g1
    obtain⟨s,t,z,g5,g6⟩:=Ko (k:=k) (S:=S) (V:=V) (rows:=rows) (fs:=fs) (a:=a) (I:=I) (own:=own) (far:=f) (e:=e) (R:=[.tab,.dead]) (b:=b) (b0:=b) rfl (g4.imp And.left id) ho (g2 f aj) hn
    refine⟨z,oP (vh S V rows fs a (tupP f) I own e) (by rcases g4 with ⟨rfl,_⟩ | ⟨s,t,rfl⟩<;>kernel_rfl) g5,?_⟩
    subst g6
    exact⟨rest,tupP f,_,rfl,λg hg=>g2 g (am _ hg),bG f,an ⟨s,t,rfl⟩,rfl,rfl⟩
  ·rintro σ R ⟨rest,b,e,g1,g2,g3,g4,rfl,rfl⟩
   cases rest with
   | cons f rest=>cases g1
   | nil=>
    rcases g4 with ⟨_,q⟩ | ⟨s,t,rfl⟩
    ·exact absurd rfl q
    ·exact⟨b,s,t,g3,rfl⟩
 rcases h4 with ⟨rfl,rfl⟩ | ⟨s0,t0,rfl,rfl⟩
 ·refine gB (xs:=fs.map tupP) (σ1:=vh S V rows fs a b I own []) (R1:=[.tab,.dead]) ?_ ∅ ?_
  ·refine(E4 (k:=1) ∅ rfl).trans ?_
   have e1:kZ 1 (fs.map tupP) (yL S V rows (.obj 1) a b I [("held",.list (own.map bZ)),("own",.list (own.map dd)),("flat",.list ((own.map b6).map tupP)),("met",.str (aG (bw (own.map b6))))])=vh S V rows fs a b I own []:=by
    show(_,sub 1 _ S)::(_,sub 1 _ V)::(_,sub 1 _ (PV.list (rows.map dd)))::(_,sub 1 _ (PV.list (rows.map bZ)))::(_,_)::(_,sub 1 _ a)::(_,sub 1 _ b)::(_,sub 1 _ I)::(_,sub 1 _ (PV.list (own.map bZ)))::(_,sub 1 _ (PV.list (own.map dd)))::(_,sub 1 _ (PV.list ((own.map b6).map tupP)))::_=_
    rw [kr hS,kr hV,kr ha,kr hb,kr hI,kr (v:=.list (rows.map dd)) (bN λr ζ=>lg r),kr (v:=.list (rows.map bZ)) (bN λr ζ=>lM r),kr (v:=.list (own.map bZ)) (bN λr ζ=>lM r),kr (v:=.list (own.map dd)) (bN λr ζ=>lg r),kr (v:=.list ((own.map b6).map tupP)) (bN (f:=tupP) λr ζ=>bG r)]
    rfl
   rw [e1]
   rfl
  ·exact(fin [] (av rfl)).elim λz h=>⟨z,h.1,by obtain⟨b',s,t,h5,h6⟩:=h.2;subst h6;exact aX ⟨b',s,t,h5,rfl⟩⟩
 ·refine gB (xs:=fs.map tupP) (σ1:=vh S V rows fs a b I own [("seen",s0),("kept",t0)]) (R1:=[.tab,.dead]) (fV ∅ ∅ ∅) ∅ ?_
  exact(fin _ (an ⟨s0,t0,rfl⟩)).elim λz h=>⟨z,h.1,by obtain⟨b',s,t,h5,h6⟩:=h.2;subst h6;exact aX ⟨b',s,t,h5,rfl⟩⟩
end
end Mine.W
end
section
namespace Mine.W
section
variable {sp:Spec} {n:Nat} {cx:Cx} {σ:bq} {R R1:List aO} {t it elt e:bE} {v:PV} {p:dN}
theorem Iy{α:Type}{sc:Scope}{ifs:List bE}{l:List α}(F:α->PV)(q:α->Bool)(hc:(cL t && !iH cx it&&qI cx σ sc)=true)(hi:itv sp (n+1) cx it σ R=some (l.map F,R1))
  (h:∀x∈l,∃σ',iC ⟨sc.names,cx.base⟩ t (F x) (eT sc.names σ)=some σ'/\tvs sp (n+1) ⟨sc.names,cx.base⟩ .And ifs σ' R1=some (q x,R1)/\ev sp (n+1) ⟨sc.names,cx.base⟩ elt σ' R1=some (F x,R1)) :
  cmpv sp (n+2) cx elt [⟨t,it,ifs,0⟩] sc σ R=some ((l.filter q).map F,R1):=by
 refine ym hc hi ?_
 clear hi
 induction l with
 | nil=>rfl
 | cons x l ih=>
  obtain⟨σ',k1,k2,k3⟩:=h x aj
  have ih:=ih λy hy=>h y (am _ hy)
  rw [aN,d5]
  cases hq:q x with
  | true=>rw [hq]at k2;exact bl (dc k1 (bl k2 (An rfl (bl k3 rfl)))) (bl ih rfl)
  | false=>rw [hq]at k2;exact bl (dc k1 (bl k2 (DE rfl rfl))) (bl ih rfl)
theorem Ba{b:Bool}(h:tv sp n cx e σ R=some (b,R1)):tv sp (n+1) cx (.UnaryOp .Not e p) σ R=some (!b,R1):=by
 exact bl (k:=λc R1=>some (!c,R1)) h rfl
theorem A8{b:Bool}(hk:UW (kI sp n) cx e σ R=wu (kI sp n) cx e σ R)(h:ev sp n cx e σ R=some (v,R1))(ht:qc R1 v=some b):tv sp (n+1) cx e σ R=some (b,R1):=
 hk.trans (bl (k:=λv R1=>fO (qc R1 v) R1) h (gT ht))
theorem NV{es:List bE}{vs:List PV}{k}(h:evs sp n cx es σ R=some (vs,R1))(hl:vs.length<=SZ):ev sp (n+1) cx (.Tuple es k p) σ R=some (.tup vs,R1):=by
 exact bl (k:=λl R1=>fO (mkT l) R1) h (gT (BA hl))
end
section
variable {k:Nat} {S V:PV} {rows:List fw}
noncomputable abbrev pI(own:List fw):PV:=.tup [.list (own.map bZ),.list (own.map dd)]
noncomputable abbrev CW(S V:PV)(rows:List fw)(tl:bq):bq:=QW S V (.list (rows.map dd)) (.list (rows.map bZ)) (("fars",.obj 1)::tl)
theorem Hn{h:List LS}{rest:List fw}(hrows:rows = .leaf h::rest)(hlen:(rows.flatMap ge).length<50000) :
  Fx (uh (fG (k+5)) 393 DB (.Name "row" bO) (match (br (aK pw 62)).body.getD 5 bO with | .For _ _ b _ _=>b | _=>[])) (rows.map dd) (CW S V rows []) [.tab,.lst []] λo=>∃a b,noObj a=true/\noObj b=true/\o=(.next,CW S V rows [("row",a),("far",b)],[.tab,.lst ((gK rows).map tupP)]):=by
 refine ii (λxs σ R=>∃(rs:List fw) (fs:List (List LS)) (tl:bq),xs=rs.map dd/\(rs.flatMap ge).foldl oE fs=gK rows/\((tl=[] /\ ∃h' rs',rs = .leaf h'::rs') \/ ∃a b,noObj a=true/\noObj b=true/\tl=([("row",a),("far",b)]:bq))/\σ=CW S V rows tl/\R=([.tab,.lst (fs.map tupP)]:List aO)/\fs.length+(rs.flatMap ge).length<50000) ?_ ?_ _ _ _ ⟨rows,[],[],rfl,rfl,av ⟨rfl,h,rest,hrows⟩,rfl,rfl,by show 0+_<_;exact Sn hlen⟩
 ·rintro x xs σ R ⟨rs,fs,tl,g1,g2,g3,rfl,rfl,g4⟩
  cases rs with
  | nil=>cases g1
  | cons r rs=>
   simp only [aN,dF]at g1
   obtain⟨rfl,rfl⟩:=g1
   rw [jF,F1]at g2
   rw [jF,ai]at g4
   have g5:∃e:bq,((e=[]/\ge r≠[]) \/ ∃b,noObj b=true/\e=([("far",b)]:bq))/\iC DB (.Name "row" bO) (dd r) (CW S V rows tl)=some (CW S V rows (("row",dd r)::e)):=by
    rcases g3 with ⟨rfl,h',rs',q⟩ | ⟨a,b,_,hb,rfl⟩
    ·cases q
     exact⟨[],av ⟨rfl,λq=>nomatch q⟩,∅⟩
    ·exact⟨[("far",b)],an ⟨b,hb,rfl⟩,∅⟩
   obtain⟨e,g6,g7⟩:=g5
   refine jn (CW S V rows (("row",dd r)::e)) g7 ?_
   refine gB (xs:=(ge r).map tupP) (σ1:=CW S V rows (("row",dd r)::e)) (R1:=[.tab,.lst (fs.map tupP)]) (fV ?_ ∅ ∅) ∅ ?_
   ·cases r with
    | leaf r=>exact ka (b:=true) (R1:=[.tab,.lst (fs.map tupP)]) ∅ ∅
    | node l=>exact ka (b:=false) (R1:=[.tab,.lst (fs.map tupP)]) ∅ ∅
   refine ii (λxs σ R=>∃(ps:List (List LS)) (fs2:List (List LS)) (e:bq),xs=ps.map tupP/\ps.foldl oE fs2=(ge r).foldl oE fs/\((e=[]/\ps≠[]) \/ ∃b,noObj b=true/\e=([("far",b)]:bq))/\σ=CW S V rows (("row",dd r)::e)/\R=([.tab,.lst (fs2.map tupP)]:List aO)/\fs2.length+ps.length<=fs.length+(ge r).length) ?_ ?_ _ _ _ ⟨ge r,fs,e,rfl,rfl,g6,rfl,rfl,aF _⟩
   ·rintro x xs σ R ⟨ps,fs2,e,k1,k2,k3,rfl,rfl,k4⟩
    cases ps with
    | nil=>cases k1
    | cons f ps=>
     simp only [aN,dF]at k1
     obtain⟨rfl,rfl⟩:=k1
     rw [aq]at k4
     have k2':ps.foldl oE (oE fs2 f)=(ge r).foldl oE fs:=k2
     have fin:∀fs3,oE fs2 f=fs3->fs3.length<=fs2.length+1->∃(ps':List (List LS)) (fs2:List (List LS)) (e:bq),ps.map tupP=ps'.map tupP/\ps'.foldl oE fs2=(ge r).foldl oE fs/\((e=[]/\ps'≠[]) \/ ∃b,noObj b=true/\e=([("far",b)]:bq))/\CW S V rows [("row",dd r),("far",tupP f)]=CW S V rows (("row",dd r)::e)/\([.tab,.lst (fs3.map tupP)]:List aO)=([.tab,.lst (fs2.map tupP)]:List aO)/\fs2.length+ps'.length<=fs.length+(ge r).length:=by
      rintro fs3 rfl hl
      exact⟨ps,_,_,rfl,k2',an ⟨tupP f,bG f,rfl⟩,rfl,rfl,by exact Sm k4 hl⟩
     refine jn (CW S V rows [("row",dd r),("far",tupP f)]) (by rcases k3 with ⟨rfl,_⟩ | ⟨b,_,rfl⟩<;>kernel_rfl) ?_
     have tst:∀{n:Nat} {p p1 p2:dN} (c:Bool),(fs2.any λx=>x==f)=c->tv (fG (k+5)) (n+3) DB (.Compare (.Name "far" p1) [.NotIn] [.Name "fars" p2] p) (CW S V rows [("row",dd r),("far",tupP f)]) [.tab,.lst (fs2.map tupP)]=some (!c,[.tab,.lst (fs2.map tupP)]):=by
      rintro n p p1 p2 c rfl
      refine i9 (x:=tupP f) (y:=.obj 1) (R1:=[.tab,.lst (fs2.map tupP)]) ∅ ∅ ∅ ?_
      show(Nu _ _ _).map not=_
      rw [KA fs2 f _ (.obj 1) rfl (λs q=>nomatch q)];rfl
     cases hc:fs2.any λx=>x==f with
     | true=>exact cQ (tst true hc) (aX (aX (fin fs2 (by unfold oE;rw [hc];rfl) (by exact Sl))))
     | false=>
      refine ff (tst false hc) (aR _ (R1:=[.tab,.lst ((fs2++[f]).map tupP)]) (gE ?_) (aX (aX (fin (fs2++[f]) (by unfold oE;rw [hc];rfl) (by rw [ai];exact aF _)))))
      rw [bV]
      exact ei (x:=.obj 1) (as:=[tupP f]) (R1:=[.tab,.lst (fs2.map tupP)]) (R2:=[.tab,.lst (fs2.map tupP)]) ∅ ∅ ∅ (dq (l:=fs2.map tupP) rfl rfl (by rw [ae];have:SZ=1000000:=rfl;exact Sk g4 k4 this))
   ·rintro σ R ⟨ps,fs2,e,k1,k2,k3,rfl,rfl,k4⟩
    cases ps with
    | cons f ps=>cases k1
    | nil=>
     have k2':fs2=(ge r).foldl oE fs:=k2
     rcases k3 with ⟨_,q⟩ | ⟨b,hb,rfl⟩
     ·exact absurd rfl q
     ·rw [<-k2']at g2
      rw [cj]at k4
      exact aX ⟨rs,fs2,_,rfl,g2,an ⟨dd r,b,lg r,hb,rfl⟩,rfl,rfl,by exact Sj g4 k4⟩
 ·rintro σ R ⟨rs,fs,tl,g1,g2,g3,rfl,rfl,g4⟩
  cases rs with
  | cons r rs=>cases g1
  | nil=>
   have g2':fs=gK rows:=g2
   rcases g3 with ⟨_,h',rs',q⟩ | ⟨a,b,ha,hb,rfl⟩
   ·cases q
   ·exact⟨a,b,ha,hb,by rw [g2']⟩
end
end Mine.W
end
section
namespace Mine.W
section
variable {k:Nat} {S V:PV} {rows:List fw}
theorem GT{r:fw}(h:jR r=true):(.tup [bZ r,dd r]:PV)=pI (zA r):=by
 cases r with
 | leaf r=>cases h
 | node l=>
  show PV.tup [.list (l.map λr=>.str (aG r)),.list (l.map tupP)]=PV.tup [.list ((l.map fw.leaf).map bZ),.list ((l.map fw.leaf).map dd)]
  rw [aI,aI];rfl
theorem Qj{line:LS}{h:List LS}{rest:List fw}(hrows:rows = .leaf h::rest)(hS:noObj S=true)(hVn:noObj V=true)(hV:dP (k+5) 906 [S] V)(hr:dP (k+5) 932 [V,.tup []] (.list (rows.map dd)))(hl:dP (k+5) 911 [V] (.str line))(hp:dP (k+5) 918 [.str line,.str [47]] (.list (rows.map bZ)))(ht:dP (k+5) 937 [.list (rows.map dd)] (.list (rows.map bZ)))
  (hne:rows.length<60)(hlen:(rows.flatMap ge).length<50000)(hfar:gK rows≠[])(hown:∀own∈GU rows,own≠[]/\Au (k+5) (gK rows) own):∃R',nF (fG (k+5)) pw 400 964 [S] [] [.tab]=some (.bool true,R')/\lP R'=true:=by
 refine⟨[.tab,.dead],?_,rfl⟩
 have hSZ:SZ=1000000:=rfl
 refine cH (fi:=⟨br (aK pw 62),[]⟩) (σ:=[("script",S)]) ∅ ∅ ?_
 refine b8 V [("script",S),("vote",V)] (R1:=[.tab]) (ej (g:=906) (as:=[S]) (R1:=[.tab]) ∅ ∅ ∅ ∅ (hV _ rfl)) ∅ ∅ ∅ ?_
 refine b8 (.list (rows.map dd)) [("script",S),("vote",V),("rows",.list (rows.map dd))] (R1:=[.tab]) (ej (g:=932) (as:=[V,.tup []]) (R1:=[.tab]) ∅ ∅ ∅ ∅ (hr _ rfl)) ∅ ∅ ∅ ?_
 refine b8 (.list (rows.map bZ)) (QW S V (.list (rows.map dd)) (.list (rows.map bZ)) []) (R1:=[.tab]) (ej (g:=918) (as:=[.str line,.str [47]]) (R1:=[.tab]) ∅ ∅ ∅ (oY (ej (g:=911) (as:=[V]) (R1:=[.tab]) ∅ ∅ ∅ ∅ (hl _ rfl)) ∅) (hp _ rfl)) ∅ ∅ ∅ ?_
 refine cQ (R1:=[.tab]) (i9 (x:=.list (rows.map bZ)) (y:=.list (rows.map bZ)) (R1:=[.tab]) ∅ ∅ (ej (g:=937) (as:=[.list (rows.map dd)]) (R1:=[.tab]) ∅ ∅ ∅ ∅ (ht _ rfl)) (uB (DA _))) (aX ?_)
 refine aR (CW S V rows []) (R1:=[.tab,.lst []]) ∅ ?_
 refine gB (xs:=rows.map dd) (σ1:=CW S V rows []) (R1:=[.tab,.lst []]) (fV ∅ ∅ ∅) ∅ ?_
 obtain⟨z,z1,a,b,ha,hb,rfl⟩:=Hn (k:=k) (S:=S) (V:=V) hrows hlen
 refine⟨_,z1,?_⟩
 show oF _ _ _ _ _ _ _
 let d:fw:=.leaf []
 let idx:List Nat:=(cM rows.length).filter λi=>jR (rows.getD i d)
 let I:PV:=.list (idx.map λ(i:Nat)=>PV.int (i:Int))
 have hI:noObj I=true:=bN (f:=λ(i:Nat)=>PV.int (i:Int)) λi ζ=>rfl
 refine b8 I (yL S V rows (.obj 1) a b I []) (R1:=[.tab,.lst ((gK rows).map tupP)]) (gb ?_ ?_) ∅ ∅ ∅ ?_
 ·refine Iy (λ(i:Nat)=>PV.int (i:Int)) (λi=>jR (rows.getD i d)) (R1:=[.tab,.lst ((gK rows).map tupP)]) ∅ (wT (B8 (b:=.int (((rows.map dd).length:Nat):Int)) ∅ (by rw [ae])) ∅ (by exact Si hne)) λi hi=>?_
  rw [iu]at hi
  refine⟨[("rows",.list (rows.map dd)),("k",.int (i:Int))],∅,m5 (m7 (b :=!!jR (rows.getD i d)) (Ba (A8 (v:=.bool (!jR (rows.getD i d))) ∅ (sG (g:=.builtin "isinstance") (as:=[dd (rows.getD i d),.val (.type "tuple")]) ∅ ∅ (oY (R1:=[.tab,.lst ((gK rows).map tupP)]) (mn (x:=.list (rows.map dd)) (R1:=[.tab,.lst ((gK rows).map tupP)]) ∅ ∅ ?_) ∅) ?_) rfl)) (Bool.not_not _)),∅⟩
  ·exact cU (b:=fO (iB (rows.map dd) (i:Int)) [.tab,.lst ((gK rows).map tupP)]) ∅ (gT (rP rows d dd hi))
  ·cases rows.getD i d<;>kernel_rfl
 ·rw [ae]
  exact ah (g8 _ _) (by rw [hU];exact MV hne hSZ)
 have hidx:∀i∈idx,i<rows.length/\jR (rows.getD i d)=true:=λi hi=>by
  have:=vD.mp hi
  exact⟨iu.mp this.1,this.2⟩
 have hpairs:(idx.map λi=>pI (zA (rows.getD i d)))=((rows.filter jR).map zA).map pI:=by
  rw [<-BY rows d jR,aI,aI];rfl
 have hlenf:(rows.filter jR).length<60:=bp (g8 _ _) hne
 refine gB (xs:=(GU rows).map pI) (σ1:=yL S V rows (.obj 1) a b I []) (R1:=[.tab,.lst ((gK rows).map tupP)]) (fV (jw (x:=.list [pI rows]) (y:=.list (((rows.filter jR).map zA).map pI)) (R1:=[.tab,.lst ((gK rows).map tupP)]) ∅ (gb ?_ ?_) ∅ ?_) ∅ ∅) ∅ ?_
 ·rw [<-hpairs]
  refine xd (λ(i:Nat)=>PV.int (i:Int)) (λi=>pI (zA (rows.getD i d))) (R1:=[.tab,.lst ((gK rows).map tupP)]) ∅ (ij ∅ ∅) λi hi=>?_
  obtain⟨h1,h2⟩:=hidx i hi
  refine⟨[("places",.list (rows.map bZ)),("rows",.list (rows.map dd)),("k",.int (i:Int))],∅,?_⟩
  rw [<-GT h2]
  refine NV (oY (R1:=[.tab,.lst ((gK rows).map tupP)]) (mn (x:=.list (rows.map bZ)) (R1:=[.tab,.lst ((gK rows).map tupP)]) ∅ ∅ ?_) (mn (x:=.list (rows.map dd)) (R1:=[.tab,.lst ((gK rows).map tupP)]) ∅ ∅ ?_)) (bv rfl)
  ·exact cU (b:=fO (iB (rows.map bZ) (i:Int)) [.tab,.lst ((gK rows).map tupP)]) ∅ (gT (rP rows d bZ h1))
  ·exact cU (b:=fO (iB (rows.map dd) (i:Int)) [.tab,.lst ((gK rows).map tupP)]) ∅ (gT (rP rows d dd h1))
 ·rw [ae,ae];exact Sh hSZ hlenf
 ·exact uD (l:=[pI rows]++((rows.filter jR).map zA).map pI) (by rw [ai,ae,ae];show 1+_<=_;exact Sg hSZ hlenf)
 refine ii (λxs σ R=>∃(os:List (List fw)),xs=os.map pI/\(∀o∈os,o≠[]/\Au (k+5) (gK rows) o)/\((σ=yL S V rows (.obj 1) a b I []/\R=([.tab,.lst ((gK rows).map tupP)]:List aO)/\os≠[])\/(∃b' own s t,noObj b'=true/\σ=vh S V rows (gK rows) a b' I own [("seen",s),("kept",t)]/\R=([.tab,.dead]:List aO)))) ?_ ?_ _ _ _ ⟨GU rows,rfl,hown,av ⟨rfl,rfl,λq=>nomatch q⟩⟩
 ·rintro x xs σ R ⟨os,g1,g2,g3⟩
  cases os with
  | nil=>cases g1
  | cons o os=>
   simp only [aN,dF]at g1
   obtain⟨rfl,rfl⟩:=g1
   obtain⟨on,ok⟩:=g2 o aj
   rcases g3 with ⟨rfl,rfl,_⟩ | ⟨b',own,s,t,hb',rfl,rfl⟩
   ·obtain⟨b2,s2,t2,h2,h3⟩:=De (k:=k) (S:=S) (V:=V) (rows:=rows) (a:=a) (b:=b) (I:=I) (own:=o) (σ:=(yL S V rows (.obj 1) a b I [("held",.list (o.map bZ)),("own",.list (o.map dd))])) ok on hfar hS hVn ha hb hI (av ⟨rfl,rfl⟩)
    refine jn (yL S V rows (.obj 1) a b I [("held",.list (o.map bZ)),("own",.list (o.map dd))]) ∅ (qJ h3 ?_)
    rintro _ rfl
    exact⟨os,rfl,λo ho=>g2 o (am _ ho),an ⟨b2,o,s2,t2,h2,rfl,rfl⟩⟩
   ·obtain⟨b2,s2,t2,h2,h3⟩:=De (k:=k) (S:=S) (V:=V) (rows:=rows) (a:=a) (b:=b') (I:=I) (own:=o) (σ:=(yL S V rows (ya (gK rows)) a b' I [("held",.list (o.map bZ)),("own",.list (o.map dd)),("flat",.list ((own.map b6).map tupP)),("met",.str (aG (bw (own.map b6)))),("seen",s),("kept",t)])) ok on hfar hS hVn ha hb' hI (an ⟨_,_,_,_,rfl,rfl⟩)
    refine jn (yL S V rows (ya (gK rows)) a b' I [("held",.list (o.map bZ)),("own",.list (o.map dd)),("flat",.list ((own.map b6).map tupP)),("met",.str (aG (bw (own.map b6)))),("seen",s),("kept",t)]) ∅ (qJ h3 ?_)
    rintro _ rfl
    exact⟨os,rfl,λo ho=>g2 o (am _ ho),an ⟨b2,o,s2,t2,h2,rfl,rfl⟩⟩
 ·rintro σ R ⟨os,g1,g2,g3⟩
  cases os with
  | cons o os=>cases g1
  | nil=>
   rcases g3 with ⟨_,_,q⟩ | ⟨b',own,s,t,hb',rfl,rfl⟩
   ·exact absurd rfl q
   ·exact cP (.bool true) (R1:=[.tab,.dead]) ∅ ⟨rfl,rfl⟩
end
end Mine.W
end
section
namespace Mine.W
noncomputable def IX(c:LS):Prop:=c≠[]/\c≠[46]/\c≠[46,46]/\47 ∉ c
noncomputable def eU(r:List LS):Prop:=∀c∈r,IX c
theorem wx{s:LS}(h:47 ∉ s):aL 47 s=[s]:=by
 induction s with
 | nil=>rfl
 | cons c s ih=>
  have h1:c≠47:=λq=>h (q▸aj)
  rw [b9]
  rw [if_neg h1,ih λq=>h (am _ q)]
theorem b9(c:Nat)(s:LS):aL 47 (c::s)=if c=47 then []::aL 47 s else match aL 47 s with | []=>[[c]] | h::t=>(c::h)::t:=rfl
theorem ul(a b:LS):aL 47 (a++47::b)=aL 47 a++aL 47 b:=by
 induction a with
 | nil=>rfl
 | cons c a ih=>
  rw [eP,b9,b9,ih]
  split
  ·rfl
  ·cases e:aL 47 a with
   | nil=>exact absurd e (fe 47 a)
   | cons h t=>rfl
theorem nZ:∀{r:List LS},r≠[]->eU r->aL 47 (ce [47] r)=r
 | [],h,_=>absurd rfl h
 | [x],_,h=>wx (h x aj).2.2.2
 | x::y::r,_,h=>by
  show aL 47 (x++[47]++ce [47] (y::r))=_
  rw [aQ,List.singleton_append,ul,wx (h x aj).2.2.2,nZ (r:=y::r) (gy _ _) λc hc=>h c (am _ hc)]
  rfl
set_option tactic.hygienic true in
theorem uj(s:LS):∀c∈aL 47 s,47 ∉ c:=by
 induction s with
 | nil=>intro c hc;rw [show aL 47 []=[[]]from rfl,aC]at hc;rw [hc];exact bJ
 | cons x s ih=>
  intro c hc
  rw [b9]at hc
  split at hc
  ·rcases aw.mp hc with rfl | hc
   ·exact bJ
   ·exact ih c hc
  ·rename_i hx
   cases e:aL 47 s with
   | nil=>exact absurd e (fe 47 s)
   | cons h t=>
    rw [e]at hc ih
    rcases aw.mp hc with rfl | hc
    ·intro q
     rcases aw.mp q with q | q
     ·exact hx q.symm
     ·exact ih h aj q
    ·exact ih c (am _ hc)
theorem zT{c:LS}(h:IX c):(c==[])=false/\(c==[46])=false/\(c==[46,46])=false:=⟨beq_eq_false_iff_ne.mpr h.1,beq_eq_false_iff_ne.mpr h.2.1,beq_eq_false_iff_ne.mpr h.2.2.1⟩
theorem Eu{c:LS}(h:IX c)(acc:List LS):cN acc c=acc++[c]:=by
 obtain⟨a,b,d⟩:=zT h
 unfold cN
 rw [a,b,d];rfl
theorem DU:∀{r:List LS} (acc:List LS),eU r->ic acc r=acc++r:=by
 intro r
 induction r with
 | nil=>
  intro acc _
  exact(aP _).symm
 | cons c r ih=>
  intro acc h
  show ic (cN acc c) r=_
  rw [Eu (h c aj),ih _ λd hd=>h d (am _ hd),aQ];rfl
theorem F8(acc a b:List LS):ic acc (a++b)=ic (ic acc a) b:=F1
theorem EZ{acc:List LS}{c:LS}(h:eU acc)(hc:47 ∉ c):eU (cN acc c):=by
 unfold cN
 cases e:c==[]||c==[46]with
 | true=>exact h
 | false=>
  cases e3:c==[46,46]with
  | true=>exact λd hd=>h d (List.dropLast_subset _ hd)
  | false=>
   obtain⟨e1,e2⟩:=iz.mp e
   intro d hd
   rcases dp.mp hd with hd | hd
   ·exact h d hd
   ·rw [aC]at hd
    rw [hd]
    exact⟨beq_eq_false_iff_ne.mp e1,beq_eq_false_iff_ne.mp e2,beq_eq_false_iff_ne.mp e3,hc⟩
theorem wY:∀{l acc:List LS},eU acc->(∀c∈l,47 ∉ c)->eU (ic acc l):=by
 intro l
 induction l with
 | nil=>
  intro acc h _
  exact h
 | cons c l ih=>
  intro acc h hl
  exact ih (EZ h (hl c aj)) λd hd=>hl d (am _ hd)
theorem uW:eU []:=λc hc=>nomatch hc
theorem BV{here:List LS}(h:eU here)(w:LS):eU (aZ here w):=by
 unfold aZ
 cases w.take 1==[47]
 ·exact wY h (uj w)
 ·exact wY uW (uj w)
theorem D8(acc:List LS)(c:LS):cc (cN acc c)<=cc acc+(c.length+1):=by
 unfold cN
 cases c==[]||c==[46]
 ·cases c==[46,46]
  ·show cc (acc++[c])<=_
   rw [gA,eG];have:cc []=0:=rfl;exact Sf this
  ·show cc acc.dropLast<=_
   have:=gA acc.dropLast (acc.drop (acc.length-1))
   rw [hG,jZ]at this
   rw [hG];exact Se this
 ·show cc acc<=_;exact Q7
theorem wz:∀(l acc:List LS),cc (ic acc l)<=cc acc+cc l:=by
 intro l
 induction l with
 | nil=>
  intro acc
  exact dA _ _
 | cons c l ih=>
  intro acc
  have h1:=ih (cN acc c)
  have h2:=D8 acc c
  show cc (ic (cN acc c) l)<=_
  rw [eG];exact Sd h1 h2
theorem Bl(here:List LS)(w:LS):cc (aZ here w)<=cc here+(w.length+1):=by
 have h:=j6 47 w
 unfold aZ
 cases w.take 1==[47]
 ·have:=wz (aL 47 w) here;show cc (ic here _)<=_;exact Sc h this
 ·exact p2 (wz (aL 47 w) []) rfl (aA h)
set_option tactic.hygienic true in
theorem ui{r:List LS}(h:eU r):aL 47 (aG r)=[]::(if r=[]then [[]]else r):=by
 unfold aG
 conv=>lhs;rw [b9]
 rw [if_pos rfl]
 split
 ·rename_i e;rw [e];rfl
 ·rename_i e;rw [nZ e h]
set_option tactic.hygienic true in
theorem my{r:List LS}(h:eU r):cE (aG r)=r:=by
 unfold cE
 rw [ui h]
 split
 ·rename_i e;rw [e];rfl
 ·show(r.filter λc =>!c.isEmpty && !(c==[46]))=r
  rw [iV]
  intro c hc
  have h1:=h c hc
  have h2:=(zT h1).2.1
  rw [h2]
  cases c with
  | nil=>exact absurd rfl h1.1
  | cons=>rfl
theorem ud(r:List LS):(aG r).length<=cc r+1:=by
 have h:=jQ [47] r
 have h1:([47]:LS).length=1:=rfl
 rw [h1,f8]at h
 unfold cc
 show(ce [47] r).length+1<=_;exact Sb h
noncomputable def sM(w:LS):Prop:=(w=[]\/(∃w',w=46::w') \/ ∃w',w=47::46::w')/\w.length<=10/\iT w
theorem wS{x:LS}{r:List LS}:∃t,ce [47] (x::r)=x++t:=by
 cases r with
 | nil=>exact⟨[],(aP x).symm⟩
 | cons y r=>exact⟨[47]++ce [47] (y::r),by show x++[47]++_=_;rw [aQ]⟩
theorem wR:∀{r:List LS},r≠[]->eU r->∃a c,ce [47] r=a++[c]/\c≠47
 | [],h,_=>absurd rfl h
 | [x],_,h=>by
  have hx:=h x aj
  rcases oL x with rfl | ⟨a,c,e⟩
  ·exact absurd rfl hx.1
  ·rw [A0]at e
   exact⟨a,c,e,λq=>hx.2.2.2 (by rw [e,q];exact cg _ (aC.mpr rfl))⟩
 | x::y::r,_,h=>by
  obtain⟨a,c,e,hc⟩:=wR (r:=y::r) (gy _ _) λd hd=>h d (am _ hd)
  exact⟨x++[47]++a,c,by show x++[47]++ce [47] (y::r)=_;rw [e,aQ (x++[47])],hc⟩
theorem Ot{a b:LS}(h:a≠[]):(a++b).take 1=a.take 1:=by
 cases a with
 | nil=>exact absurd rfl h
 | cons c a=>rfl
theorem qL{here:List LS}{w:LS}(h:eU here)(hw:sM w)(hs:cc here<=1000):lY here w:=by
 obtain⟨h1,h2,_⟩:=hw
 have ht:=ud here
 have rel:(w=[] \/ ∃w',w=46::w')->lY here w:=by
  intro hr
  have hw1:(w.take 1==[47])=false:=by rcases hr with rfl | ⟨w',rfl⟩<;>rfl
  have hn:aZ here w=ic here (aL 47 w):=by unfold aZ;rw [hw1];rfl
  by_cases e:here=[]
  ·subst e
   exact⟨w,an ⟨⟨hr,av ⟨rfl,rfl⟩⟩,by show 1+_<_;exact Sa h2⟩,hw1,by exact R8 h2,hn.symm⟩
  ·obtain⟨a,c,hj,hc⟩:=wR e h
   refine⟨ce [47] here++47::w,an ⟨⟨hr,an ⟨ce [47] here,rfl,?_,rfl⟩⟩,by exact R4 hs h2 ht⟩,?_,?_,?_⟩
   ·unfold Ij aG
    rw [hj,<-eP]
    have:((47::a++[c]).length-1)=(47::a).length:=by rw [ai];rfl
    rw [this,List.drop_left]
    show([c]==[47])=false
    rw [beq_eq_false_iff_ne]
    intro q
    exact hc (jH q).1
   ·cases here with
    | nil=>exact absurd rfl e
    | cons x r=>
     obtain⟨t,ht⟩:=wS (x:=x) (r:=r)
     have hx:=h x aj
     rw [ht,aQ,Ot hx.1]
     cases x with
     | nil=>exact absurd rfl hx.1
     | cons d x=>
      show([d]==[47])=false
      rw [beq_eq_false_iff_ne]
      intro q
      exact hx.2.2.2 (by rw [(jH q).1];exact aj)
   ·rw [ai,aq]
    have:(aG here).length=(ce [47] here).length+1:=rfl
    exact R0 hs h2 ht this
   ·rw [ul,nZ e h,F8,DU [] h,ew,hn]
 rcases h1 with h1 | h1 | ⟨w',rfl⟩
 ·exact rel (av h1)
 ·exact rel (an h1)
 ·refine⟨46::w',av ⟨_,rfl,rfl⟩,rfl,by rw [aq]at h2;exact RZ h2,?_⟩
  show _=ic [] (aL 47 (47::46::w'))
  conv=>rhs;rw [b9]
  rw [if_pos rfl]
  rfl
end Mine.W
end
section
namespace Mine.W
section
variable {α:Type} [LT α]
structure Md(α:Type) [LT α]:Prop where
 irr:∀x:α,¬x<x
 trans:∀x y z:α,x<y->y<z->x<z
 tri:∀x y:α,¬x<y->¬y<x->x=y
theorem Ka:Md Nat:=⟨eY,λζ ζ ζ=>bI,λx y h1 h2=>by exact RY h1 h2⟩
theorem zC(h:Md α):Md (List α) where
 irr:=λl=>by
  induction l with
  | nil=>exact nV []
  | cons x l ih=>
   rw [dK]
   rintro (q | ⟨_,q⟩)
   ·exact h.irr x q
   ·exact ih q
 trans:=λl=>by
  induction l with
  | nil=>
   intro m n h1 h2
   cases n with
   | nil=>exact absurd h2 (nV m)
   | cons z n=>exact nu z n
  | cons x l ih=>
   intro m n h1 h2
   cases m with
   | nil=>exact absurd h1 (nV _)
   | cons y m=>
    cases n with
    | nil=>exact absurd h2 (nV _)
    | cons z n=>
     rw [dK]at h1 h2 ⊢
     rcases h1 with h1 | ⟨rfl,h1⟩
     ·rcases h2 with h2 | ⟨rfl,h2⟩
      ·exact av (h.trans _ _ _ h1 h2)
      ·exact av h1
     ·rcases h2 with h2 | ⟨rfl,h2⟩
      ·exact av h2
      ·exact an ⟨rfl,ih _ _ h1 h2⟩
 tri:=λl=>by
  induction l with
  | nil=>
   intro m h1 h2
   cases m with
   | nil=>rfl
   | cons y m=>exact absurd (nu y m) h1
  | cons x l ih=>
   intro m h1 h2
   cases m with
   | nil=>exact absurd (nu x l) h2
   | cons y m=>
    rw [dK]at h1 h2
    have e:=h.tri x y (λq=>h1 (av q)) λq=>h2 (av q)
    subst e
    rw [ih m (λq=>h1 (an ⟨rfl,q⟩)) λq=>h2 (an ⟨rfl,q⟩)]
theorem zr(h:Md α):∀(p a b r:List α),p <+: a->p <+: b->¬r<a->¬b<r->p <+: r:=by
 intro p
 induction p with
 | nil=>
  intro a b r _ _ _ _
  exact eu
 | cons x p ih=>
  intro a b r ha hb h1 h2
  obtain⟨a',rfl⟩:=ha
  obtain⟨b',rfl⟩:=hb
  cases r with
  | nil=>exact absurd (nu _ _) h1
  | cons y r=>
   rw [eP,dK]at h1 h2
   have e:=h.tri x y (λq=>h2 (av q)) λq=>h1 (av q)
   subst e
   rw [dI]
   exact⟨rfl,ih _ _ r (jj p a') (jj p b') (λq=>h1 (an ⟨rfl,q⟩)) λq=>h2 (an ⟨rfl,q⟩)⟩
end
theorem rQ:Md LS:=zC Ka
theorem mA:Md (List LS):=zC rQ
theorem E5{α:Type}{bt:α->α->Bool}(hi:∀x,bt x x=false)(H:∀x y b,bt y b=true->bt x b=false->bt x y=false):∀(l:List α) (b:α) (S:α->Prop),(∀x,S x->bt x b=false)->bt b b=false->(l.foldl (λb y=>if bt y b then y else b) b=b\/l.foldl (λb y=>if bt y b then y else b) b∈l)/\(∀x,S x\/x=b\/x∈l->bt x (l.foldl (λb y=>if bt y b then y else b) b)=false):=by
 intro l
 induction l with
 | nil=>
  intro b S h hb
  exact⟨av rfl,λx q=>q.elim (h x) λq=>q.elim (λe=>e▸hb) λq=>nomatch q⟩
 | cons y l ih=>
  intro b S h hb
  rw [kM]
  by_cases e:bt y b=true
  ·rw [if_pos e]
   obtain⟨h1,h2⟩:=ih y (λx=>S x\/x=b) (λx q=>by
    rcases q with q | rfl
    ·exact H _ _ _ e (h x q)
    ·exact H _ _ _ e hb) (hi y)
   refine⟨an (h1.elim (λq=>by rw [q];exact aj) (am _)),λx q=>h2 x ?_⟩
   rcases q with q | q | q
   ·exact av (av q)
   ·exact av (an q)
   ·rcases aw.mp q with q | q
    ·exact an (av q)
    ·exact an (an q)
  ·rw [if_neg e]
   obtain⟨h1,h2⟩:=ih b (λx=>S x\/x=y) (λx q=>by
    rcases q with q | rfl
    ·exact h x q
    ·exact ib.mpr e) hb
   refine⟨h1.imp id (am _),λx q=>h2 x ?_⟩
   rcases q with q | q | q
   ·exact av (av q)
   ·exact an (av q)
   ·rcases aw.mp q with q | q
    ·exact av (an q)
    ·exact an (an q)
theorem sb{α:Type}{bt:α->α->Bool}(hi:∀x,bt x x=false)(H:∀x y b,bt y b=true->bt x b=false->bt x y=false){l:List α}(hl:l≠[])(d:α):(iI bt l).getD d∈l /\ ∀x∈l,bt x ((iI bt l).getD d)=false:=by
 cases l with
 | nil=>exact absurd rfl hl
 | cons x l=>
  obtain⟨h1,h2⟩:=E5 hi H l x (λζ=>False) (λζ q=>q.elim) (hi x)
  refine⟨h1.elim (λq=>?_) (am _),λy hy=>h2 y (an (aw.mp hy))⟩
  show l.foldl _ x∈_
  rw [q]
  exact aj
theorem qQ{l:List (List LS)}(h:l≠[]):vY l∈l /\ ∀x∈l,¬x<vY l:=by
 have:=sb (bt:=λa b:List LS=>decide (a<b)) (λx=>decide_eq_false (mA.irr x)) (λx y b h1 h2=>decide_eq_false λq=>of_decide_eq_false h2 (mA.trans _ _ _ q (of_decide_eq_true h1))) h []
 exact⟨this.1,λx hx=>of_decide_eq_false (this.2 x hx)⟩
theorem uF{l:List (List LS)}(h:l≠[]):zF l∈l /\ ∀x∈l,¬zF l<x:=by
 have:=sb (bt:=λa b:List LS=>decide (b<a)) (λx=>decide_eq_false (mA.irr x)) (λx y b h1 h2=>decide_eq_false λq=>of_decide_eq_false h2 (mA.trans _ _ _ (of_decide_eq_true h1) q)) h []
 exact⟨this.1,λx hx=>of_decide_eq_false (this.2 x hx)⟩
theorem qT{α:Type}{l:List (List α)}(h:l≠[]):(kH l).getD []∈l /\ ∀x∈l,x.length<=((kH l).getD []).length:=by
 have:=sb (bt:=λa b:List α=>decide (b.length<a.length)) (λx=>decide_eq_false (eY _)) (λx y b h1 h2=>decide_eq_false λq=>of_decide_eq_false h2 (bI (of_decide_eq_true h1) q)) h []
 exact⟨this.1,λx hx=>cn (of_decide_eq_false (this.2 x hx))⟩
theorem rj:∀a b:List LS,gZ a b <+: a
 | [],b=>by rw [show gZ [] b=[]from rfl];exact eu
 | x::a,[]=>eu
 | x::a,y::b=>by
  show(if x=y then x::gZ a b else []) <+: _
  split
  ·exact dI.mpr ⟨rfl,rj a b⟩
  ·exact eu
set_option tactic.hygienic true in
theorem pe:∀a b:List LS,gZ a b <+: b
 | [],b=>by rw [show gZ [] b=[]from rfl];exact eu
 | x::a,[]=>eu
 | x::a,y::b=>by
  show(if x=y then x::gZ a b else []) <+: _
  split
  ·rename_i e;exact dI.mpr ⟨e,pe a b⟩
  ·exact eu
theorem tS:∀p a b:List LS,p <+: a->p <+: b->p <+: gZ a b
 | [],a,b,_,_=>eu
 | x::p,a,b,ha,hb=>by
  obtain⟨a',rfl⟩:=ha
  obtain⟨b',rfl⟩:=hb
  show _ <+: (if x=x then x::gZ (p++a') (p++b')else [])
  rw [if_pos rfl]
  exact dI.mpr ⟨rfl,tS p _ _ (jj p a') (jj p b')⟩
noncomputable def Ir(rows:List (List LS)):List LS:=gZ (vY rows) (zF rows)
theorem Cb{rows:List (List LS)}{r:List LS}(hr:r∈rows):Ir rows <+: r:=by
 have h:rows≠[]:=λq=>by rw [q]at hr;cases hr
 exact zr rQ _ _ _ r (rj _ _) (pe _ _) ((qQ h).2 r hr) ((uF h).2 r hr)
theorem Iq{rows:List (List LS)}{q:List LS}(h:rows≠[])(hq:∀r∈rows,q <+: r):q <+: Ir rows:=
 tS _ _ _ (hq _ (qQ h).1) (hq _ (uF h).1)
theorem mh{rows:List (List LS)}(h:∀r∈rows,eU r):(rows.map aG).map cE=rows:=by
 rw [aI]
 exact(bf λr hr=>my (h r hr)).trans (fY rows)
theorem DC{rows:List (List LS)}(h:∀r∈rows,eU r):tR (rows.map aG)=aG (Ir rows):=by
 unfold tR
 rw [mh h];rfl
theorem r8{rows:List (List LS)}(hn:rows≠[])(hl:rows.length<1000)(h:∀r∈rows,eU r/\cc r<=900):mJ (rows.map aG):=by
 refine⟨λq=>hn (bQ.mp q),by rw [ae];exact hl,λs hs=>?_,?_,?_⟩
 ·obtain⟨r,hr,rfl⟩:=aH.mp hs
  exact⟨ah (ud r) (ah (cV (h r hr).2) (by decide)),_,rfl⟩
 ·rw [mh λr hr=>(h r hr).1]
  exact(qQ hn).2 _ (uF hn).1
 ·rw [mh λr hr=>(h r hr).1]
  have:=(h _ (qQ hn).1).2
  exact RW this
theorem uV{p r:List LS}(h:p <+: r)(hr:eU r):eU p:=λc hc=>hr c (h.subset hc)
end Mine.W
end
section
namespace Mine.W
noncomputable def lm(p r:List LS):Bool:=r.take p.length==p
theorem fQ{p r:List LS}:lm p r=true↔p <+: r:=by
 unfold lm
 rw [beq_iff_eq,yU]
 exact eq_comm
noncomputable def yM(L:List (List LS))(p:List LS):Nat:=(L.filter (lm p)).length
theorem xc{L:List (List LS)}{far:List LS}{k:Nat}(h:k<=far.length):rk L far k=yM L (far.take k):=by
 unfold rk yM lm
 rw [cD,Nat.min_eq_left h]
theorem Ix{L:List (List LS)}{p q:List LS}(h:q <+: p):yM L p<=yM L q:=by
 unfold yM
 induction L with
 | nil=>exact aF _
 | cons r L ih=>
  rw [d5,d5]
  by_cases e:lm p r=true
  ·rw [if_pos e,if_pos (fQ.mpr (h.trans (fQ.mp e)))]
   exact cV ih
  ·rw [if_neg e]
   split
   ·exact jL ih
   ·exact ih
theorem MG{α:Type}(P Q:α->Bool):∀(L:List α),L.length<(L.filter P).length+(L.filter Q).length->∃r∈L,P r=true/\Q r=true:=by
 intro L
 induction L with
 | nil=>
  intro h
  exact absurd h (eY 0)
 | cons r L ih=>
  intro h
  rw [d5,d5,aq]at h
  by_cases e1:P r=true
  ·by_cases e2:Q r=true
   ·exact⟨r,aj,e1,e2⟩
   ·rw [if_pos e1,if_neg e2,aq]at h
    obtain⟨s,hs,h3⟩:=ih (by exact RU h)
    exact⟨s,am _ hs,h3⟩
  ·have:(L.filter P).length+(if Q r=true then r::L.filter Q else L.filter Q).length<=(L.filter P).length+((L.filter Q).length+1):=by split<;>simp
   rw [if_neg e1]at h
   obtain⟨s,hs,h3⟩:=ih (by exact RT h this)
   exact⟨s,am _ hs,h3⟩
theorem xK{p q r:List LS}(h1:p <+: r)(h2:q <+: r):p <+: q\/q <+: p:=List.prefix_or_prefix_of_prefix h1 h2
theorem Ki{L:List (List LS)}{p q:List LS}(h1:L.length / 2+1<=yM L p)(h2:L.length / 2+1<=yM L q):p <+: q\/q <+: p:=by
 obtain⟨r,_,h3,h4⟩:=MG (lm p) (lm q) L (by unfold yM at h1 h2;exact RS h1 h2)
 exact xK (fQ.mp h3) (fQ.mp h4)
theorem sE{L:List (List LS)}{far:List LS}{m:Nat}(hm:m<=L.length):∀j,gf L far m j<=j/\m<=rk L far (gf L far m j) /\ ∀i,gf L far m j<i->i<=j->rk L far i<m
 | 0=>by
  refine⟨aF 0,?_,λi h1 h2=>by have:gf L far m 0=0:=rfl;exact RQ h1 h2⟩
  show m<=rk L far 0
  unfold rk
  rw [iV.mpr λr ζ=>by rw [jD,jD];rfl]
  exact hm
 | j+1=>by
  by_cases hc:rk L far (j+1)<m
  ·have e:gf L far m (j+1)=gf L far m j:=if_pos hc
   obtain⟨h1,h2,h3⟩:=sE hm j
   rw [e]
   refine⟨jL h1,h2,λi g1 g2=>?_⟩
   by_cases hi:i=j+1
   ·rw [hi];exact hc
   ·exact h3 i g1 (by exact RP g2 hi)
  ·have e:gf L far m (j+1)=j+1:=if_neg hc
   rw [e]
   exact⟨aF _,cn hc,λi g1 g2=>by exact RO g1 g2⟩
theorem ln{L:List (List LS)}{far:List LS}{m:Nat}(hm:m<=L.length):d4 L far m <+: far/\m<=yM L (d4 L far m) /\ ∀q,q <+: far->m<=yM L q->q <+: d4 L far m:=by
 obtain⟨h1,h2,h3⟩:=sE (far:=far) hm far.length
 refine⟨List.take_prefix _ _,by rw [xc h1]at h2;exact h2,λq hq hc=>?_⟩
 have hql:=hq.length_le
 have e:=yU.mp hq
 have hle:q.length<=gf L far m far.length:=by
  rcases eX (gf L far m far.length) q.length with g | g
  ·have:=h3 q.length g hql
   rw [xc hql,<-e]at this
   exact RN hc this
  ·exact g
 rw [e]
 exact List.take_prefix_take_left hle
theorem qa{L:List (List LS)}(hn:L≠[]):L.length / 2+1<=yM L (bw L)/\(∀q,L.length / 2+1<=yM L q->q <+: bw L) /\ ∃r∈L,bw L <+: r:=by
 have hpos:0<L.length:=b5.mpr hn
 have hm:L.length / 2+1<=L.length:=by exact OY hpos
 have hne:(L.map λr=>d4 L r (L.length / 2+1))≠[]:=λq=>hn (bQ.mp q)
 obtain⟨h1,h2⟩:=qT hne
 obtain⟨r,hr,e⟩:=aH.mp h1
 have hv:bw L=d4 L r (L.length / 2+1):=e.symm
 have hc:L.length / 2+1<=yM L (bw L):=by rw [hv];exact(ln hm).2.1
 refine⟨hc,λq hq=>?_,r,hr,by rw [hv];exact(ln hm).1⟩
 have hf:(L.filter (lm q))≠[]:=λe=>by unfold yM at hq;rw [e]at hq;exact absurd hq (pV _)
 obtain⟨s,hs⟩:=mq _ hf
 obtain⟨hs1,hs2⟩:=vD.mp hs
 obtain⟨g1,g2,g3⟩:=ln (L:=L) (far:=s) hm
 have g4:=g3 q (fQ.mp hs2) hq
 have g5:(d4 L s (L.length / 2+1)).length<=(bw L).length:=h2 _ (aH.mpr ⟨s,hs1,rfl⟩)
 rcases Ki g2 hc with g | g
 ·exact g4.trans g
 ·rw [g.eq_of_length_le g5];exact g4
theorem A7{L:List (List LS)}(hn:L≠[]){P:List LS->Prop}(hP:∀p r,p <+: r->P r->P p)(h:∀r∈L,P r):P (bw L):=by
 obtain⟨_,_,r,hr,h1⟩:=qa hn
 exact hP _ _ h1 (h r hr)
theorem zV{L:List (List LS)}(hn:L≠[])(far:List LS):d4 L far (L.length / 2+1)=gZ (bw L) far:=by
 have hpos:0<L.length:=b5.mpr hn
 obtain⟨g1,g2,g3⟩:=ln (L:=L) (far:=far) (m:=L.length / 2+1) (by exact OY hpos)
 obtain⟨v1,v2,_⟩:=qa hn
 have h1:d4 L far (L.length / 2+1) <+: gZ (bw L) far:=tS _ _ _ (v2 _ g2) g1
 have h2:gZ (bw L) far <+: d4 L far (L.length / 2+1):=g3 _ (pe _ _) (ah v1 (Ix (rj _ _)))
 exact h1.eq_of_length_le h2.length_le
end Mine.W
end
section
namespace Mine.W
theorem rT:∀{r:List LS},r≠[]->(ce [47] r).length+1=cc r
 | [],h=>absurd rfl h
 | [x],_=>by rw [eG];rfl
 | x::y::r,_=>by
  have ih:=rT (r:=y::r) (gy _ _)
  rw [eG,<-ih]
  show(x++[47]++ce [47] (y::r)).length+1=_
  rw [ai,ai]
  show x.length+1+_+1=_
  exact RM
theorem CT{p V:List LS}(h:p <+: V)(hne:p≠V)(hV:eU V):(aG p).length<(aG V).length:=by
 obtain⟨t,rfl⟩:=h
 cases t with
 | nil=>exact absurd (aP p).symm hne
 | cons c t=>
  have hc:=hV c (cg _ aj)
  have hc0:0<c.length:=b5.mpr hc.1
  have hs:cc (p++c::t)=cc p+(c.length+1+cc t):=by rw [gA,eG]
  have h1:=rT (r:=p++c::t) (λq=>by have:=congrArg bX q;rw [ai,aq]at this;exact absurd this (by simp))
  show(ce [47] p).length+1<(ce [47] (p++c::t)).length+1
  rw [h1,hs]
  by_cases hp:p=[]
  ·rw [hp];show 0+1<_;exact RL hc0
  ·rw [rT hp];exact RJ
theorem sv{α:Type}(P:α->Bool):∀(u:List α) (m:Nat),m<=(u.filter P).length->(∀A b C,u=A++b::C->(∃c∈C,P c=true)->P b=true)->m<=u.length /\ ∀y∈u.take m,P y=true
 | u,0,_,_=>⟨bo _,λy hy=>by rw [jD]at hy;cases hy⟩
 | [],m+1,h,_=>absurd h (pV m)
 | y::u,m+1,h,hc=>by
  have hy:P y=true:=by
   by_cases e:∃c∈u,P c=true
   ·exact hc [] y u rfl e
   ·have:u.filter P=[]:=by rw [AD];exact λc hcm q=>e ⟨c,hcm,q⟩
    rw [d5,this]at h
    by_cases hy:P y=true
    ·exact hy
    ·rw [if_neg hy]at h;exact absurd h (pV m)
  rw [d5,if_pos hy,aq]at h
  obtain⟨h1,h2⟩:=sv P u m (Nat.le_of_succ_le_succ h) λA b C e=>hc (y::A) b C (by rw [e];rfl)
  refine⟨cV h1,λz hz=>?_⟩
  rw [qr]at hz
  rcases aw.mp hz with rfl | hz
  ·exact hy
  ·exact h2 z hz
theorem ME{α:Type}(P:α->Bool){m:Nat}(hm:0<m):∀(t:List α),m<=(t.filter P).length->(∀A b C,t=A++b::C->(∃a∈A,P a=true)->(∃c∈C,P c=true)->P b=true)->∃a,a+m<=t.length /\ ∀y∈(t.drop a).take m,P y=true:=by
 intro t
 induction t with
 | nil=>
  intro h _
  exact absurd h (by show ¬m<=0;exact RI hm)
 | cons x t ih=>
  intro h hc
  by_cases hx:P x=true
  ·obtain⟨h1,h2⟩:=sv P (x::t) m h λA b C e hC=>by
    cases A with
    | nil=>cases e;exact hx
    | cons a A=>cases e;exact hc (x::A) b C rfl ⟨x,aj,hx⟩ hC
   exact⟨0,by exact RH h1,h2⟩
  ·rw [d5,if_neg hx]at h
   obtain⟨a,h1,h2⟩:=ih h λA b C e ⟨a,ha,ha'⟩=>hc (x::A) b C (by rw [e];rfl) ⟨a,am _ ha,ha'⟩
   exact⟨a+1,by rw [aq];exact RG h1,h2⟩
theorem mZ{α:Type}{t:List α}{m j:Nat}(hm:0<m)(x:α):x∈(t.take (j+m)).drop (j+1)++(t.take (j+1)).drop j↔x∈(t.drop j).take m:=by
 have e1:(t.take (j+m)).drop (j+1)=((t.drop j).drop 1).take (m-1):=by
  rw [pE,Ly]
  congr 1
  exact RF
 have e2:(t.take (j+1)).drop j=(t.drop j).take 1:=by rw [pE];congr 1;exact Pi
 rw [e1,e2]
 cases h:t.drop j with
 | nil=>simp
 | cons y r=>
  obtain⟨m',rfl⟩:∃m',m=m'+1:=⟨m-1,by exact RE hm⟩
  rw [qr,List.drop_succ_cons,jG,FZ]
  simp only [qr,jD,dp,aw,bJ,or_false]
  exact or_comm
noncomputable def WZ(r:List LS):List LS:=[]::(if r=[]then [[]]else r)
noncomputable def Oe(a b:LS):Bool :=!decide (aL 47 b<aL 47 a)
theorem ni{a b:LS}:Oe a b=true ↔ ¬aL 47 b<aL 47 a:=by
 unfold Oe
 rw [cG,decide_eq_false_iff_not]
theorem uo(ss:List LS):(nv ss).Perm ss:=gn ss Oe
theorem uy{α:Type} [LT α](h:Md α){x y z:α}(h1:¬y<x)(h2:¬z<y):¬z<x:=λq=>by
 by_cases e:x<y
 ·exact h2 (h.trans _ _ _ q e)
 ·rw [h.tri x y e h1]at q
  exact h2 q
theorem wD{α:Type} [LT α](h:Md α){x y:α}:¬y<x \/ ¬x<y:=by
 by_cases e:y<x
 ·exact an λq=>h.irr _ (h.trans _ _ _ e q)
 ·exact av e
theorem xF(ss:List LS):(nv ss).Pairwise λa b=>Oe a b=true:=by
 refine jl (le:=Oe) (λa b c h1 h2=>ni.mpr (uy mA (ni.mp h1) (ni.mp h2))) (λa b=>?_) ss
 rw [fT]
 exact(wD mA).imp ni.mpr ni.mpr
theorem rS{L:List (List LS)}(hn:L≠[])(hg:∀r∈L,eU r):vZ (L.map aG)=aG (bw L):=by
 obtain⟨v1,v2,r0,hr0,v3⟩:=qa hn
 have hpos:0<L.length:=b5.mpr hn
 have hVg:eU (bw L):=uV v3 (hg r0 hr0)
 obtain⟨t,ht⟩:∃t,t=nv (L.map aG):=⟨_,rfl⟩
 have hperm:t.Perm (L.map aG):=ht▸uo _
 have hsort:t.Pairwise λa b=>Oe a b=true:=ht▸xF _
 have htl:t.length=L.length:=by rw [hperm.length_eq,ae]
 have hrow:∀s∈t,eU (cE s)/\aG (cE s)=s:=λs hs=>by
  obtain⟨r,hr,rfl⟩:=aH.mp (hperm.mem_iff.mp hs)
  rw [my (hg r hr)]
  exact⟨hg r hr,rfl⟩
 have hcnt:∀p,(t.filter λs=>lm p (cE s)).length=yM L p:=λp=>by
  have h1:=(hperm.filter λs=>lm p (cE s)).length_eq
  rw [h1]
  unfold yM
  rw [vF,ae]
  congr 1
  exact sm λr hr=>by show lm p (cE (aG r))=_;rw [my (hg r hr)]
 obtain⟨m,hm⟩:∃m,m=L.length / 2+1:=⟨_,rfl⟩
 have hm0:0<m:=by exact OX hm
 have hmn:m<=L.length:=by exact RD hpos hm
 have wtext:∀j,(iN t m j)=((iN t m j).map cE).map aG:=λj=>by
  rw [aI]
  refine((bf λs hs=>?_).trans (fY _)).symm
  have:s∈(t.drop j).take m:=(mZ hm0 s).mp hs
  exact(hrow s (iw (iv this))).2
 have wgood:∀j,∀r∈(iN t m j).map cE,eU r:=λj r hr=>by
  obtain⟨s,hs,rfl⟩:=aH.mp hr
  have:s∈(t.drop j).take m:=(mZ hm0 s).mp hs
  exact(hrow s (iw (iv this))).1
 have wcp:∀j,tR (iN t m j)=aG (Ir ((iN t m j).map cE)):=λj=>by
  conv=>lhs;rw [wtext j]
  exact DC (wgood j)
 have wpre:∀j,j+m<=L.length->Ir ((iN t m j).map cE) <+: bw L:=λj hj=>by
  refine v2 _ ?_
  rw [<-hm,<-hcnt]
  have hall:∀s∈(t.drop j).take m,lm (Ir ((iN t m j).map cE)) (cE s)=true:=λs hs=>fQ.mpr (Cb (aH.mpr ⟨s,(mZ hm0 s).mpr hs,rfl⟩))
  have hsub:((t.drop j).take m).Sublist t:=(List.take_sublist _ _).trans (F2 _ _)
  have:=(hsub.filter λs=>lm (Ir ((iN t m j).map cE)) (cE s)).length_le
  rw [iV.mpr hall,cD,cT,htl]at this
  exact RC hj this
 obtain⟨a,ha1,ha2⟩:∃a,a+m<=t.length /\ ∀s∈(t.drop a).take m,lm (bw L) (cE s)=true:=by
  by_cases hV:bw L=[]
  ·exact⟨0,by exact RB htl hmn,λs ζ=>by rw [hV,fQ];exact eu⟩
  ·refine ME (λs=>lm (bw L) (cE s)) hm0 t (by rw [hcnt,hm];exact v1) λA b C e ⟨x,hx,hx'⟩ ⟨y,hy,hy'⟩=>?_
   rw [e]at hsort
   obtain⟨_,s2,s3⟩:=CL.mp hsort
   have s4:=s3 x hx b aj
   have s5:=(lG.mp s2).1 y hy
   have tb:b∈t:=by rw [e];exact cg _ aj
   have tx:x∈t:=by rw [e];exact e9 _ hx
   have ty:y∈t:=by rw [e];exact cg _ (am _ hy)
   have sp:∀s∈t,aL 47 s=[]::(if cE s=[]then [[]]else cE s):=λs hs=>by
    have:=ui (hrow s hs).1
    rwa [(hrow s hs).2]at this
   have lift:∀s∈t,lm (bw L) (cE s)=true->[]::bw L <+: aL 47 s:=λs hs h=>by
    have hp:=fQ.mp h
    rw [sp s hs,if_neg (λq=>by rw [q]at hp;exact hV (List.prefix_nil.mp hp))]
    exact dI.mpr ⟨rfl,hp⟩
   have:=zr rQ _ _ _ (aL 47 b) (lift x tx hx') (lift y ty hy') (ni.mp s4) (ni.mp s5)
   rw [sp b tb]at this
   have h2:=(dI.mp this).2
   rw [fQ]
   split at h2
   ·cases hv:bw L with
    | nil=>exact absurd hv hV
    | cons c V=>
     rw [hv]at h2
     have:=(dI.mp h2).1
     exact absurd this (hVg c (by rw [hv];exact aj)).1
   ·exact h2
 have hcpa:Ir ((iN t m a).map cE)=bw L:=by
  have h1:=wpre a (by exact RA htl ha1)
  have h2:bw L <+: Ir ((iN t m a).map cE):=by
   refine Iq ?_ λr hr=>?_
   ·intro q
    have q':iN t m a=[]:=bQ.mp q
    have h3:(t.drop a).take m≠[]:=λq=>by
     have:=congrArg bX q
     rw [cD,cT,cj]at this
     exact Rz hm0 ha1 this
    obtain⟨s,hs⟩:=mq _ h3
    have:=(mZ hm0 s).mpr hs
    unfold iN at q'
    rw [q']at this
    cases this
   ·obtain⟨s,hs,rfl⟩:=aH.mp hr
    exact fQ.mp (ha2 s ((mZ hm0 s).mp hs))
  exact h1.eq_of_length_le h2.length_le
 have hmet:vZ (L.map aG)=(kH ((cM (L.length-m+1)).map λk=>tR (iN t m k))).getD []:=by unfold vZ;rw [ae,<-hm,<-ht]
 have hne:((cM (L.length-m+1)).map λk=>tR (iN t m k))≠[]:=λq=>by
  have:=congrArg bX q
  rw [ae,hU,cj]at this
  exact Pc this
 obtain⟨l1,l2⟩:=qT hne
 rw [<-hmet]at l1 l2
 obtain⟨j,hj,e⟩:=aH.mp l1
 rw [iu]at hj
 have h3:=l2 _ (aH.mpr ⟨a,iu.mpr (by exact Ry htl ha1),rfl⟩)
 rw [wcp a,hcpa,<-e,wcp j]at h3
 rw [<-e,wcp j]
 by_cases hq:Ir ((iN t m j).map cE)=bw L
 ·rw [hq]
 ·exact absurd (CT (wpre j (by exact Rx hmn hj)) hq hVg) (by exact Pu h3)
end Mine.W
end
section
namespace Mine.W
theorem EE{α:Type} [LT α]:∀(d:List α) (c:α) (r:List α),d<d++c::r:=by
 intro d
 induction d with
 | nil=>
  intro c r
  exact List.Lex.nil
 | cons z d ih=>
  intro c r
  exact List.Lex.cons (ih c r)
theorem zP:∀{p q:List LS},p <+: q->ce [47] p <+: ce [47] q
 | [],q,_=>eu
 | [x],q,h=>by
  obtain⟨t,rfl⟩:=h
  obtain⟨u,hu⟩:=wS (x:=x) (r:=t)
  exact⟨u,hu.symm⟩
 | x::y::p,q,h=>by
  obtain⟨t,rfl⟩:=h
  show x++[47]++ce [47] (y::p) <+: x++[47]++ce [47] (y::p++t)
  exact(List.prefix_append_right_inj _).mpr (zP (jj _ t))
theorem zd{p q:List LS}(h:p <+: q)(hne:p≠q)(hq:eU q):aG p<aG q:=by
 have h1:aG p <+: aG q:=dI.mpr ⟨rfl,zP h⟩
 have h2:=CT h hne hq
 obtain⟨t,ht⟩:=h1
 cases t with
 | nil=>rw [<-ht,aP]at h2;exact absurd h2 (eY _)
 | cons c t=>rw [<-ht];exact EE _ c t
noncomputable abbrev wP(r far:List LS):List LS:=Ir [r,far]
theorem Dd(r far:List LS):wP r far <+: r:=Cb aj
theorem uP(r far:List LS):wP r far <+: far:=Cb (am _ aj)
theorem Hk{q r far:List LS}(h1:q <+: r)(h2:q <+: far):q <+: wP r far:=Iq (λq=>nomatch q) λs hs=>by
 rcases aw.mp hs with rfl | hs
 ·exact h1
 ·rw [aC]at hs;rw [hs];exact h2
theorem Nf(r far:List LS):gZ r far=wP r far:=
 (Hk (rj _ _) (pe _ _)).eq_of_length_le (tS _ _ _ (Dd r far) (uP r far)).length_le
noncomputable def Od(a b:LS):Bool :=!decide (b<a)
theorem nh{a b:LS}:Od a b=true ↔ ¬b<a:=by
 unfold Od
 rw [cG,decide_eq_false_iff_not]
theorem Bi(ss:List LS):(fZ ss).Perm ss:=gn ss Od
theorem xE(ss:List LS):(fZ ss).Pairwise λa b=>Od a b=true:=by
 refine jl (le:=Od) (λa b c h1 h2=>nh.mpr (uy rQ (nh.mp h1) (nh.mp h2))) (λa b=>?_) ss
 rw [fT]
 exact(wD rQ).imp nh.mpr nh.mpr
theorem Ap{L:List (List LS)}{far:List LS}(hf:eU far){i:Nat}(hi:i<L.length):Aq (L.map λr=>aG (wP r far)) i=aG (d4 L far (L.length-i)):=by
 obtain⟨t,ht⟩:∃t,t=fZ (L.map λr=>aG (wP r far)):=⟨_,rfl⟩
 have hperm:t.Perm (L.map λr=>aG (wP r far)):=ht▸Bi _
 have hsort:t.Pairwise λa b=>Od a b=true:=ht▸xE _
 have htl:t.length=L.length:=by rw [hperm.length_eq,ae]
 have hit:i<t.length:=by exact Rw hi htl
 have good:∀p,p <+: far->eU p:=λp h=>uV h hf
 have hrow:∀s∈t,∃p,s=aG p/\p <+: far:=λs hs=>by
  obtain⟨r,hr,rfl⟩:=aH.mp (hperm.mem_iff.mp hs)
  exact⟨_,rfl,uP r far⟩
 have hcnt:∀p,p <+: far->(t.filter λs=>lm p (cE s)).length=yM L p:=λp hp=>by
  rw [(hperm.filter λs=>lm p (cE s)).length_eq]
  unfold yM
  rw [vF,ae]
  congr 1
  refine sm λr hr=>?_
  show lm p (cE (aG (wP r far)))=_
  rw [my (good _ (uP r far)),Bool.eq_iff_iff,fQ,fQ]
  exact⟨λh=>h.trans (Dd r far),λh=>Hk h hp⟩
 have hat:Aq (L.map λr=>aG (wP r far)) i=t[i]:=by
  unfold Aq
  rw [<-ht,dg,bR hit];rfl
 rw [hat]
 have esplit:t=t.take i++t[i]::t.drop (i+1):=by rw [<-bY hit,jZ]
 obtain⟨p,hp,hpf⟩:=hrow t[i] (List.getElem_mem hit)
 have hsort':=hsort
 rw [esplit]at hsort'
 obtain⟨_,s2,s3⟩:=CL.mp hsort'
 have s4:=(lG.mp s2).1
 have rowt:∀q,q <+: far->cE (aG q)=q:=λq hq=>my (good q hq)
 have hm:L.length-i<=L.length:=fA _ _
 obtain⟨f1,f2,f3⟩:=ln (L:=L) (far:=far) hm
 have up:p <+: d4 L far (L.length-i):=by
  refine f3 p hpf ?_
  rw [<-hcnt p hpf]
  have hall:∀s∈t.drop i,lm p (cE s)=true:=λs hs=>by
   rw [bY hit]at hs
   rw [fQ]
   rcases aw.mp hs with rfl | hs
   ·rw [hp,rowt p hpf];exact vC
   ·obtain⟨q,hq,hqf⟩:=hrow s (iw hs)
    have h5:=nh.mp (s4 s hs)
    rw [hq,hp]at h5
    rw [hq,rowt q hqf]
    rcases xK hpf hqf with h | h
    ·exact h
    ·by_cases e:q=p
     ·rw [e];exact vC
     ·exact absurd (zd h e (good p hpf)) h5
  have:=((F2 i t).filter λs=>lm p (cE s)).length_le
  rw [iV.mpr hall,cT,htl]at this
  exact this
 have dn:d4 L far (L.length-i) <+: p:=by
  rcases xK f1 hpf with h | h
  ·exact h
  ·by_cases e:p=d4 L far (L.length-i)
   ·rw [<-e];exact vC
   ·exfalso
    have hnone:∀s∈t.take (i+1),¬lm (d4 L far (L.length-i)) (cE s)=true:=λs hs q=>by
     have hst:s∈t:=iv hs
     obtain⟨u,hu,huf⟩:=hrow s hst
     rw [hu,rowt u huf,fQ]at q
     have hlt:aG p<aG u:=zd (h.trans q) (λe2=>e (h.eq_of_length_le (by rw [e2];exact q.length_le))) (good u huf)
     rw [List.take_succ_eq_append_getElem hit]at hs
     rcases dp.mp hs with hs | hs
     ·have h5:=nh.mp (s3 s hs t[i] aj)
      rw [hu,hp]at h5
      exact h5 hlt
     ·rw [aC]at hs
      rw [hs]at hu
      rw [hp]at hu
      rw [hu]at hlt
      exact rQ.irr _ hlt
    have h6:=hcnt (d4 L far (L.length-i)) f1
    rw [<-jZ (i+1) t,List.filter_append,AD.mpr hnone,ew]at h6
    have h7:=g8 (λs=>lm (d4 L far (L.length-i)) (cE s)) (t.drop (i+1))
    rw [cT]at h7
    exact Rv htl hit f2 h6 h7
 rw [hp,up.eq_of_length_le dn.length_le]
theorem uv{L:List (List LS)}{far:List LS}(hn:L≠[])(hf:eU far):Aq (L.map λr=>aG (wP r far)) ((L.length-1) / 2)=aG (wP (bw L) far):=by
 have hpos:0<L.length:=b5.mpr hn
 rw [Ap hf (by exact Pe hpos),show L.length-(L.length-1) / 2=L.length / 2+1 by exact Ru hpos,zV hn,Nf]
theorem Eb{L:List (List LS)}{far:List LS}(hn:L≠[])(hf:eU far):Aq (L.map λr=>aG (wP r far)) (L.length / 2)=aG (d4 L far ((L.length+1) / 2)):=by
 have hpos:0<L.length:=b5.mpr hn
 rw [Ap hf (by exact Rt hpos),show L.length-L.length / 2=(L.length+1) / 2 by exact OW]
theorem yi{r far:List LS}(h1:eU r)(h2:eU far):tR [aG r,aG far]=aG (wP r far):=
 DC (rows:=[r,far]) λs hs=>by
  rcases aw.mp hs with rfl | hs
  ·exact h1
  ·rw [aC]at hs;rw [hs];exact h2
end Mine.W
end
section
namespace Mine.W
theorem gL{a b:LS}(h1:iT a)(h2:iT b):iT (a++b):=λc hc=>(dp.mp hc).elim (h1 c) (h2 c)
theorem oD(i:Nat)(h:i<10):iT (jr i):=by
 have:∀i:Fin 10,∀c∈jr i.1,c=39\/c∈mi:=by
  intro i
  match i with
  | ⟨0,_⟩ | ⟨1,_⟩ | ⟨2,_⟩ | ⟨3,_⟩ | ⟨4,_⟩ | ⟨5,_⟩ | ⟨6,_⟩ | ⟨7,_⟩ | ⟨8,_⟩ | ⟨9,_⟩=>
   intro c hc
   simp only [jr,GP,List.getD_cons_zero,List.getD_cons_succ,aw,bJ,or_false]at hc
   all_goals simp only [mi,aw,bJ,or_false]
   all_goals first | (rcases hc with rfl | rfl | rfl<;>decide) | (rcases hc with rfl | rfl<;>decide) | (cases hc;decide)
  | ⟨n+10,h⟩=>exact absurd h (km (gX 10 n))
 exact this ⟨i,h⟩
theorem vx:iT [47]:=λc hc=>by rw [aC]at hc;rw [hc];exact an (by decide)
theorem DS(x:Int):((∃w,nW x=46::w) \/ ∃w,nW x=47::46::w)/\iT (nW x):=by
 have h1:((∃w,pC x=46::w) \/ ∃w,pC x=47::46::w)/\iT (pC x):=by
  unfold pC
  cases decide (x<0)
  ·exact⟨av ⟨_,rfl⟩,gL (gL (λc hc=>by rw [show(bif false then [47,46]else [46]:LS)=[46]from rfl,aC]at hc;rw [hc];exact an (by decide)) vx) (oD _ (ma _ (by decide)))⟩
  ·refine⟨an ⟨_,rfl⟩,gL (gL (λc hc=>?_) vx) (oD _ (ma _ (by decide)))⟩
   rcases aw.mp (show c∈([47,46]:LS)from hc)with rfl | hc
   ·exact an (by decide)
   ·rw [aC]at hc;rw [hc];exact an (by decide)
 unfold nW
 cases decide (99<x.natAbs)
 ·exact h1
 ·refine⟨h1.1.imp (λ⟨w,e⟩=>⟨w++[47]++jr (x.natAbs / 100 % 10),?_⟩) (λ⟨w,e⟩=>⟨w++[47]++jr (x.natAbs / 100 % 10),?_⟩),gL (gL h1.2 vx) (oD _ (ma _ (by decide)))⟩
  ·show pC x++[47]++_=_;rw [e];rfl
  ·show pC x++[47]++_=_;rw [e];rfl
theorem xr(x:Int):sM (gu x):=by
 obtain⟨h1,h2⟩:=DS x
 unfold gu
 cases nW x==[46,47]
 ·exact⟨an h1,y4 x,h2⟩
 ·exact⟨av rfl,bo _,λc hc=>nomatch hc⟩
theorem y0{w:LS}(h:sM w):(w.take 4==eH)=false:=by
 rw [beq_eq_false_iff_ne]
 intro q
 rcases h.1 with rfl | ⟨w',rfl⟩ | ⟨w',rfl⟩
 ·exact nomatch q
 ·exact absurd (jH q).1 (by decide)
 ·exact absurd (jH q).1 (by decide)
theorem u0:sM eI:=⟨an (av ⟨_,rfl⟩),bv rfl,λc hc=>by
 simp only [aw,bJ,or_false]at hc
 rcases hc with rfl | rfl | rfl<;>exact an (by decide)⟩
noncomputable def Cr(m:Nat):cO->Prop
 | .way w=>sM w
 | .sub w ws=>sM w/\ws.length<=m /\ ∀x∈ws,sM x
theorem Cr.mono{m:Nat}{v:cO}(h:Cr m v):Cr (m+1) v:=by
 cases v with
 | way w=>exact h
 | sub w ws=>exact⟨h.1,jL h.2.1,h.2.2⟩
noncomputable def rx(m:Nat)(V:List cO):Prop:=V.length<=m /\ ∀v∈V,Cr m v
theorem xt{m:Nat}{V:List cO}{v:cO}(h:rx m V)(hv:Cr (m+1) v):rx (m+1) (V++[v]):=by
 refine⟨by rw [ai];exact cV h.1,λu hu=>?_⟩
 rcases dp.mp hu with hu | hu
 ·exact(h.2 u hu).mono
 ·rw [aC]at hu;rw [hu];exact hv
theorem JQ{m:Nat}{s:VS}(x:Int)(h:rx m (ez s)):rx (m+1) (ez (dw s x)):=by
 unfold dw
 split
 ·exact xt h (xr x)
 ·split
  ·exact xt h ⟨xr x,bo _,λy hy=>nomatch hy⟩
  ·obtain⟨V,cur⟩:=s
   cases cur with
   | none=>exact xt h (xr x)
   | some z=>
    obtain⟨w,ws⟩:=z
    have h':rx m (V++[.sub w ws]):=h
    refine⟨by have:=h'.1;rw [ai]at this;show(V++[cO.sub w (ws++[gu x])]).length<=_;rw [ai];exact jL this,λu hu=>?_⟩
    rcases dp.mp (show u∈V++[cO.sub w (ws++[gu x])]from hu)with hu | hu
    ·exact(h'.2 u (e9 _ hu)).mono
    ·rw [aC]at hu
     rw [hu]
     obtain⟨a,b,c⟩:=h'.2 _ (cg _ (aC.mpr rfl))
     refine⟨a,by rw [ai];exact cV b,λy hy=>?_⟩
     rcases dp.mp hy with hy | hy
     ·exact c y hy
     ·rw [aC]at hy;rw [hy];exact xr x
theorem KJ:∀(l:List Int) (s:VS) (m:Nat),rx m (ez s)->rx (m+l.length) (ez (l.foldl dw s)):=by
 intro l
 induction l with
 | nil=>
  intro s m h
  exact h
 | cons x l ih=>
  intro s m h
  have:=ih (dw s x) (m+1) (JQ x h)
  rwa [g0,gR 1]at this
theorem JE(ns:List Int):rx 8 (fc ns):=by
 have h:=KJ (lU++ns.take 5) ([],none) 0 ⟨aF 0,λv hv=>nomatch hv⟩
 have hl:(lU++ns.take 5).length<=8:=by
  rw [ai,cD]
  have:lU.length=3:=rfl
  exact Rr this
 have up:∀(j m:Nat) (V:List cO),rx m V->rx (m+j) V:=by
  intro j
  induction j with
  | zero=>exact λm V h=>h
  | succ j ih=>exact λm V h=>⟨jL (ih m V h).1,λv hv=>((ih m V h).2 v hv).mono⟩
 have:=up (8-(lU++ns.take 5).length) _ _ h
 rwa [dU,FH hl]at this
theorem sA{s:LS}(h:iT s):iT (c7 s):=by
 have h39:iT [39]:=λc hc=>av (aC.mp hc)
 unfold c7
 cases s.isEmpty
 ·cases !s.any cW
  ·refine gL (gL h39 ?_) h39
   intro c hc
   unfold dO at hc
   obtain⟨x,hx,hc⟩:=tr.mp hc
   split at hc
   ·simp only [aw,bJ,or_false]at hc
    rcases hc with rfl | rfl | rfl | rfl | rfl
    all_goals first | exact av rfl | exact an (by decide)
   ·rw [aC]at hc;rw [hc];exact h x hx
  ·exact h
 ·exact λc hc=>by
   simp only [cond_true,aw,bJ,or_false]at hc
   rcases hc with rfl | rfl<;>exact av rfl
theorem El(s:LS):(c7 s).length<=5*s.length+2:=by
 unfold c7
 cases s.isEmpty
 ·cases !s.any cW
  ·have:=rM s
   show([39]++dO 39 [39,34,39,34,39] s++[39]).length<=_
   rw [ai,ai];show 1+_+1<=_;exact Rq this
  ·show s.length<=_;exact Rp
 ·show 2<=_;exact Ro
theorem uL:∀{ws:List LS},(∀w∈ws,iT w)->iT (lO ws)
 | [],_=>λc hc=>nomatch hc
 | [w],h=>sA (h w aj)
 | w::v::ws,h=>by
  have ih:=uL (ws:=v::ws) λu hu=>h u (am _ hu)
  show iT (c7 w++[32]++lO (v::ws))
  refine gL (gL (sA (h w aj)) λc hc=>?_) ih
  rw [aC]at hc;rw [hc];exact an (by decide)
theorem Gk{m:Nat}:∀{l:List LS},(∀w∈l,w.length<=m)->((l.map c7).map bX).sum<=l.length*(5*m+2):=by
 intro l
 induction l with
 | nil=>
  intro _
  exact bo _
 | cons w l ih=>
  intro h
  have ih:=ih λu hu=>h u (am _ hu)
  have h1:=El w
  have h2:=h w aj
  simp only [aN,qu,aq]
  rw [Nat.succ_mul]
  have:5*w.length+2<=5*m+2:=by exact Rn h2
  exact Rm ih h1 this
theorem Hh{ws:List LS}{m:Nat}(h:∀w∈ws,w.length<=m):(lO ws).length<=ws.length*(5*m+3):=by
 have h1:=jQ [32] (ws.map c7)
 have h2:=Gk h
 have h3:([32]:LS).length=1:=rfl
 rw [ae,h3,f8]at h1
 unfold lO
 have:ws.length*(5*m+3)=ws.length*(5*m+2)+ws.length:=by rw [show 5*m+3=5*m+2+1 from rfl,Nat.mul_succ]
 exact Rl h1 h2 this
theorem EI(w:LS)(ws:List LS):((lO (eH::w::ws)).take 4==eH)=true:=by
 have:lO (eH::w::ws)=eH++([32]++lO (w::ws)):=by
  show c7 eH++[32]++_=_
  rw [aQ];rfl
 rw [this];rfl
theorem qf:iT eH:=λc hc=>by
 simp only [aw,bJ,or_false]at hc
 rcases hc with rfl | rfl | rfl | rfl<;>exact an (by decide)
end Mine.W
end
section
namespace Mine.W
noncomputable def j5(v:PV):LS:=(pO v).getD []
noncomputable def og:PV->List LS
 | .tup l=>l.map j5
 | _=>[]
theorem nf(l:List LS):(l.map PV.str).map j5=l:=by rw [aI];exact fY l
theorem na(r:List LS):og (tupP r)=r:=nf r
theorem C9(l:List (List LS)):(l.map tupP).map og=l:=by
 rw [aI]
 exact(bf λr ζ=>na r).trans (fY l)
noncomputable def HO:PV->List LS
 | .tup l=>l.map j5
 | .list l=>bw (l.map og)
 | _=>[]
theorem oW(r:fw):HO (dd r)=b6 r:=by
 cases r with
 | leaf r=>exact nf r
 | node l=>show bw ((l.map tupP).map og)=_;rw [C9];rfl
noncomputable def ze:PV->PV
 | .tup l=>.str (aG (l.map j5))
 | .list l=>.list (l.map λv=>.str (aG (og v)))
 | _=>.none
theorem kO(r:fw):ze (dd r)=bZ r:=by
 cases r with
 | leaf r=>show PV.str (aG ((r.map .str).map j5))=_;rw [nf];rfl
 | node l=>
  show PV.list ((l.map tupP).map λv=>.str (aG (og v)))=_
  rw [aI]
  exact congrArg PV.list (bf λr ζ=>by show PV.str (aG (og (tupP r)))=_;rw [na])
noncomputable def PH:PV->LS
 | .str s=>s
 | .list l=>vZ (l.map j5)
 | _=>[]
noncomputable def C0(far:LS):PV->LS
 | .str s=>tR [s,far]
 | .list l=>Aq (l.map λv=>tR [j5 v,far]) ((l.length-1) / 2)
 | _=>[]
noncomputable def jA(r:List LS):Prop:=eU r/\cc r<=100
noncomputable def kz(l:List (List LS)):Prop:=l≠[]/\l.length<50 /\ ∀r∈l,jA r
noncomputable def wh:fw->Prop
 | .leaf r=>jA r
 | .node l=>kz l
theorem Gv{p r:List LS}(h:p <+: r):cc p<=cc r:=by
 obtain⟨t,rfl⟩:=h
 rw [gA];exact dA _ _
theorem J3{p r:List LS}(h:p <+: r)(hr:jA r):jA p:=⟨uV h hr.1,ah (Gv h) hr.2⟩
theorem ub{L:List (List LS)}(h:kz L):jA (bw L):=A7 h.1 (P:=jA) (λζ ζ=>J3) h.2.2
theorem tL{r:fw}(h:wh r):jA (b6 r):=by
 cases r with
 | leaf r=>exact h
 | node l=>exact ub h
theorem xI{r:List LS}(h:jA r):r.length<=100:=ah (j8 r) h.2
theorem JL{r:List LS}(h:jA r):yz (aG r):=⟨ah (ud r) (ah (cV h.2) (by decide)),_,rfl⟩
theorem MF{L:List (List LS)}(h:kz L){j:Nat}(hj:j+(L.length / 2+1)<=L.length):mJ (iN (nv (L.map aG)) (L.length / 2+1) j):=by
 obtain⟨t,ht⟩:∃t,t=nv (L.map aG):=⟨_,rfl⟩
 obtain⟨m,hm⟩:∃m,m=L.length / 2+1:=⟨_,rfl⟩
 rw [<-ht,<-hm]
 have hm0:0<m:=by exact OX hm
 have hperm:t.Perm (L.map aG):=ht▸uo _
 have htl:t.length=L.length:=by rw [hperm.length_eq,ae]
 have hrow:∀s∈iN t m j,jA (cE s)/\aG (cE s)=s:=λs hs=>by
  have:s∈(t.drop j).take m:=(mZ hm0 s).mp hs
  obtain⟨r,hr,rfl⟩:=aH.mp (hperm.mem_iff.mp (iw (iv this)))
  rw [my (h.2.2 r hr).1]
  exact⟨h.2.2 r hr,rfl⟩
 have e:iN t m j=((iN t m j).map cE).map aG:=by
  rw [aI]
  exact((bf λs hs=>(hrow s hs).2).trans (fY _)).symm
 have hlen:(iN t m j).length<=200:=by
  unfold iN
  have:=h.2.1
  rw [ai,cT,cD,cT,cD];exact Rk htl this
 rw [e]
 refine r8 (λq=>?_) (by rw [ae];exact Rj hlen) λr hr=>?_
 ·have q':iN t m j=[]:=bQ.mp q
  have h3:(t.drop j).take m≠[]:=λq=>by
   have:=congrArg bX q
   rw [cD,cT,cj]at this
   exact Ri hj hm0 htl this
  obtain⟨s,hs⟩:=mq _ h3
  have:=(mZ hm0 s).mpr hs
  unfold iN at q'
  rw [q']at this
  cases this
 ·obtain⟨s,hs,rfl⟩:=aH.mp hr
  have:=(hrow s hs).1
  exact⟨this.1,ah this.2 (by decide)⟩
theorem LU{k:Nat}{L:List (List LS)}{vs:List PV}{g:PV->LS}(hL:kz L)(e:vs.map g=L.map aG)(hv:∀v∈vs,v = .str (g v) \/ ∃l,v = .list l/\bz l=true/\dP (k+2) 952 [v] (.str (g v))):dP (k+3) 952 [.list vs] (.str (aG (bw L))):=by
 have hlen:vs.length=L.length:=by have:=congrArg bX e;rwa [ae,ae]at this
 have hpos:0<L.length:=b5.mpr hL.1
 have hl:=hL.2.1
 rw [<-rS hL.1 λr hr=>(hL.2.2 r hr).1,<-e]
 refine Qi (λq=>by rw [q]at hlen;exact absurd hlen.symm (by show L.length≠0;exact Rh hpos)) (by exact OV hlen hl) (λv hv'=>⟨hv v hv',?_⟩) λj hj=>?_
 ·have:g v∈L.map aG:=e▸aH.mpr ⟨v,hv',rfl⟩
  obtain⟨r,hr,h1⟩:=aH.mp this
  rw [<-h1]
  exact JL (hL.2.2 r hr)
 ·rw [e,hlen]
  rw [hlen]at hj
  exact MF hL (by exact Rg hpos hj)
theorem Hd(own:List fw):own.map b6=(own.map dd).map HO:=by
 rw [aI]
 exact bf λr ζ=>(oW r).symm
theorem J9{k:Nat}{own:List fw}(h:∀r∈own,wh r)(hn:own≠[])(hl:own.length<50):dP (k+4) 952 [.list (own.map bZ)] (.str (aG (bw (own.map b6)))):=by
 refine LU (k:=k+1) (g:=PH) ⟨λq=>hn (bQ.mp q),by rw [ae];exact hl,λr hr=>?_⟩ ?_ λv hv=>?_
 ·obtain⟨x,hx,rfl⟩:=aH.mp hr
  exact tL (h x hx)
 ·rw [aI,aI]
  refine bf λr hr=>?_
  cases r with
  | leaf r=>rfl
  | node l=>
   show vZ ((l.map λr=>PV.str (aG r)).map j5)=aG (bw l)
   rw [aI]
   exact rS (h _ hr).1 λr hr'=>((h _ hr).2.2 r hr').1
 ·obtain⟨r,hr,rfl⟩:=aH.mp hv
  cases r with
  | leaf r=>exact av rfl
  | node l=>
   have hL:kz l:=h _ hr
   refine an ⟨_,rfl,bN (f:=λr=>PV.str (aG r)) λr ζ=>rfl,?_⟩
   have e:PH (bZ (.node l))=aG (bw l):=by
    show vZ ((l.map λr=>PV.str (aG r)).map j5)=aG (bw l)
    rw [aI]
    exact rS hL.1 λr hr'=>(hL.2.2 r hr').1
   rw [e]
   refine LU (k:=k) (g:=j5) hL (by rw [aI];rfl) λv hv=>?_
   obtain⟨r,_,rfl⟩:=aH.mp hv
   exact av rfl
theorem Dn{k:Nat}{l:List (List LS)}(h:kz l):dP (k+2) 947 [.list (l.map tupP)] (tupP (bw l)):=by
 have:=Ds (k:=k) (vs:=l.map tupP) (f:=og) (λq=>h.1 (bQ.mp q)) (by rw [ae];have:=h.2.1;exact Ke this) λv hv=>by
  obtain⟨r,hr,rfl⟩:=aH.mp hv
  rw [na]
  refine⟨av (by rw [na]),?_⟩
  have:=xI (h.2.2 r hr);exact MU this
 rwa [C9]at this
theorem Er{k:Nat}{own:List fw}(h:∀r∈own,wh r)(hn:own≠[])(hl:own.length<50):dP (k+3) 947 [.list (own.map dd)] (tupP (bw (own.map b6))):=by
 rw [Hd]
 refine Ds (k:=k+1) (f:=HO) (λq=>hn (bQ.mp q)) (by rw [ae];exact Ke hl) λv hv=>?_
 obtain⟨r,hr,rfl⟩:=aH.mp hv
 have h1:=xI (tL (h r hr))
 refine⟨?_,by rw [oW];exact MU h1⟩
 cases r with
 | leaf r=>exact av (by rw [oW];rfl)
 | node l=>
  refine an ⟨_,rfl,bN (f:=tupP) λr ζ=>bG r,?_⟩
  rw [oW]
  exact Dn (h _ hr)
theorem GV{k:Nat}{own:List fw}{far:List LS}(h:∀r∈own,wh r)(hl:own.length<50)(hf:jA far):dP (k+4) 959 [.list (own.map bZ),.str (aG far)] (.list (((own.map b6).map λr=>aG (wP r far)).map .str)):=by
 have ck:∀r,jA r->mJ [aG r,aG far]:=λr hr=>r8 (rows:=[r,far]) (λq=>nomatch q) (by show 2<1000;decide) λs hs=>by
  rcases aw.mp hs with rfl | hs
  ·exact⟨hr.1,ah hr.2 (by decide)⟩
  ·rw [aC]at hs;rw [hs];exact⟨hf.1,ah hf.2 (by decide)⟩
 have nd:∀l,kz l->C0 (aG far) (bZ (.node l))=aG (wP (bw l) far)/\(l.map λr=>PV.str (aG r)).map (C0 (aG far))=l.map λr=>aG (wP r far):=λl hL=>by
  have e:(l.map λr=>PV.str (aG r)).map (C0 (aG far))=l.map λr=>aG (wP r far):=by
   rw [aI]
   exact bf λr hr=>yi (hL.2.2 r hr).1 hf.1
  refine⟨?_,e⟩
  show Aq ((l.map λr=>PV.str (aG r)).map λv=>tR [j5 v,aG far]) (((l.map λr=>PV.str (aG r)).length-1) / 2)=_
  rw [ae,aI]
  rw [<-uv hL.1 hf.1]
  congr 1
  exact bf λr hr=>yi (hL.2.2 r hr).1 hf.1
 have e:(own.map b6).map (λr=>aG (wP r far))=(own.map bZ).map (C0 (aG far)):=by
  rw [aI,aI]
  refine bf λr hr=>?_
  cases r with
  | leaf r=>exact(yi (h _ hr).1 hf.1).symm
  | node l=>exact(nd l (h _ hr)).1.symm
 rw [e]
 refine HP (k:=k+1) (by rw [ae];exact Ke hl) λv hv=>?_
 obtain⟨r,hr,rfl⟩:=aH.mp hv
 cases r with
 | leaf r=>exact av ⟨_,rfl,rfl,ck r (h _ hr)⟩
 | node l=>
  have hL:kz l:=h _ hr
  refine an ⟨_,l.map λr=>aG (wP r far),rfl,bN (f:=λr=>PV.str (aG r)) λr ζ=>rfl,?_,λq=>hL.1 (bQ.mp q),by rw [ae];have:=hL.2.1;exact OU this,?_⟩
  ·rw [<-(nd l hL).2]
   refine HP (k:=k) (by rw [ae];have:=hL.2.1;exact Ke this) λv hv=>?_
   obtain⟨r,hr',rfl⟩:=aH.mp hv
   exact av ⟨_,rfl,rfl,ck r (hL.2.2 r hr')⟩
  ·rw [(nd l hL).1,ae]
   exact(uv hL.1 hf.1).symm
theorem GW{k:Nat}{own:List fw}{fars:List (List LS)}(h:∀r∈own,wh r)(hn:own≠[])(hl:own.length<50)(hf:∀f∈fars,jA f):Au (k+4) fars own where
 len:=by exact OT hl
 met:=J9 h hn hl
 val:=Er (k:=k+1) h hn hl
 txt:=by
  have hR:kz (own.map b6):=⟨λq=>hn (bQ.mp q),by rw [ae];exact hl,λr hr=>by
   obtain⟨x,hx,rfl⟩:=aH.mp hr
   exact tL (h x hx)⟩
  exact ah (ub hR).2 (by decide)
 inn:=λl hl'=>Dn (k:=k+2) (h _ hl')
 flen:=λf hf'=>⟨by have:=xI (hf f hf');exact MU this,ah (hf f hf').2 (by decide)⟩
 seen:=λf hf'=>by
  have hR:kz (own.map b6):=⟨λq=>hn (bQ.mp q),by rw [ae];exact hl,λr hr=>by
   obtain⟨x,hx,rfl⟩:=aH.mp hr
   exact tL (h x hx)⟩
  have hfg:=hf f hf'
  have hv:=ub hR
  refine⟨(own.map b6).map λr=>aG (wP r f),λq=>hR.1 (bQ.mp q),by rw [ae,ae];exact OU hl,GV h hl hfg,?_,?_,?_⟩
  ·exact r8 (rows:=[bw (own.map b6),f]) (λq=>nomatch q) (by show 2<1000;decide) λs hs=>by
    rcases aw.mp hs with rfl | hs
    ·exact⟨hv.1,ah hv.2 (by decide)⟩
    ·rw [aC]at hs;rw [hs];exact⟨hfg.1,ah hfg.2 (by decide)⟩
  ·rw [ae,yi hv.1 hfg.1]
   exact uv hR.1 hfg.1
  ·rw [ae]
   have:=Eb hR.1 hfg.1
   rwa [show(own.map b6).length=own.length from ae _]at this ⊢
end Mine.W
end
section
namespace Mine.W
theorem EH{α:Type}{step:bq->List aO->PV->Option St}{Φ:St->Prop}(S:Option PV->bq)(F G:α->PV)(init:List PV)(l:List α)(hb:init.length+l.length<100000)
  (hs:∀o a acc,a∈l->acc.length<100000->step (S o) [.tab,.lst acc] (F a)=some (.next,S (some (F a)),[.tab,.lst (acc++[G a])]))(he:∀o,Φ (.next,S o,[.tab,.lst (init++l.map G)])):Fx step (l.map F) (S none) [.tab,.lst init] Φ:=by
 refine ii (λxs σ R=>∃o done rest,l=done++rest/\xs=rest.map F/\σ=S o/\R=([.tab,.lst (init++done.map G)]:List aO)) ?_ ?_ _ _ _ ⟨none,[],l,rfl,rfl,rfl,by rw [lw,aP]⟩
 ·rintro x xs σ R ⟨o,done,rest,h1,h2,rfl,rfl⟩
  cases rest with
  | nil=>cases h2
  | cons a rest=>
   simp only [aN,dF]at h2
   obtain⟨rfl,rfl⟩:=h2
   have hm:a∈l:=by rw [h1];exact cg _ aj
   have hl:(init++done.map G).length<100000:=by rw [ai,ae];rw [h1,ai]at hb;exact Pn hb
   refine⟨_,hs o a _ hm hl,some (F a),done++[a],rest,by rw [h1,aQ];rfl,rfl,rfl,?_⟩
   rw [bV,aQ];rfl
 ·rintro σ R ⟨o,done,rest,h1,h2,rfl,rfl⟩
  cases rest with
  | cons a rest=>cases h2
  | nil=>
   rw [aP]at h1
   subst h1
   exact he o
theorem w1{α:Type}{k:Nat}{line w:LS}{l:List α}{F:α->LS}{G:α->PV}{here:List LS}(hn:l.length<1000)(hs:dP (k+3) 884 [.str line,.bool true] (.list ((eH::w::l.map F).map .str)))(hw:lY here w)
  (hv:∀a∈l,noObj (G a)=true/\((((F a).take 4==eH)=true/\dP (k+3) 918 [.str (F a),.str (aG (aZ here w))] (G a))\/(((F a).take 4==eH)=false/\lY (aZ here w) (F a)/\G a = .str (aG (aZ (aZ here w) (F a)))))) :
  dP (k+4) 918 [.str line,.str (aG here)] (.list (.str (aG (aZ here w))::l.map G)):=by
 intro R hR
 have hno:bz (l.map G)=true:=bN λv hx=>(hv v hx).1
 have emap:(l.map F).map PV.str=l.map λa=>PV.str (F a):=by rw [aI];rfl
 refine dY (R1:=[.tab,.dead]) ?_ rfl hno rfl hR
 refine cH (fi:=⟨br (aK pw 54),[]⟩) (σ:=[("line",.str line),("here",.str (aG here))]) ∅ ∅ ?_
 refine b8 (.list ((eH::w::l.map F).map .str)) [("line",.str line),("here",.str (aG here)),("words",.list ((eH::w::l.map F).map .str))] (R1:=[.tab]) (ej (g:=884) (as:=[.str line,.bool true]) (R1:=[.tab]) ∅ ∅ ∅ ∅ (hs _ rfl)) ∅ ∅ ∅ ?_
 refine cQ (R1:=[.tab]) ∅ (aX ?_)
 refine b8 (.str (aG (aZ here w))) [("line",.str line),("here",.str (aG (aZ here w))),("words",.list ((eH::w::l.map F).map .str))] (R1:=[.tab]) (rh hw ∅ ∅ ∅ ∅ ∅ ∅ ∅ rfl) ∅ ∅ ∅ ?_
 refine aR [("line",.str line),("here",.str (aG (aZ here w))),("words",.list ((eH::w::l.map F).map .str)),("places",.obj 1)] (R1:=[.tab,.lst [.str (aG (aZ here w))]]) ∅ ?_
 refine gB (xs:=(l.map F).map .str) (σ1:=[("line",.str line),("here",.str (aG (aZ here w))),("words",.list ((eH::w::l.map F).map .str)),("places",.obj 1)]) (R1:=[.tab,.lst [.str (aG (aZ here w))]]) (fV ∅ ∅ ∅) ∅ ?_
 rw [emap]
 refine EH (λo=>("line",.str line)::("here",.str (aG (aZ here w)))::("words",.list ((eH::w::l.map F).map .str))::("places",.obj 1)::(o.map λv=>(("word":Str),v)).toList) (λa=>.str (F a)) G [.str (aG (aZ here w))] l (by show 1+_<_;exact M0 hn) (λo a acc hx ha=>?_) (λo=>?_)
 ·refine oP [("line",.str line),("here",.str (aG (aZ here w))),("words",.list ((eH::w::l.map F).map .str)),("places",.obj 1),("word",.str (F a))] (by cases o<;>kernel_rfl) (cR ?_)
  rcases(hv a hx).2 with ⟨h1,h2⟩ | ⟨h1,h2,h3⟩
  ·refine r4 (R1:=[.tab,.lst acc]) (m7 (b:=(F a).take 4==eH) ∅ h1) (cR (gE (ei (x:=.obj 1) (as:=[G a]) (R1:=[.tab,.lst acc]) (R2:=[.tab,.lst acc]) ∅ ∅ (fh ?_) (dq (l:=acc) rfl rfl (bI ha (by decide))))))
   exact ej (g:=918) (as:=[.str (F a),.str (aG (aZ here w))]) (R1:=[.tab,.lst acc]) ∅ ∅ ∅ ∅ (h2 _ rfl)
  ·refine gD (R1:=[.tab,.lst acc]) (m7 (b:=(F a).take 4==eH) ∅ h1) (cR (gE (ei (x:=.obj 1) (as:=[G a]) (R1:=[.tab,.lst acc]) (R2:=[.tab,.lst acc]) ∅ ∅ (fh ?_) (dq (l:=acc) rfl rfl (bI ha (by decide))))))
   rw [h3]
   exact rh h2 ∅ ∅ ∅ ∅ ∅ ∅ ∅ rfl
 ·exact cP (.list (.str (aG (aZ here w))::l.map G)) (R1:=[.tab,.dead]) (by cases o<;>kernel_rfl) ⟨rfl,rfl⟩
noncomputable abbrev h0:List LS:=aZ [] eI
noncomputable def Ej:cO->fw
 | .way w=>.leaf (aZ h0 w)
 | .sub w ws=>.node (aZ h0 w::ws.map (aZ (aZ h0 w)))
noncomputable def oa(V:List cO):List fw:=.leaf h0::V.map Ej
noncomputable def vU:cO->LS
 | .way w=>w
 | .sub w ws=>lO (eH::w::ws)
noncomputable abbrev VP(V:List cO):PV:=.list [.str eI,.list (V.map jm)]
theorem j7{here:List LS}{w:LS}{m:Nat}(h:eU here/\cc here<=m)(hw:sM w):eU (aZ here w)/\cc (aZ here w)<=m+11:=
 ⟨BV h.1 w,ah (Bl here w) (cr h.2 (cV hw.2.1))⟩
theorem nw:eU h0/\cc h0<=11:=j7 (here:=[]) (m:=0) ⟨uW,aF 0⟩ u0
theorem up{r:List LS}{m:Nat}(h:eU r/\cc r<=m)(hm:m<=100):jA r:=⟨h.1,ah h.2 hm⟩
theorem J4{v:cO}(h:Cr 8 v):wh (Ej v):=by
 cases v with
 | way w=>exact up (j7 nw h) (by decide)
 | sub w ws=>
  obtain⟨a,b,c⟩:=h
  refine⟨gy _ _,by rw [aq,ae];exact OS b,λr hr=>?_⟩
  rcases aw.mp hr with rfl | hr
  ·exact up (j7 nw a) (by decide)
  ·obtain⟨x,hx,rfl⟩:=aH.mp hr
   exact up (j7 (j7 nw a) (c x hx)) (by decide)
theorem GH{V:List cO}(h:rx 8 V):∀r∈oa V,wh r:=λr hr=>by
 rcases aw.mp hr with rfl | hr
 ·exact up nw (by decide)
 ·obtain⟨v,hv,rfl⟩:=aH.mp hr
  exact J4 (h.2 v hv)
noncomputable def NR(h:List LS):PV->PV
 | .str s=>tupP (aZ h s)
 | .list [.str w,.list l]=>.list (tupP (aZ h w)::l.map λv=>tupP (aZ (aZ h w) (j5 v)))
 | _=>.none
theorem vc(v:cO):NR h0 (jm v)=dd (Ej v):=by
 cases v with
 | way w=>rfl
 | sub w ws=>
  show PV.list (tupP (aZ h0 w)::(ws.map PV.str).map λv=>tupP (aZ (aZ h0 w) (j5 v)))=PV.list ((aZ h0 w::ws.map (aZ (aZ h0 w))).map tupP)
  rw [aN,aI,aI];rfl
theorem NB{k:Nat}{V:List cO}(h:rx 8 V):dP (k+3) 932 [VP V,.tup []] (.list ((oa V).map dd)):=by
 have e:(oa V).map dd=tupP h0::(V.map jm).map (NR h0):=by
  unfold oa
  rw [aN,aI,aI]
  exact congrArg (_ :: ·) (bf λv ζ=>(vc v).symm)
 rw [e]
 intro R hR
 refine HQ (k:=k+1) (here:=[]) (w:=eI) (f:=NR h0) (bv rfl) (by rw [ae];have:=h.1;exact Es this) (λv hv=>?_) hR
 obtain⟨u,hu,rfl⟩:=aH.mp hv
 have hu':=h.2 u hu
 have hh:cc h0<=11:=nw.2
 have hhl:=j8 h0
 refine⟨by rw [vc];exact lg _,?_⟩
 cases u with
 | way w=>exact av ⟨w,rfl,rfl,by have:=hu'.2.1;show h0.length+_<=_;exact OR hh hhl this⟩
 | sub w ws=>
  obtain⟨a,b,c⟩:=hu'
  refine an ⟨_,rfl,by show(true&&(bz (ws.map .str)&&true))=true;rw [bG];rfl,λR hR=>?_⟩
  refine HQ (k:=k) (here:=h0) (w:=w) (f:=λv=>tupP (aZ (aZ h0 w) (j5 v))) (by have:=a.2.1;exact OR hh hhl this) (by rw [ae];exact Es b) (λv hv=>?_) hR
  obtain⟨s,hs,rfl⟩:=aH.mp hv
  refine⟨bG _,av ⟨s,rfl,rfl,?_⟩⟩
  have h1:=(c s hs).2.1
  have h2:=(j7 nw a).2
  have h3:=j8 (aZ h0 w)
  exact Rf h1 h2 h3
theorem Gn{v:cO}(h:Cr 8 v):iT (vU v)/\(vU v).length<=600:=by
 cases v with
 | way w=>exact⟨h.2.2,ah h.2.1 (by decide)⟩
 | sub w ws=>
  obtain⟨a,b,c⟩:=h
  have h1:∀x∈eH::w::ws,iT x/\x.length<=10:=λx hx=>by
   rcases aw.mp hx with rfl | hx
   ·exact⟨qf,by decide⟩
   ·rcases aw.mp hx with rfl | hx
    ·exact⟨a.2.2,a.2.1⟩
    ·exact⟨(c x hx).2.2,(c x hx).2.1⟩
  have h2:=Hh λx hx=>(h1 x hx).2
  refine⟨uL λx hx=>(h1 x hx).1,ah h2 ?_⟩
  exact ah (kC _ (cV (cV b))) (by decide)
noncomputable def Ow:PV->LS
 | .str s=>s
 | .list [.str w,.list l]=>lO (eH::w::l.map j5)
 | _=>[]
theorem uf(v:cO):Ow (jm v)=vU v:=by
 cases v with
 | way w=>rfl
 | sub w ws=>show lO (eH::w::(ws.map PV.str).map j5)=_;rw [nf];rfl
theorem NC{k:Nat}{V:List cO}(h:rx 8 V):dP (k+3) 911 [VP V] (.str (lO (eH::eI::V.map vU))):=by
 have e:V.map vU=(V.map jm).map Ow:=by
  rw [aI]
  exact bf λv ζ=>(uf v).symm
 have bnd:∀(l:List LS) (m:Nat),(∀x∈l,x.length<=600)->l.length<=10->((l.map c7).map bX).sum+(m+2)<=100000+m:=λl m h1 h2=>by
  exact p3 (ah (Gk h1) (kC _ h2))
 have hV:=h.1
 have hall:∀x∈V.map vU,x.length<=600:=λx hx=>by
  obtain⟨v,hv,rfl⟩:=aH.mp hx
  exact(Gn (h.2 v hv)).2
 have hall2:∀x∈eH::eI::V.map vU,x.length<=600:=λx hx=>by
  rcases aw.mp hx with rfl | hx
  ·decide
  ·rcases aw.mp hx with rfl | hx
   ·decide
   ·exact hall x hx
 have b1:=bnd (eH::eI::V.map vU) (V.map jm).length hall2 (by rw [aq,aq,ae];exact OQ hV)
 rw [e]at b1 hall ⊢
 refine HR (k:=k+1) (by rw [ae];exact Es hV) (ah b1 (by rw [ae];exact Rd hV)) (λs hs=>?_) λv hv=>?_
 ·rcases aw.mp hs with rfl | hs
  ·decide
  ·have:=hall s hs;exact OP this
 ·obtain⟨u,hu,rfl⟩:=aH.mp hv
  have hu':=h.2 u hu
  rw [uf]
  cases u with
  | way w=>exact av ⟨w,rfl,rfl⟩
  | sub w ws=>
   obtain⟨a,b,c⟩:=hu'
   refine an ⟨_,rfl,by show(true&&(bz (ws.map .str)&&true))=true;rw [bG];rfl,?_⟩
   have hx:∀x∈eH::w::ws,x.length<=600:=λx hx=>by
    rcases aw.mp hx with rfl | hx
    ·decide
    ·rcases aw.mp hx with rfl | hx
     ·have:=a.2.1;exact OO this
     ·have:=(c x hx).2.1;exact OO this
   have b2:=bnd (eH::w::ws) ws.length hx (by rw [aq,aq];exact OQ b)
   have:=HR (k:=k) (w:=w) (vs:=ws.map .str) (g:=j5) (by rw [ae];exact Es b) (by rw [nf,ae];exact Rc b b2) (by rw [nf];exact λs hs=>by have:=hx s (am _ hs);exact OP this) (λv hv=>by
    obtain⟨s,_,rfl⟩:=aH.mp hv
    exact av ⟨s,rfl,rfl⟩)
   rwa [nf]at this
theorem HI{k:Nat}{V:List cO}(h:rx 8 V):dP (k+7) 918 [.str (lO (eH::eI::V.map vU)),.str [47]] (.list ((oa V).map bZ)):=by
 have hV:=h.1
 have e:(oa V).map bZ = .str (aG h0)::V.map λv=>bZ (Ej v):=by unfold oa;rw [aN,aI];rfl
 rw [e]
 have hf:lY [] eI:=qL uW u0 (by show 0<=1000;exact Rb)
 refine w1 (k:=k+3) (here:=[]) (w:=eI) (by exact Es hV) (Dv (k:=k+1) (ws:=eH::eI::V.map vU) (λw hw=>?_) (λq=>nomatch q) (by rw [aq,aq,ae];exact ON hV)) hf λv hv=>?_
 ·rcases aw.mp hw with rfl | hw
  ·exact⟨qf,by decide⟩
  ·rcases aw.mp hw with rfl | hw
   ·exact⟨u0.2.2,by decide⟩
   ·obtain⟨v,hv,rfl⟩:=aH.mp hw
    have:=Gn (h.2 v hv)
    exact⟨this.1,ah this.2 (by decide)⟩
 ·refine⟨lM _,?_⟩
  have hv':=h.2 v hv
  cases v with
  | way w=>exact an ⟨y0 hv',qL nw.1 hv' (ah nw.2 (by decide)),rfl⟩
  | sub w ws=>
   obtain⟨a,b,c⟩:=hv'
   refine av ⟨EI w ws,?_⟩
   have e2:bZ (Ej (.sub w ws)) = .list (.str (aG (aZ h0 w))::ws.map λx=>.str (aG (aZ (aZ h0 w) x))):=by
    show PV.list ((aZ h0 w::ws.map (aZ (aZ h0 w))).map λr=>.str (aG r))=_
    rw [aN,aI];rfl
   rw [e2]
   have hs:∀x∈eH::w::ws,iT x/\x.length<=10000:=λx hx=>by
    rcases aw.mp hx with rfl | hx
    ·exact⟨qf,by decide⟩
    ·rcases aw.mp hx with rfl | hx
     ·exact⟨a.2.2,by have:=a.2.1;exact OM this⟩
     ·exact⟨(c x hx).2.2,by have:=(c x hx).2.1;exact OM this⟩
   refine w1 (k:=k+2) (F:=id) (here:=h0) (w:=w) (by exact Es b) ?_ (qL nw.1 a (ah nw.2 (by decide))) λx hx=>⟨rfl,an ⟨y0 (c x hx),qL (j7 nw a).1 (c x hx) (ah (j7 nw a).2 (by decide)),rfl⟩⟩
   rw [mv]
   exact Dv (k:=k) hs (λq=>nomatch q) (by rw [aq,aq];exact ON b)
theorem NA{k:Nat}{rows:List fw}(h:∀r∈rows,wh r)(hl:rows.length<50):dP (k+3) 937 [.list (rows.map dd)] (.list (rows.map bZ)):=by
 have e:rows.map bZ=(rows.map dd).map ze:=by
  rw [aI]
  exact bf λr ζ=>(kO r).symm
 rw [e]
 intro R hR
 refine Du (by rw [ae];exact ah (bg hl) (by decide)) (λx hx=>?_) (bN λr ζ=>lg r) (λx hx=>?_) hR
 ·obtain⟨r,hr,rfl⟩:=aH.mp hx
  rw [kO]
  cases r with
  | leaf r=>exact λR hR=>tN (ah (h _ hr).2 (by decide)) hR
  | node l=>
   have hL:kz l:=h _ hr
   have e2:(l.map λr=>PV.str (aG r))=(l.map tupP).map ze:=by
    rw [aI]
    exact bf λr ζ=>(kO (.leaf r)).symm
   show dP _ _ _ (.list (l.map λr=>PV.str (aG r)))
   rw [e2]
   intro R hR
   refine Du (by rw [ae];exact ah (bg hL.2.1) (by decide)) (λx hx=>?_) (bN (f:=tupP) λr ζ=>bG r) (λx hx=>?_) hR
   ·obtain⟨r,hr',rfl⟩:=aH.mp hx
    rw [show ze (tupP r) = .str (aG r)from kO (.leaf r)]
    exact λR hR=>tN (ah (hL.2.2 r hr').2 (by decide)) hR
   ·obtain⟨r,hr',rfl⟩:=aH.mp hx
    rw [show ze (tupP r) = .str (aG r)from kO (.leaf r)];rfl
 ·obtain⟨r,hr,rfl⟩:=aH.mp hx
  rw [kO];exact lM r
theorem Dp{rows:List fw}(h:∀r∈rows,wh r):∀f∈gK rows,jA f:=by
 have hp:∀f∈rows.flatMap ge,jA f:=λf hf=>by
  obtain⟨r,hr,hf⟩:=tr.mp hf
  cases r with
  | leaf r=>rw [show ge (.leaf r)=[r]from rfl,aC]at hf;rw [hf];exact h _ hr
  | node l=>exact(h _ hr).2.2 f hf
 have go:∀(l acc:List (List LS)),(∀f∈acc,jA f)->(∀f∈l,jA f)->∀f∈l.foldl oE acc,jA f:=by
  intro l
  induction l with
  | nil=>exact λacc ha ζ=>ha
  | cons x l ih=>
   intro acc ha hl
   refine ih _ (λf hf=>?_) λf hf=>hl f (am _ hf)
   unfold oE at hf
   cases hc:acc.any λy=>y==x with
   | true=>rw [hc]at hf;exact ha f hf
   | false=>
    rw [hc]at hf
    rcases dp.mp hf with hf | hf
    ·exact ha f hf
    ·rw [aC]at hf;rw [hf];exact hl x aj
 exact go _ [] (λf hf=>nomatch hf) hp
theorem KN{h:List LS}{rest:List fw}:gK (.leaf h::rest)≠[]:=by
 have go:∀(l acc:List (List LS)),acc≠[]->l.foldl oE acc≠[]:=by
  intro l
  induction l with
  | nil=>exact λacc h=>h
  | cons x l ih=>
   intro acc ha
   refine ih _ ?_
   unfold oE
   cases acc.any λy=>y==x
   ·show acc++[x]≠[];simp
   ·exact ha
 exact go (rest.flatMap ge) [h] (λq=>nomatch q)
theorem law_true(ns:List Int)(hn:ns.length<=63):∃R',fG 11 964 [.list (ns.map .int)] [] [.tab]=some (.bool true,R')/\R'[0]? = some .tab:=by
 have h:=JE ns
 have hr:=GH h
 have hV:=h.1
 have hS:noObj (.list (ns.map .int))=true:=bN (f:=PV.int) λζ ζ=>rfl
 have hVn:noObj (VP (fc ns))=true:=by
  show(true&&(bz ((fc ns).map jm)&&true))=true
  rw [bN λv ζ=>?_]at ⊢
  ·rfl
  ·cases v with
   | way w=>rfl
   | sub w ws=>show(true&&(bz (ws.map .str)&&true))=true;rw [bG];rfl
 have hlen:(oa (fc ns)).length<50:=by unfold oa;rw [aq,ae];exact OS hV
 have hparts:((oa (fc ns)).flatMap ge).length<50000:=by
  have:∀l:List fw,(∀r∈l,wh r)->(l.flatMap ge).length<=l.length*50:=by
   intro l
   induction l with
   | nil=>exact λζ=>aF 0
   | cons r l ih=>
    intro hl
    have h1:=ih λx hx=>hl x (am _ hx)
    have h2:(ge r).length<=50:=by
     have:=hl r aj
     cases r with
     | leaf r=>show 1<=50;decide
     | node l=>exact bg this.2.1
    rw [jF,ai,aq,Nat.succ_mul]
    exact Ra h1 h2
  have:=this _ hr
  exact Q9 hlen this
 obtain⟨R',h1,h2⟩:=Qj (k:=5) (rows:=oa (fc ns)) (h:=h0) (rest:=(fc ns).map Ej) rfl hS hVn (NL (k:=8) hn) (NB (k:=7) h) (NC (k:=7) h) (HI (k:=3) h) (NA (k:=7) hr hlen) (by exact OT hlen) hparts KN λown ho=>by
  rcases aw.mp ho with rfl | ho
  ·exact⟨gy _ _,GW (k:=6) hr (gy _ _) hlen (Dp hr)⟩
  ·obtain⟨r,hr',rfl⟩:=aH.mp ho
   obtain⟨hr1,hr2⟩:=vD.mp hr'
   cases r with
   | leaf r=>cases hr2
   | node l=>
    have hL:kz l:=hr _ hr1
    have hne:zA (.node l)≠[]:=λq=>hL.1 (bQ.mp q)
    refine⟨hne,GW (k:=6) (λx hx=>?_) hne (by show(l.map fw.leaf).length<50;rw [ae];exact hL.2.1) (Dp hr)⟩
    obtain⟨y,hy,rfl⟩:=aH.mp hx
    exact hL.2.2 y hy
 have:=dY (k:=10) (R:=[.tab]) h1 (by show(noObj (.list (ns.map .int))&&true)=true;rw [hS];rfl) rfl h2 rfl
 exact⟨[.tab],this,rfl⟩
end Mine.W
end
theorem PySem.Challenge.cw_ik0231_01_holds : PySem.Challenge.rw_ik0231_01.Holds :=
 Mine.holds_of (Mine.law_from Mine.W.law_true)
