import PyProof.Rows.All
import KE.KNestM
import KE.KPar
import KE.KSliceW
import KE.KSortAsk
import KE.KSortTup
import KE.KDictIter
import KE.KDictLaws
import KE.KLam
import PySem.Challenge.RW_ta0056_01
section
open And renaming intro->bc
open Array renaming getD_eq_getD_getElem?->ku,length_toList->na,toList_inj->pQ,toList_append->tK,toList_extract->tL,getElem?_toList->zd,getElem?_eq_getElem->DQ,size_eq_zero_iff->DR,eraseIdxIfInBounds->Mh,getElem?_eq_none->Mi,mem_toList_iff->Mj,size_push->Mk
open Bool renaming true->X,false->ai,rec->ci,and_eq_true->eJ,and_eq_true_iff->fp,false_ne_true->jk,false_eq_true->lq,not_eq_true'->lr,eq_iff_iff->oq,or_eq_true->pS,eq_false_iff->rL,not_eq_false'->zg,not_not->zh,or_true->zi,toNat_lt->DS,or_false->Ml,toNat->Mm
open Classical renaming em->gi,choice->zj,byContradiction->as7,epsilon->as8,epsilon_spec->as9,not_forall->at0,not_imp->at1
open Decidable renaming decide->aI
open Eq renaming trans->DU
open ForIn renaming forIn->mn
open ForInStep renaming yield->rN
open Function renaming comp->at2
open Iff renaming rfl->tS,trans->DZ
open Inhabited renaming default->kv
open Int renaming natCast_nonneg->cj,toNat->cw,toNat_of_nonneg->hw,ofNat_lt->jn,le_antisymm->kw,not_lt->mq,self_le_toNat->oz,le_max_left->vT,max_eq_right->vU,ofNat_le->vV,toNat_natCast->vW,mul_le_mul_of_nonneg_left->zp,natCast_pow->zq,add_le_add->Ea,le_max_right->Eb,le_refl->Ec,le_of_eq->MG,mul_one->MH,ofNat_fdiv->MJ
open Int.Internal.Linear renaming Expr->at3,eq_eq_true->at4,le_eq_true->at5
open Int.Internal.Linear.Expr renaming num->eS,mulL->fe,neg->iL,mulR->tT,sub->zo
open Int.ofNat renaming inj->MI
open LawfulBEq renaming eq_of_beq->hd
open LawfulMonad renaming pure_bind->wb
open List renaming length_map->aW,length_append->bN,mem_cons->bO,mem_singleton->bU,replicate->cP,mem_map->cT,append_nil->cZ,map_cons->da,map_append->de,mem_append->dQ,range->dR,getD_eq_getElem?_getD->ed,lookup_cons->ee,append_assoc->eo,mem_append_left->eH,flatMap_cons->eT,lookup->fa,mem_append_right->ff,getElem?_eq_some_iff->fq,map->ft,rec->fu,size_toArray->fv,getElem?_map->gj,getElem?_eq_getElem->gz,length_cons->gO,all_eq_true->hH,filterMap_cons->ii,length->iM,getElem?_eq_none->jo,length_range->jp,map_map->jq,getElem?_append_left->jM,isEmpty_iff->jN,length_drop->jO,mem_of_getElem?->jP,not_mem_nil->jQ,reverse_cons->jR,filter_cons->kz,take_append_drop->kA,nodup_cons->lx,take_of_length_le->ly,getElem_mem->mu,drop_drop->ng,mem_flatMap->oC,nodup_nil->oD,drop_eq_getElem_cons->qb,drop_of_length_le->qc,drop_zero->qd,filter->qe,forIn_cons->qf,getElem?_take->qg,length_take->qh,map_congr_left->qi,mem_filterMap->qj,mem_map_of_mem->qk,mem_of_mem_take->ql,mem_range->qm,drop_take->rT,length_mapIdx->rU,length_replicate->rV,mem_cons_self->rW,mem_filter->rX,range'->rY,cons_append->tU,drop_left->tV,ext_getElem?->tW,extract_eq_take_drop->tX,getElem?_append_right->tY,getElem?_range->tZ,getElem_map->ua,mem_cons_of_mem->ub,replicate_succ->uc,sum_cons->ud,all_cons->wc,drop_append_of_le_length->wd,flatMap_def->we,length_nil->wf,length_set->wg,mem_iff_getElem->wh,mem_range'_1->wi,reverse_reverse->wj,take->wk,take_left->wm,contains_iff_mem->zs,drop->zt,elem_iff->zu,filter_nil->zv,flatMap_map->zw,getElem?_eq_none_iff->zx,getElem?_nil->zy,getElem_mapIdx->zz,idxOf_lt_length_of_mem->zA,length_filterMap_le->zB,mapIdx_cons->zC,map_drop->zD,map_flatMap->zE,map_nil->zF,map_take->zG,nodup_append->zH,take_succ_cons->zI,all_map->Ef,any_cons->Eg,drop_nil->Eh,filterMap->Ei,filter_flatMap->Ej,flatMap_append->Ek,flatten_cons->El,foldl_cons->Em,forIn_nil->En,getElem?_of_mem->Eo,getLast?_eq_some_getLast->Ep,length_eq_zero_iff->Er,length_reverse->Es,map_singleton->Et,mem_insertIdx->Eu,nil_append->Ev,pairwise_map->Ew,replicate_succ'->Ex,take_length->Ey,take_nil->Ez,cons->MM,dropLast_concat->MN,drop_length->MO,drop_succ_cons->MP,eraseIdx_toArray->MQ,filterMap_append->MR,filterMap_eq_nil_iff->MT,filterMap_map->MU,filter_eq_nil_iff->MV,flatMap_assoc->MW,flatMap_nil->MX,getElem?_insertIdx->MY,getElem?_set->MZ,getElem?_set_ne->Na,getLastD_eq_getLast?->Nb,idxOf_cons->Nc,length_erase_of_mem->Nd,length_flatMap->Nf,length_insertIdx->Ng,length_insertIdx_le_succ->Nh,length_pos_iff->Ni,map_const'->Nj,map_id->Nk,map_inj_left->Nl,map_snd_zip->Nm,mem_reverse->Nn,nil_eq_append_iff->No,pairwise_iff_getElem->Np,perm_insertIdx->Nq,range_succ->Nr,set_append_right->Nt,sum_append->Nu,sum_replicate_nat->Nv,take_add_one->Nw,take_succ_eq_append_getElem->Nx,take_take->Ny
open List.Nodup renaming mem_erase_iff->at7
open List.Perm renaming refl->Ee,append_left->at8,eq_of_pairwise->at9
open List.cons renaming inj->ms
open Max renaming max->du
open Min renaming min->dI
open Nat renaming le_trans->aK,le_antisymm->aZ,le_refl->ba,le_of_ble_eq_true->bA,lt_of_le_of_lt->cd,not_lt->cq,lt_or_gt_of_ne->cu,zero_le->cy,beq->cU,le_of_lt->dx,sub_add_cancel->dD,le_of_eq->dM,le_add_right->dS,ble->ei,add_right_comm->fg,lt_trans->fh,succ_le_succ->fi,zero_add->fw,mod_lt->fI,add_comm->fS,succ_pos->fT,le_succ_of_le->hf,lt_of_lt_of_le->ij,ne_of_lt->ik,rec->il,succ->im,lt_of_le_of_ne->iO,add_le_add_right->jS,land->jT,le_of_not_lt->jU,mul_div_le->jV,add_le_add_left->kB,add_assoc->lz,lt_succ_self->lA,min_eq_left->lB,sub_le->lC,beq_refl->nh,eq_of_beq_eq_true->ni,le_succ->nj,pred->nk,mul->oE,add_sub_cancel_left->qo,lt_mul_div_succ->qp,sub_self->qq,lt_succ_of_lt->rZ,min_le_left->sa,lor->ue,lt_succ_of_le->uf,shiftLeft_eq->ug,le_of_lt_succ->wo,lt_add_of_pos_right->wp,lt_of_not_le->wq,lt_or_eq_of_le->wr,max_eq_left->ws,min_le_right->wt,mul_le_mul_left->wu,ne_of_gt->wv,pow_pos->ww,pow_succ->wx,sub_le_iff_le_add->wy,testBit_and->wz,add_le_add->zL,add_sub_cancel->zM,ble_eq_true_of_le->zN,mul_le_mul->zO,not_le->zP,not_lt_zero->zQ,one_pos->zR,or_lt_two_pow->zS,shiftLeft->zT,testBit_or->zU,testBit_two_pow->zV,zero_testBit->zW,and_one_is_mod->EA,div_add_mod->EB,div_add_mod'->EC,div_div_eq_div_mul->ED,le_add_left->EE,le_of_succ_le->EF,lt_add_right->EG,lt_irrefl->EH,mul_add_mod->EI,one_shiftLeft->EJ,pow_le_pow_right->EK,shiftRight->EL,sub_lt_sub_left->EM,succ_le_of_lt->EN,testBit->EO,testBit_succ->EP,testBit_zero->EQ,beq_eq->NA,div_lt_of_lt_mul->NB,eq_of_testBit_eq->NC,le_of_succ_le_succ->ND,le_total->NE,le_zero->NF,log2_lt->NG,lt_of_succ_lt_succ->NH,lt_or_ge->NI,mul_add->NJ,mul_assoc->NK,not_succ_le_self->NL,shiftLeft_add_eq_or_of_lt->NM,sub->NN,sub_eq_zero_of_le->NO,sub_sub_self->NP,sub_zero->NQ,succ_mul->NR
open Nat.Internal.Linear renaming Expr->au0
open Nat.Internal.Linear.Expr renaming mulL->bn,mulR->hy,num->qn
open Nat.Internal.Linear.ExprCnstr renaming mk->zK,eq_true_of_isValid->Nz
open Nat.succ renaming inj->sb
open Ne renaming symm->jr
open Option renaming some->Q,none->U,map->eU,isNone_iff_eq_none->uh,map_eq_some_iff->zX,isSome_iff_exists->NT,isSome_none->NU
open Option.some renaming inj->wA,injEq->NV
open Or renaming inl->ef,inr->gP
open PUnit renaming unit->wB
open Prod renaming rec->hg
open Prod.mk renaming injEq->Aa
open Pure renaming pure->dj
open PyProof.Rows renaming seqObj->fA,args_cons->oF,args_nil->Ac,listUpdate_at->Ad,size_push'->ER,Subscript_->NY,Tuple_->NZ,UnaryOp_->Oa,listItems_at->Ob,markedEach_of_false->Oc,preSum_getD->Od,seqEpoch_at->Oe,tail_any->Of,typeIs_bool'->Og,wpAny_release'->Oh,BoolOp_and->au1,BoolOp_one->au2,BoolOp_or->au3,Constant_bool->au4,Constant_none->au5,IfExp_->au6,List_->au7,Raise_madeB->au8,Top->au9,and_int->av0,assign_Tuple->av1,chain_last->av2,chain_link->av3,floordiv_int->av4,getItem_tuple->av5,gives_int_lt_bools->av6,ilshift_int->av7,importsNone->av8,ior_int->av9,isTrue_and->aw0,isTrue_and_nil->aw1,isTrue_not->aw2,isTrue_or->aw3,isTrue_or_nil->aw4,isTrue_plain->aw5,kws_cons->aw6,lands_againW->aw7,listMul_foldl_if->aw8,lshift_int->aw9,mod_int'->ax0,not_of->ax1,or_int->ax2,rshift_int->ax3,test_link->ax4,truthy_none->ax5,wpAny_operate'->ax6
open PySem renaming Str->I,Value->aa,Shared->al,wpAny->an,Addr->ao,model->az,Expr->aC,wpAny_bind->aJ,Heap->aT,Env->bH,wpAny_pure->bP,Around->bR,Pos->bV,Sem->cC,Stmt->cD,Tok->cH,Comprehension->cK,eval->cQ,sysModules->cR,call->dF,Scope->dJ,wpAny_mono->eO,wpAny_holding->fk,strKind->fB,mainGlobals->gC,cLine->hJ,Flow->io,Obj->iR,assignEach->iS,wpAny_standAt->iT,relabel->jv,exec->jX,execs->jY,strValues->jZ,swapsWith->ka,Model->kD,Operator->kE,World->kF,builtinsNs->kG,compareOp->kH,pyIter->kI,CmpOp->lD,NameKind->lE,sliceBounds->lG,typeIs_str->lH,valueAt->lI,PyData->mx,swappedStores->mB,assign->nt,backToKw->nu,fromIndex->nv,keywordEach->nw,nsFind->ny,rawInt->nA,sliceRange->nB,standAt->nC,Keyword->oI,TriplesOk->oN,comprehension->oO,holding->oP,starEach->oQ,wpAny_execs_cons->oR,call_meets->qv,codeAmong->qw,codeAny->qx,firstIter->qy,isTrue->qz,newEnv->qA,seqIndex?->qB,sizeLine_eq->qC,Arguments->se,Fin->sj,Program->sk,assignStores->sm,backTo->sn,stored->so,strKind_is->sp,BoolOp->ui,Reads->um,binaryOp->ur,codeAny_mono->us,evalThenUse->ut,field->uu,leaving->uv,truthy->uw,wpAny_field->ux,ReadsAll->wJ,assignAll->wN,compTurn->wO,firstAsync->wP,getItem->wQ,letOwnedTupleGo->wR,newFunctionEnv->wS,pushCells->wT,sizeLine->wU,wpAny_evalAll_nil->wV,wpAny_of_eq->wW,wpAny_rule->wX,DictEntry->Ae,FuncData->Ah,IsPair->Aj,Params->Al,Result->Am,again->Aq,bootBuiltins->Ar,callWith->As,callerA->At,evalEach->Au,firstIterPos->Av,foldedSetIterable->Aw,newDict->Ax,newExc->Ay,pyNext->Az,strLen_append->AA,unpackItems->AB,wpAny_call->AC,wpAny_callSpecial?_slot->AD,wpAny_call_entry->AE,wpAny_newList->AF,wpAny_pyIter_list->AG,wpAny_setField->AH,wpAny_truthy_bool->AI,assignInOrder->Fh,cellsFrom->Fi,closureFor->Fj,codeAny_call_function->Fk,codeAny_func->Fl,compStart->Fm,delItem->Fn,evalArgs->Fo,exec_If->Fp,newList->Fq,noteFrame->Fs,operate->Ft,seqItems?->Fu,slot_listiter_next->Fv,spliced->Fw,storeName->Fx,testChain->Fy,typeIs_int->Fz,wpAny_Name->FA,wpAny_alloc->FB,wpAny_execs_nil->FC,wpAny_newTuple->FD,wpAny_seqItems->FE,call_meetsIn->OO,compareChain->OP,interactive->OQ,pushCells_keeps->OR,subscripted->OS,wpAny_Constant_int->OT,wpAny_Return_some->OU,wpAny_assign_Name->OV,wpAny_attempt->OW,wpAny_comp_letGo->OX,wpAny_eqBool_int->OY,wpAny_layCells->OZ,wpAny_list_append_plain->Pa,wpAny_loadName_cell->Pb,wpAny_loadName_local->Pc,wpAny_newObj_type->Pd,wpAny_pyIter_enum->Pe,wpAny_pyIter_zip->Pf,wpAny_specialOf->Pg,wpAny_storeName_cell->Ph,wpAny_typeNameOfWhole_keyiter->Pi
open PySem.Around renaming frames_deeper->ES
open PySem.AutoIntOps renaming pow_0->ax7,pow_4->ax8
open PySem.AutoListH renaming list___mul___list_int_3->ax9
open PySem.AutoSeq1 renaming list_insert_list_int_val_1->ay0
open PySem.Builtin renaming bitAnd->nn,bitNot->si,bitOr->EX
open PySem.Builtin.Dict_items renaming ownsTuple->ay1
open PySem.Builtin.Int renaming intBits->uj,intTooBig->ay2
open PySem.Builtin.List renaming listFitsIndex->ET,listTooLong->ay3
open PySem.Builtin.Range renaming rangeSize->EU
open PySem.Builtin.SmallTypes renaming nextOf->sf
open PySem.Builtin.Str renaming occurrences->fj,glued->oG,subAt->sg,partsBetween->wC,strKind->wD,strSliceIndices->EV,tooLong->EW
open PySem.Calls renaming Constant_str->EY,call_function_entry->Oi,call_len_list->Oj
open PySem.Challenge renaming pw_ta0056_01->Ol
open PySem.Code renaming compLoop->wE,compStart->Om
open PySem.Env renaming kindOf->jW,blockKind->On
open PySem.F renaming plainAttrs_str->uk,slot_str_split->Af,slot_tuple_iterator_next->Ag,args_str_split_2->EZ,entry_str_split->Fa,plainAttrs_list->Fb,args_tuple_iterator_next_1->Oo,entry_tuple_iterator_next->Op,plainAttrs_dict->Oq,slot_dict_get->Os,slot_dict_keyiterator_next->Ot,slot_dict_setdefault->Ou,slot_int_rmul->Ov,slot_list_index->Ow,slot_list_insert->Ox,slot_str_find->Oy,slot_str_join->Oz
open PySem.Flow renaming next->oH
open PySem.FuncBody renaming stmts->ay4
open PySem.Heap renaming get?_push_size->gB,get?_push_of_some->iQ,lt_size->jt,SameBut->kC,objs->wG,ExtBut->Ai,get?_update_self->Fc,size_push->Fd,get?_push_ne->OA,get?_update_ne->OB,size_update->OC
open PySem.Heap.DictOf renaming new->ay5
open PySem.Heap.IsSliceOf renaming new->ay6
open PySem.Heap.MadeExc renaming of->ay7
open PySem.Heap.SameBut renaming update->wF,refl->ay8
open PySem.Heap.UpToSlots renaming of_keeps->ay9
open PySem.NameKind renaming cell->oJ,free->wH
open PySem.Obj renaming mapSeq->hi,data_mapFields->Ak,cls_mapFields->OD,isFreed_of_fields->OE
open PySem.PyData renaming int->ju,eqv->my,canLayAll0->nq,canLay0->oK,depthAll->oL,list->oM,depth->sl,eqvAll->wI
open PySem.SeqAt renaming shaped->ip,canLay_of_shaped->lF,eqv_refl->nr,depth_of_shaped->OF
open PySem.SeqAt.EqAt renaming str_str->az0
open PySem.Shared renaming mk->OG
open PySem.Str renaming ofString->bC,ext'->An,cps_append->Fe,length->OH
open PySem.StrLaws renaming occBody->wK,At->Ao,occ_eq->OI
open PySem.Txt renaming replace->fU,slice->fV,split->hI,endswith->qs,startswith->qt,charAt->Ff,slice_le->OJ
open PySem.Value renaming none->mz,ref->mA,int->uo,type->OK
open PySem.W renaming Frag->gQ,kms_lo->qu,tabObj->uq,CodeHd->wL,kms_hi->wM,kas_rev->Ap,kla_obj->Fg,codeHd_of_K->OL,kas_descPart->OM
open PySem.Walks renaming list->ON
open _root_ renaming Nat->N,rfl->O,List->M,Int->H,Option->ag,Bool->ah,congrArg->bq,absurd->bD,if_neg->bF,if_pos->bK,decide_eq_true->ck,False->cn,decide_eq_false->cN,Unit->ek,trivial->eG,beq_eq_false_iff_ne->eP,Array->eR,Nonempty->fx,beq_iff_eq->fX,of_decide_eq_true->hW,beq_self_eq_true->jx,True->kc,decide_eq_true_iff->kg,or_false->kp,String->mD,bne_iff_ne->mG,if_false->mJ,if_true->pp,funext->vc,decide_eq_decide->xp,Decidable->zk,PUnit->zY,bne_eq_false_iff_eq->Bb,decide_eq_false_iff_not->Bu,decide_eq_true_eq->Bv,inferInstance->BS,of_eq_true->CG,or_comm->CL,and_comm->FM,and_false->FN,ne_true_of_eq_false->Ju,DecidableEq->Mn,of_decide_eq_false->Xx
set_option Elab.async false
set_option maxHeartbeats 1000000
set_option maxRecDepth 1000000
set_option linter.all false
set_option genSizeOf false
set_option genInjectivity false
set_option genCtorIdx false
set_option tactic.hygienic false
set_option backward.match.sparseCases false
namespace Mine.Internal
noncomputable section
/- linear facts over Nat,checked by computation -/
abbrev he:=au0
noncomputable instance {a:N}:OfNat he a:=⟨.num a⟩
noncomputable instance:Add he:=⟨.add⟩
noncomputable abbrev C:he:= .var 0
noncomputable abbrev J:he:= .var 1
noncomputable abbrev aj:he:= .var 2
noncomputable abbrev bo:he:= .var 3
noncomputable abbrev fW:he:= .var 4
noncomputable abbrev AN:he:= .var 5
noncomputable abbrev FI:he:= .var 6
abbrev jL:=Lean.RArray N
noncomputable abbrev bj(a:N):jL:= .leaf a
noncomputable abbrev aN(a b:N):jL:= .branch 1 (.leaf a)<|.leaf b
noncomputable abbrev bk(a b c:N):jL:= .branch 1 (.leaf a)<|.branch 2 (.leaf b) (.leaf c)
noncomputable abbrev di(a b c d:N):jL:= .branch 1 (.leaf a)<|.branch 2 (.leaf b) (.branch 3 (.leaf c)<|.leaf d)
noncomputable abbrev ky(a b c d e:N):jL:= .branch 1 (.leaf a)<|.branch 2 (.leaf b) (.branch 3 (.leaf c)<|.branch 4 (.leaf d) (.leaf e))
noncomputable abbrev MK(a b c d e f:N):jL:= .branch 1 (.leaf a)<|.branch 2 (.leaf b) (.branch 3 (.leaf c)<|.branch 4 (.leaf d) (.branch 5 (.leaf e)<|.leaf f))
noncomputable abbrev ML(a b c d e f g:N):jL:= .branch 1 (.leaf a)<|.branch 2 (.leaf b) (.branch 3 (.leaf c)<|.branch 4 (.leaf d) (.branch 5 (.leaf e)<|.branch 6 (.leaf f) (.leaf g)))
abbrev dU:=M<|N×N×he×he
noncomputable abbrev dU.z:dU:=[]
noncomputable abbrev dU.p(a:N)(b c:he)(d:dU):dU:=(0,a,b,c)::d
noncomputable abbrev dU.q(a:N)(b c:he)(d:dU):dU:=(1,a,b,c)::d
noncomputable abbrev dU.f(a:N)(b c:he)(d:dU):dU:=(2,a,b,c)::d
def dU.D(b:jL)(d:Prop)(e:dU):Prop:=fu d (λa _ c=>il (a.2.2.1.denote b<=a.2.2.2.denote b->c) (λ_ _=>a.2.2.1.denote b=a.2.2.2.denote b->c) a.1) e
def dU.A(b:dU):he:=fu (.num 0) (λa _ c=> .add (.mulL a.2.1<|il a.2.2.1 (λd _=>il a.2.2.1 (λ_ _=>a.2.2.2) d) a.1) c) b
def dU.B(b:dU):he:=fu (.num 0) (λa _ c=> .add (.mulL a.2.1<|il a.2.2.2 (λd _=>il a.2.2.2 (λ_ _=>a.2.2.1) d) a.1) c) b
theorem dU.go{f:jL}{i:Prop}(b:dU)(d:(dU.A b).denote f<=(dU.B b).denote f->i):dU.D f i b:=by
 induction b with
 |nil=>exact d<|ba _
 |cons a b g=>
  obtain⟨e,h,j,k⟩:=a
  cases e with
  |zero=>exact λa=>g λc=>d<|zL (wu h a) c
  |succ e=>cases e with
   |zero=>exact λa=>g λc=>d<|zL (wu h<|dM a) c
   |succ e=>exact λa=>g λc=>d<|zL (wu h<|dM a.symm) c
instance:fx Al:=by refine⟨?_⟩;constructor<;>intros<;>exact kv
instance:fx kF:=⟨⟨λ_ _=>0,zj BS⟩⟩
instance:fx kD:=⟨az kv<|zj BS⟩
instance:fx al:=⟨{}⟩
instance:fx bR:=⟨{}⟩
section xh
variable{A B C D E F G H I J K L M N O P Q R S T:Type}
noncomputable def Q1(x:A×B):=x.2
noncomputable def P1(x:A×B):=x.1
noncomputable def Q2(x:A×B):=x.2
noncomputable def P2(x:A×B):=x.1
noncomputable def Q3(x:A×B):=x.2
noncomputable def P3(x:A×B):=x.1
noncomputable def Q4(x:A×B):=x.2
noncomputable def P4(x:A×B):=x.1
noncomputable def Q5(x:A×B):=x.2
noncomputable def P5(x:A×B):=x.1
noncomputable def Q6(x:A×B):=x.2
noncomputable def P6(x:A×B):=x.1
noncomputable def Q7(x:A×B):=x.2
noncomputable def P7(x:A×B):=x.1
noncomputable def Q8(x:A×B):=x.2
noncomputable def P8(x:A×B):=x.1
noncomputable def Q9(x:A×B):=x.2
noncomputable def P9(x:A×B):=x.1
noncomputable def Q10(x:A×B):=x.2
noncomputable def P10(x:A×B):=x.1
noncomputable def Q11(x:A×B):=x.2
noncomputable def P11(x:A×B):=x.1
noncomputable def Q12(x:A×B):=x.2
noncomputable def P12(x:A×B):=x.1
noncomputable def Q13(x:A×B):=x.2
noncomputable def P13(x:A×B):=x.1
noncomputable def Q14(x:A×B):=x.2
noncomputable def P14(x:A×B):=x.1
noncomputable def Q15(x:A×B):=x.2
noncomputable def P15(x:A×B):=x.1
noncomputable def Q16(x:A×B):=x.2
noncomputable def P16(x:A×B):=x.1
noncomputable def Q17(x:A×B):=x.2
noncomputable def P17(x:A×B):=x.1
noncomputable def Q18(x:A×B):=x.2
noncomputable def P18(x:A×B):=x.1
noncomputable def Q19(x:A×B):=x.2
noncomputable def P19(x:A×B):=x.1
noncomputable def Z1{i:Nonempty A}(Z:A->Prop):=Classical.epsilon λx=>¬Z x
theorem U1 [i:Nonempty A]{Z:A->Prop}(h:Z (Z1 (i:=i) Z))(a:A):Z a:=Classical.byContradiction λg=>Classical.epsilon_spec (p:=λx=>¬Z x) ⟨a,g⟩ h
noncomputable def Z2(i:Nonempty (A×B))(Z:A->B->Prop):=Z1 (i:=i) λx=>Z (P1 x)<|Q1 x
theorem U2 [i:Nonempty (A×B)]{Z:A->B->Prop}(h:letI a:=Z2 i Z;Z (P1 a) (Q1 a))(a:A)(b:B):Z a b:=U1 (i:=i) (Z:=λx=>Z (P1 x)<|Q1 x) h (a,b)
noncomputable def Z3(i:Nonempty ((A×B)×C))(Z:A->B->C->Prop):=Z2 i λx=>Z (P2 x)<|Q2 x
theorem U3 [i:Nonempty ((A×B)×C)]{Z:A->B->C->Prop}(h:letI a:=Z3 i Z;letI b:=P1 a;Z (P2 b) (Q2 b) (Q1 a))(a:A)(b:B):∀c,Z a b c:=U2 (i:=i) (Z:=λx=>Z (P2 x)<|Q2 x) h (a,b)
noncomputable def Z4(i:Nonempty (((A×B)×C)×D))(Z:A->B->C->D->Prop):=Z3 i λx=>Z (P3 x)<|Q3 x
theorem U4 [i:Nonempty (((A×B)×C)×D)]{Z:A->B->C->D->Prop}(h:letI a:=Z4 i Z;letI b:=P1 a;letI c:=P2 b;Z (P3 c) (Q3 c) (Q2 b) (Q1 a))(a:A)(b:B):∀c d,Z a b c d:=U3 (i:=i) (Z:=λx=>Z (P3 x)<|Q3 x) h (a,b)
noncomputable def Z5(i:Nonempty ((((A×B)×C)×D)×E))(Z:A->B->C->D->E->Prop):=Z4 i λx=>Z (P4 x)<|Q4 x
theorem U5 [i:Nonempty ((((A×B)×C)×D)×E)]{Z:A->B->C->D->E->Prop}(h:letI a:=Z5 i Z;letI b:=P1 a;letI c:=P2 b;letI d:=P3 c;Z (P4 d) (Q4 d) (Q3 c) (Q2 b) (Q1 a))(a:A)(b:B):∀c d e,Z a b c d e:=U4 (i:=i) (Z:=λx=>Z (P4 x)<|Q4 x) h (a,b)
noncomputable def Z6(i:Nonempty (((((A×B)×C)×D)×E)×F))(Z:A->B->C->D->E->F->Prop):=Z5 i λx=>Z (P5 x)<|Q5 x
theorem U6 [i:Nonempty (((((A×B)×C)×D)×E)×F)]{Z:A->B->C->D->E->F->Prop}(h:letI a:=Z6 i Z;letI b:=P1 a;letI c:=P2 b;letI d:=P3 c;letI e:=P4 d;Z (P5 e) (Q5 e) (Q4 d) (Q3 c) (Q2 b) (Q1 a))(a:A)(b:B):∀c d e f,Z a b c d e f:=U5 (i:=i) (Z:=λx=>Z (P5 x)<|Q5 x) h (a,b)
noncomputable def Z7(i:Nonempty ((((((A×B)×C)×D)×E)×F)×G))(Z:A->B->C->D->E->F->G->Prop):=Z6 i λx=>Z (P6 x)<|Q6 x
theorem U7 [i:Nonempty ((((((A×B)×C)×D)×E)×F)×G)]{Z:A->B->C->D->E->F->G->Prop}(h:letI a:=Z7 i Z;letI b:=P1 a;letI c:=P2 b;letI d:=P3 c;letI e:=P4 d;letI f:=P5 e;Z (P6 f) (Q6 f) (Q5 e) (Q4 d) (Q3 c) (Q2 b) (Q1 a))(a:A)(b:B):∀c d e f g,Z a b c d e f g:=U6 (i:=i) (Z:=λx=>Z (P6 x)<|Q6 x) h (a,b)
noncomputable def Z8(i:Nonempty (((((((A×B)×C)×D)×E)×F)×G)×H))(Z:A->B->C->D->E->F->G->H->Prop):=Z7 i λx=>Z (P7 x)<|Q7 x
theorem U8 [i:Nonempty (((((((A×B)×C)×D)×E)×F)×G)×H)]{Z:A->B->C->D->E->F->G->H->Prop}(h:letI a:=Z8 i Z;letI b:=P1 a;letI c:=P2 b;letI d:=P3 c;letI e:=P4 d;letI f:=P5 e;letI g:=P6 f;Z (P7 g) (Q7 g) (Q6 f) (Q5 e) (Q4 d) (Q3 c) (Q2 b) (Q1 a))(a:A)(b:B):∀c d e f g u,Z a b c d e f g u:=U7 (i:=i) (Z:=λx=>Z (P7 x)<|Q7 x) h (a,b)
noncomputable def Z9(i:Nonempty ((((((((A×B)×C)×D)×E)×F)×G)×H)×I))(Z:A->B->C->D->E->F->G->H->I->Prop):=Z8 i λx=>Z (P8 x)<|Q8 x
theorem U9 [i:Nonempty ((((((((A×B)×C)×D)×E)×F)×G)×H)×I)]{Z:A->B->C->D->E->F->G->H->I->Prop}(h:letI a:=Z9 i Z;letI b:=P1 a;letI c:=P2 b;letI d:=P3 c;letI e:=P4 d;letI f:=P5 e;letI g:=P6 f;letI u:=P7 g;Z (P8 u) (Q8 u) (Q7 g) (Q6 f) (Q5 e) (Q4 d) (Q3 c) (Q2 b) (Q1 a))(a:A)(b:B):∀c d e f g u v,Z a b c d e f g u v:=U8 (i:=i) (Z:=λx=>Z (P8 x)<|Q8 x) h (a,b)
noncomputable def Z10(i:Nonempty (((((((((A×B)×C)×D)×E)×F)×G)×H)×I)×J))(Z:A->B->C->D->E->F->G->H->I->J->Prop):=Z9 i λx=>Z (P9 x)<|Q9 x
theorem U10 [i:Nonempty (((((((((A×B)×C)×D)×E)×F)×G)×H)×I)×J)]{Z:A->B->C->D->E->F->G->H->I->J->Prop}(h:letI a:=Z10 i Z;letI b:=P1 a;letI c:=P2 b;letI d:=P3 c;letI e:=P4 d;letI f:=P5 e;letI g:=P6 f;letI u:=P7 g;letI v:=P8 u;Z (P9 v) (Q9 v) (Q8 u) (Q7 g) (Q6 f) (Q5 e) (Q4 d) (Q3 c) (Q2 b) (Q1 a))(a:A)(b:B):∀c d e f g u v j,Z a b c d e f g u v j:=U9 (i:=i) (Z:=λx=>Z (P9 x)<|Q9 x) h (a,b)
noncomputable def Z11(i:Nonempty ((((((((((A×B)×C)×D)×E)×F)×G)×H)×I)×J)×K))(Z:A->B->C->D->E->F->G->H->I->J->K->Prop):=Z10 i λx=>Z (P10 x)<|Q10 x
theorem U11 [i:Nonempty ((((((((((A×B)×C)×D)×E)×F)×G)×H)×I)×J)×K)]{Z:A->B->C->D->E->F->G->H->I->J->K->Prop}(h:letI a:=Z11 i Z;letI b:=P1 a;letI c:=P2 b;letI d:=P3 c;letI e:=P4 d;letI f:=P5 e;letI g:=P6 f;letI u:=P7 g;letI v:=P8 u;letI j:=P9 v;Z (P10 j) (Q10 j) (Q9 v) (Q8 u) (Q7 g) (Q6 f) (Q5 e) (Q4 d) (Q3 c) (Q2 b) (Q1 a))(a:A)(b:B):∀c d e f g u v j k,Z a b c d e f g u v j k:=U10 (i:=i) (Z:=λx=>Z (P10 x)<|Q10 x) h (a,b)
noncomputable def Z12(i:Nonempty (((((((((((A×B)×C)×D)×E)×F)×G)×H)×I)×J)×K)×L))(Z:A->B->C->D->E->F->G->H->I->J->K->L->Prop):=Z11 i λx=>Z (P11 x)<|Q11 x
theorem U12 [i:Nonempty (((((((((((A×B)×C)×D)×E)×F)×G)×H)×I)×J)×K)×L)]{Z:A->B->C->D->E->F->G->H->I->J->K->L->Prop}(h:letI a:=Z12 i Z;letI b:=P1 a;letI c:=P2 b;letI d:=P3 c;letI e:=P4 d;letI f:=P5 e;letI g:=P6 f;letI u:=P7 g;letI v:=P8 u;letI j:=P9 v;letI k:=P10 j;Z (P11 k) (Q11 k) (Q10 j) (Q9 v) (Q8 u) (Q7 g) (Q6 f) (Q5 e) (Q4 d) (Q3 c) (Q2 b) (Q1 a))(a:A)(b:B):∀c d e f g u v j k l,Z a b c d e f g u v j k l:=U11 (i:=i) (Z:=λx=>Z (P11 x)<|Q11 x) h (a,b)
noncomputable def Z13(i:Nonempty ((((((((((((A×B)×C)×D)×E)×F)×G)×H)×I)×J)×K)×L)×M))(Z:A->B->C->D->E->F->G->H->I->J->K->L->M->Prop):=Z12 i λx=>Z (P12 x)<|Q12 x
theorem U13 [i:Nonempty ((((((((((((A×B)×C)×D)×E)×F)×G)×H)×I)×J)×K)×L)×M)]{Z:A->B->C->D->E->F->G->H->I->J->K->L->M->Prop}(h:letI a:=Z13 i Z;letI b:=P1 a;letI c:=P2 b;letI d:=P3 c;letI e:=P4 d;letI f:=P5 e;letI g:=P6 f;letI u:=P7 g;letI v:=P8 u;letI j:=P9 v;letI k:=P10 j;letI l:=P11 k;Z (P12 l) (Q12 l) (Q11 k) (Q10 j) (Q9 v) (Q8 u) (Q7 g) (Q6 f) (Q5 e) (Q4 d) (Q3 c) (Q2 b) (Q1 a))(a:A)(b:B):∀c d e f g u v j k l m,Z a b c d e f g u v j k l m:=U12 (i:=i) (Z:=λx=>Z (P12 x)<|Q12 x) h (a,b)
noncomputable def Z14(i:Nonempty (((((((((((((A×B)×C)×D)×E)×F)×G)×H)×I)×J)×K)×L)×M)×N))(Z:A->B->C->D->E->F->G->H->I->J->K->L->M->N->Prop):=Z13 i λx=>Z (P13 x)<|Q13 x
theorem U14 [i:Nonempty (((((((((((((A×B)×C)×D)×E)×F)×G)×H)×I)×J)×K)×L)×M)×N)]{Z:A->B->C->D->E->F->G->H->I->J->K->L->M->N->Prop}(h:letI a:=Z14 i Z;letI b:=P1 a;letI c:=P2 b;letI d:=P3 c;letI e:=P4 d;letI f:=P5 e;letI g:=P6 f;letI u:=P7 g;letI v:=P8 u;letI j:=P9 v;letI k:=P10 j;letI l:=P11 k;letI m:=P12 l;Z (P13 m) (Q13 m) (Q12 l) (Q11 k) (Q10 j) (Q9 v) (Q8 u) (Q7 g) (Q6 f) (Q5 e) (Q4 d) (Q3 c) (Q2 b) (Q1 a))(a:A)(b:B):∀c d e f g u v j k l m n,Z a b c d e f g u v j k l m n:=U13 (i:=i) (Z:=λx=>Z (P13 x)<|Q13 x) h (a,b)
noncomputable def Z15(i:Nonempty ((((((((((((((A×B)×C)×D)×E)×F)×G)×H)×I)×J)×K)×L)×M)×N)×O))(Z:A->B->C->D->E->F->G->H->I->J->K->L->M->N->O->Prop):=Z14 i λx=>Z (P14 x)<|Q14 x
theorem U15 [i:Nonempty ((((((((((((((A×B)×C)×D)×E)×F)×G)×H)×I)×J)×K)×L)×M)×N)×O)]{Z:A->B->C->D->E->F->G->H->I->J->K->L->M->N->O->Prop}(h:letI a:=Z15 i Z;letI b:=P1 a;letI c:=P2 b;letI d:=P3 c;letI e:=P4 d;letI f:=P5 e;letI g:=P6 f;letI u:=P7 g;letI v:=P8 u;letI j:=P9 v;letI k:=P10 j;letI l:=P11 k;letI m:=P12 l;letI n:=P13 m;Z (P14 n) (Q14 n) (Q13 m) (Q12 l) (Q11 k) (Q10 j) (Q9 v) (Q8 u) (Q7 g) (Q6 f) (Q5 e) (Q4 d) (Q3 c) (Q2 b) (Q1 a))(a:A)(b:B):∀c d e f g u v j k l m n o,Z a b c d e f g u v j k l m n o:=U14 (i:=i) (Z:=λx=>Z (P14 x)<|Q14 x) h (a,b)
noncomputable def Z16(i:Nonempty (((((((((((((((A×B)×C)×D)×E)×F)×G)×H)×I)×J)×K)×L)×M)×N)×O)×P))(Z:A->B->C->D->E->F->G->H->I->J->K->L->M->N->O->P->Prop):=Z15 i λx=>Z (P15 x)<|Q15 x
theorem U16 [i:Nonempty (((((((((((((((A×B)×C)×D)×E)×F)×G)×H)×I)×J)×K)×L)×M)×N)×O)×P)]{Z:A->B->C->D->E->F->G->H->I->J->K->L->M->N->O->P->Prop}(h:letI a:=Z16 i Z;letI b:=P1 a;letI c:=P2 b;letI d:=P3 c;letI e:=P4 d;letI f:=P5 e;letI g:=P6 f;letI u:=P7 g;letI v:=P8 u;letI j:=P9 v;letI k:=P10 j;letI l:=P11 k;letI m:=P12 l;letI n:=P13 m;letI o:=P14 n;Z (P15 o) (Q15 o) (Q14 n) (Q13 m) (Q12 l) (Q11 k) (Q10 j) (Q9 v) (Q8 u) (Q7 g) (Q6 f) (Q5 e) (Q4 d) (Q3 c) (Q2 b) (Q1 a))(a:A)(b:B):∀c d e f g u v j k l m n o p,Z a b c d e f g u v j k l m n o p:=U15 (i:=i) (Z:=λx=>Z (P15 x)<|Q15 x) h (a,b)
noncomputable def Z17(i:Nonempty ((((((((((((((((A×B)×C)×D)×E)×F)×G)×H)×I)×J)×K)×L)×M)×N)×O)×P)×Q))(Z:A->B->C->D->E->F->G->H->I->J->K->L->M->N->O->P->Q->Prop):=Z16 i λx=>Z (P16 x)<|Q16 x
theorem U17 [i:Nonempty ((((((((((((((((A×B)×C)×D)×E)×F)×G)×H)×I)×J)×K)×L)×M)×N)×O)×P)×Q)]{Z:A->B->C->D->E->F->G->H->I->J->K->L->M->N->O->P->Q->Prop}(h:letI a:=Z17 i Z;letI b:=P1 a;letI c:=P2 b;letI d:=P3 c;letI e:=P4 d;letI f:=P5 e;letI g:=P6 f;letI u:=P7 g;letI v:=P8 u;letI j:=P9 v;letI k:=P10 j;letI l:=P11 k;letI m:=P12 l;letI n:=P13 m;letI o:=P14 n;letI p:=P15 o;Z (P16 p) (Q16 p) (Q15 o) (Q14 n) (Q13 m) (Q12 l) (Q11 k) (Q10 j) (Q9 v) (Q8 u) (Q7 g) (Q6 f) (Q5 e) (Q4 d) (Q3 c) (Q2 b) (Q1 a))(a:A)(b:B):∀c d e f g u v j k l m n o p q,Z a b c d e f g u v j k l m n o p q:=U16 (i:=i) (Z:=λx=>Z (P16 x)<|Q16 x) h (a,b)
noncomputable def Z18(i:Nonempty (((((((((((((((((A×B)×C)×D)×E)×F)×G)×H)×I)×J)×K)×L)×M)×N)×O)×P)×Q)×R))(Z:A->B->C->D->E->F->G->H->I->J->K->L->M->N->O->P->Q->R->Prop):=Z17 i λx=>Z (P17 x)<|Q17 x
theorem U18 [i:Nonempty (((((((((((((((((A×B)×C)×D)×E)×F)×G)×H)×I)×J)×K)×L)×M)×N)×O)×P)×Q)×R)]{Z:A->B->C->D->E->F->G->H->I->J->K->L->M->N->O->P->Q->R->Prop}(h:letI a:=Z18 i Z;letI b:=P1 a;letI c:=P2 b;letI d:=P3 c;letI e:=P4 d;letI f:=P5 e;letI g:=P6 f;letI u:=P7 g;letI v:=P8 u;letI j:=P9 v;letI k:=P10 j;letI l:=P11 k;letI m:=P12 l;letI n:=P13 m;letI o:=P14 n;letI p:=P15 o;letI q:=P16 p;Z (P17 q) (Q17 q) (Q16 p) (Q15 o) (Q14 n) (Q13 m) (Q12 l) (Q11 k) (Q10 j) (Q9 v) (Q8 u) (Q7 g) (Q6 f) (Q5 e) (Q4 d) (Q3 c) (Q2 b) (Q1 a))(a:A)(b:B):∀c d e f g u v j k l m n o p q r,Z a b c d e f g u v j k l m n o p q r:=U17 (i:=i) (Z:=λx=>Z (P17 x)<|Q17 x) h (a,b)
noncomputable def Z19(i:Nonempty ((((((((((((((((((A×B)×C)×D)×E)×F)×G)×H)×I)×J)×K)×L)×M)×N)×O)×P)×Q)×R)×S))(Z:A->B->C->D->E->F->G->H->I->J->K->L->M->N->O->P->Q->R->S->Prop):=Z18 i λx=>Z (P18 x)<|Q18 x
theorem U19 [i:Nonempty ((((((((((((((((((A×B)×C)×D)×E)×F)×G)×H)×I)×J)×K)×L)×M)×N)×O)×P)×Q)×R)×S)]{Z:A->B->C->D->E->F->G->H->I->J->K->L->M->N->O->P->Q->R->S->Prop}(h:letI a:=Z19 i Z;letI b:=P1 a;letI c:=P2 b;letI d:=P3 c;letI e:=P4 d;letI f:=P5 e;letI g:=P6 f;letI u:=P7 g;letI v:=P8 u;letI j:=P9 v;letI k:=P10 j;letI l:=P11 k;letI m:=P12 l;letI n:=P13 m;letI o:=P14 n;letI p:=P15 o;letI q:=P16 p;letI r:=P17 q;Z (P18 r) (Q18 r) (Q17 q) (Q16 p) (Q15 o) (Q14 n) (Q13 m) (Q12 l) (Q11 k) (Q10 j) (Q9 v) (Q8 u) (Q7 g) (Q6 f) (Q5 e) (Q4 d) (Q3 c) (Q2 b) (Q1 a))(a:A)(b:B):∀c d e f g u v j k l m n o p q r s,Z a b c d e f g u v j k l m n o p q r s:=U18 (i:=i) (Z:=λx=>Z (P18 x)<|Q18 x) h (a,b)
noncomputable def Z20(i:Nonempty (((((((((((((((((((A×B)×C)×D)×E)×F)×G)×H)×I)×J)×K)×L)×M)×N)×O)×P)×Q)×R)×S)×T))(Z:A->B->C->D->E->F->G->H->I->J->K->L->M->N->O->P->Q->R->S->T->Prop):=Z19 i λx=>Z (P19 x)<|Q19 x
theorem U20 [i:Nonempty (((((((((((((((((((A×B)×C)×D)×E)×F)×G)×H)×I)×J)×K)×L)×M)×N)×O)×P)×Q)×R)×S)×T)]{Z:A->B->C->D->E->F->G->H->I->J->K->L->M->N->O->P->Q->R->S->T->Prop}(h:letI a:=Z20 i Z;letI b:=P1 a;letI c:=P2 b;letI d:=P3 c;letI e:=P4 d;letI f:=P5 e;letI g:=P6 f;letI u:=P7 g;letI v:=P8 u;letI j:=P9 v;letI k:=P10 j;letI l:=P11 k;letI m:=P12 l;letI n:=P13 m;letI o:=P14 n;letI p:=P15 o;letI q:=P16 p;letI r:=P17 q;letI s:=P18 r;Z (P19 s) (Q19 s) (Q18 r) (Q17 q) (Q16 p) (Q15 o) (Q14 n) (Q13 m) (Q12 l) (Q11 k) (Q10 j) (Q9 v) (Q8 u) (Q7 g) (Q6 f) (Q5 e) (Q4 d) (Q3 c) (Q2 b) (Q1 a))(a:A)(b:B):∀c d e f g u v j k l m n o p q r s t,Z a b c d e f g u v j k l m n o p q r s t:=U19 (i:=i) (Z:=λx=>Z (P19 x)<|Q19 x) h (a,b)
end xh
theorem dz(a b:N):a<=a - b+b:=wy.mp<|ba _
theorem Ji{b c:he}{a:jL}(d:(zK ai b c).toNormPoly.isValid=X):b.denote a<=c.denote a:=CG<|Nz a _ d
theorem af(a:N)(d e:he)(c:dU)(b:jL)(f:(zK ai (.add (.mulL (a+1) d)<|dU.B c)<|.add (.add (.mulL (a+1) e)<|.num a) (dU.A c)).toNormPoly.isValid=X):dU.D b (d.denote b<=e.denote b) c:=dU.go c λg=>by have h:(a+1)*d.denote b+(dU.B c).denote b<=(a+1)*e.denote b+a+(dU.A c).denote b:=Ji f;have i:=Nat.le_of_add_le_add_right<|aK h (kB g _);exact wo<|Nat.lt_of_mul_lt_mul_left (a:=a+1) (uf i)
theorem cp{c:Prop}(a:dU)(b:jL)(d:(zK ai (.add (.num 1)<|dU.B a)<|dU.A a).toNormPoly.isValid=X):dU.D b c a:=dU.go a λe=>by have f:1+(dU.B a).denote b<=(dU.A a).denote b:=Ji d;exact bD (aK f e)<|by rw [fS];exact NL _
theorem nS(b c:he)(a:jL)(d:(zK X b c).toNormPoly.isValid=X):b.denote a=c.denote a:=CG<|Nz a _ d
abbrev gN:=at3
noncomputable instance {a:N}:OfNat gN a:=⟨.num<|.ofNat a⟩
noncomputable instance:Add gN:=⟨.add⟩
noncomputable instance:Sub gN:=⟨.sub⟩
noncomputable abbrev F:gN:= .var 0
noncomputable abbrev W:gN:= .var 1
noncomputable abbrev aF:gN:= .var 2
noncomputable abbrev cx:gN:= .var 3
noncomputable abbrev ig:gN:= .var 4
noncomputable abbrev vY:gN:= .var 5
noncomputable abbrev vZ:gN:= .var 6
abbrev jJ:=Lean.RArray H
noncomputable abbrev aG(a:H):jJ:= .leaf a
noncomputable abbrev aP(a b:H):jJ:= .branch 1 (.leaf a)<|.leaf b
noncomputable abbrev cg(a b c:H):jJ:= .branch 1 (.leaf a)<|.branch 2 (.leaf b) (.leaf c)
noncomputable abbrev gM(a b c d:H):jJ:= .branch 1 (.leaf a)<|.branch 2 (.leaf b) (.branch 3 (.leaf c)<|.leaf d)
noncomputable abbrev rQ(a b c d e:H):jJ:= .branch 1 (.leaf a)<|.branch 2 (.leaf b) (.branch 3 (.leaf c)<|.branch 4 (.leaf d) (.leaf e))
noncomputable abbrev at6(a b c d e f:H):jJ:= .branch 1 (.leaf a)<|.branch 2 (.leaf b) (.branch 3 (.leaf c)<|.branch 4 (.leaf d) (.branch 5 (.leaf e)<|.leaf f))
noncomputable abbrev Ed(a b c d e f g:H):jJ:= .branch 1 (.leaf a)<|.branch 2 (.leaf b) (.branch 3 (.leaf c)<|.branch 4 (.leaf d) (.branch 5 (.leaf e)<|.branch 6 (.leaf f) (.leaf g)))
abbrev dT:=M<|N×N×gN×gN
noncomputable abbrev dT.z:dT:=[]
noncomputable abbrev dT.p(a:N)(b c:gN)(d:dT):dT:=(0,a,b,c)::d
noncomputable abbrev dT.q(a:N)(b c:gN)(d:dT):dT:=(1,a,b,c)::d
noncomputable abbrev dT.f(a:N)(b c:gN)(d:dT):dT:=(2,a,b,c)::d
def dT.D(b:jJ)(d:Prop)(e:dT):Prop:=fu d (λa _ c=>il (a.2.2.1.denote b<=a.2.2.2.denote b->c) (λ_ _=>a.2.2.1.denote b=a.2.2.2.denote b->c) a.1) e
def dT.A(b:dT):gN:=fu (.num 0) (λa _ c=> .add (.mulL a.2.1<|il a.2.2.1 (λd _=>il a.2.2.1 (λ_ _=>a.2.2.2) d) a.1) c) b
def dT.B(b:dT):gN:=fu (.num 0) (λa _ c=> .add (.mulL a.2.1<|il a.2.2.2 (λd _=>il a.2.2.2 (λ_ _=>a.2.2.1) d) a.1) c) b
theorem dT.go{f:jJ}{i:Prop}(b:dT)(d:(dT.A b).denote f<=(dT.B b).denote f->i):dT.D f i b:=by
 induction b with
 |nil=>exact d<|Ec _
 |cons a b g=>
  obtain⟨e,h,j,k⟩:=a
  cases e with
  |zero=>exact λa=>g λc=>d<|Ea (zp a<|cj h) c
  |succ e=>cases e with
   |zero=>exact λa=>g λc=>d<|Ea (zp (MG a)<|cj h) c
   |succ e=>exact λa=>g λc=>d<|Ea (zp (MG a.symm)<|cj h) c
theorem Ip{a b:gN}{c:jJ}(d:(zo a b).norm.isValidLe=X):a.denote c<=b.denote c:=CG<|at5 c a b d
theorem aw(a:N)(d e:gN)(c:dT)(b:jJ)(f:(zo (.add (.mulL (a+1) d)<|dT.B c)<|.add (.add (.mulL (a+1) e)<|.num a) (dT.A c)).norm.isValidLe=X):dT.D b (d.denote b<=e.denote b) c:=dT.go c λi=>by
 have j:((a:H)+1)*d.denote b+(dT.B c).denote b<=(a+1)*e.denote b+a+(dT.A c).denote b:=Ip f;have k:((a:H)+1)*d.denote b<=(a+1)*e.denote b+a:=by lia
 refine mq.mp λg=> ?_;have h:((a:H)+1)*(e.denote b+1)<=(a+1)*d.denote b:=zp g (by lia);rw [Int.mul_add,MH] at h;lia
theorem aD{c:Prop}(a:dT)(b:jJ)(d:(zo (.add (.num 1)<|dT.B a)<|dT.A a).norm.isValidLe=X):dT.D b c a:=dT.go a λe=>by have f:1+(dT.B a).denote b<=(dT.A a).denote b:=Ip d;lia
theorem aA5(a b:gN)(c:jJ)(d:(zo a b).norm.isValidEq=X):a.denote c=b.denote c:=CG<|at4 c a b d
theorem ak{a b:N}(c:a<=b):(a:H)<=b:=vV.mpr c
theorem ax{a b:N}(c:a=b):(a:H)=b:=bq Nat.cast c
theorem bd{a b:N}(c:(a:H)<=b):a<=b:=vV.mp c
theorem aA{a b:Prop}{c:Prop}(e:a->b->c)(d:a/\b):c:=e d.1 d.2
theorem dH{b c d:Prop}{e:Prop}(f:b->c->d->e)(a:b/\c/\d):e:=f a.1 a.2.1 a.2.2
theorem ta{b c d e:Prop}{f:Prop}(g:b->c->d->e->f)(a:b/\c/\d/\e):f:=g a.1 a.2.1 a.2.2.1 a.2.2.2
theorem vq{b c d e f:Prop}{g:Prop}(h:b->c->d->e->f->g)(a:b/\c/\d/\e/\f):g:=h a.1 a.2.1 a.2.2.1 a.2.2.2.1 a.2.2.2.2
theorem aA9{b c d e f g:Prop}{h:Prop}(i:b->c->d->e->f->g->h)(a:b/\c/\d/\e/\f/\g):h:=i a.1 a.2.1 a.2.2.1 a.2.2.2.1 a.2.2.2.2.1 a.2.2.2.2.2
theorem aB0{b c d e f g h:Prop}{i:Prop}(j:b->c->d->e->f->g->h->i)(a:b/\c/\d/\e/\f/\g/\h):i:=j a.1 a.2.1 a.2.2.1 a.2.2.2.1 a.2.2.2.2.1 a.2.2.2.2.2.1 a.2.2.2.2.2.2
theorem aB1{b c d e f g h i:Prop}{j:Prop}(k:b->c->d->e->f->g->h->i->j)(a:b/\c/\d/\e/\f/\g/\h/\i):j:=k a.1 a.2.1 a.2.2.1 a.2.2.2.1 a.2.2.2.2.1 a.2.2.2.2.2.1 a.2.2.2.2.2.2.1 a.2.2.2.2.2.2.2
theorem aB2{b c d e f g h i j:Prop}{k:Prop}(l:b->c->d->e->f->g->h->i->j->k)(a:b/\c/\d/\e/\f/\g/\h/\i/\j):k:=l a.1 a.2.1 a.2.2.1 a.2.2.2.1 a.2.2.2.2.1 a.2.2.2.2.2.1 a.2.2.2.2.2.2.1 a.2.2.2.2.2.2.2.1 a.2.2.2.2.2.2.2.2
theorem ay{e:Sort _}{c:e->Prop}{d:Prop}(f:∀a,c a->d)(b:∃a,c a):d:=b.elim λa b=>f a b
theorem ac{f:Sort _}{c d:f->Prop}{e:Prop}(g:∀a,c a->d a->e)(b:∃a,c a/\d a):e:=b.elim λa b=>g a b.1 b.2
theorem dt{g:Sort _}{c d e:g->Prop}{f:Prop}(h:∀a,c a->d a->e a->f)(b:∃a,c a/\d a/\e a):f:=b.elim λa b=>h a b.1 b.2.1 b.2.2
theorem CD{h:Sort _}{c d e f:h->Prop}{g:Prop}(i:∀a,c a->d a->e a->f a->g)(b:∃a,c a/\d a/\e a/\f a):g:=b.elim λa b=>i a b.1 b.2.1 b.2.2.1 b.2.2.2
theorem aB3{i:Sort _}{c d e f g:i->Prop}{h:Prop}(j:∀a,c a->d a->e a->f a->g a->h)(b:∃a,c a/\d a/\e a/\f a/\g a):h:=b.elim λa b=>j a b.1 b.2.1 b.2.2.1 b.2.2.2.1 b.2.2.2.2
theorem aB4{j:Sort _}{c d e f g h:j->Prop}{i:Prop}(k:∀a,c a->d a->e a->f a->g a->h a->i)(b:∃a,c a/\d a/\e a/\f a/\g a/\h a):i:=b.elim λa b=>k a b.1 b.2.1 b.2.2.1 b.2.2.2.1 b.2.2.2.2.1 b.2.2.2.2.2
theorem aB5{k:Sort _}{c d e f g h i:k->Prop}{j:Prop}(l:∀a,c a->d a->e a->f a->g a->h a->i a->j)(b:∃a,c a/\d a/\e a/\f a/\g a/\h a/\i a):j:=b.elim λa b=>l a b.1 b.2.1 b.2.2.1 b.2.2.2.1 b.2.2.2.2.1 b.2.2.2.2.2.1 b.2.2.2.2.2.2
theorem aB6{l:Sort _}{c d e f g h i j:l->Prop}{k:Prop}(m:∀a,c a->d a->e a->f a->g a->h a->i a->j a->k)(b:∃a,c a/\d a/\e a/\f a/\g a/\h a/\i a/\j a):k:=b.elim λa b=>m a b.1 b.2.1 b.2.2.1 b.2.2.2.1 b.2.2.2.2.1 b.2.2.2.2.2.1 b.2.2.2.2.2.2.1 b.2.2.2.2.2.2.2
theorem aB7{m:Sort _}{c d e f g h i j k:m->Prop}{l:Prop}(n:∀a,c a->d a->e a->f a->g a->h a->i a->j a->k a->l)(b:∃a,c a/\d a/\e a/\f a/\g a/\h a/\i a/\j a/\k a):l:=b.elim λa b=>n a b.1 b.2.1 b.2.2.1 b.2.2.2.1 b.2.2.2.2.1 b.2.2.2.2.2.1 b.2.2.2.2.2.2.1 b.2.2.2.2.2.2.2.1 b.2.2.2.2.2.2.2.2
theorem tc{f:Sort _}{g:Sort _}{d:f->g->Prop}{e:Prop}(h:∀a b,d a b->e)(c:∃a b,d a b):e:=c.elim λa c=>c.elim λb c=>h a b c
theorem dw{g:Sort _}{h:Sort _}{d e:g->h->Prop}{f:Prop}(i:∀a b,d a b->e a b->f)(c:∃a b,d a b/\e a b):f:=c.elim λa c=>c.elim λb c=>i a b c.1 c.2
theorem dd{h:Sort _}{i:Sort _}{d e f:h->i->Prop}{g:Prop}(j:∀a b,d a b->e a b->f a b->g)(c:∃a b,d a b/\e a b/\f a b):g:=c.elim λa c=>c.elim λb c=>j a b c.1 c.2.1 c.2.2
theorem gb{i:Sort _}{j:Sort _}{d e f g:i->j->Prop}{h:Prop}(k:∀a b,d a b->e a b->f a b->g a b->h)(c:∃a b,d a b/\e a b/\f a b/\g a b):h:=c.elim λa c=>c.elim λb c=>k a b c.1 c.2.1 c.2.2.1 c.2.2.2
theorem qZ{j:Sort _}{k:Sort _}{d e f g h:j->k->Prop}{i:Prop}(l:∀a b,d a b->e a b->f a b->g a b->h a b->i)(c:∃a b,d a b/\e a b/\f a b/\g a b/\h a b):i:=c.elim λa c=>c.elim λb c=>l a b c.1 c.2.1 c.2.2.1 c.2.2.2.1 c.2.2.2.2
theorem vr{k:Sort _}{l:Sort _}{d e f g h i:k->l->Prop}{j:Prop}(m:∀a b,d a b->e a b->f a b->g a b->h a b->i a b->j)(c:∃a b,d a b/\e a b/\f a b/\g a b/\h a b/\i a b):j:=c.elim λa c=>c.elim λb c=>m a b c.1 c.2.1 c.2.2.1 c.2.2.2.1 c.2.2.2.2.1 c.2.2.2.2.2
theorem Xk{l:Sort _}{m:Sort _}{d e f g h i j:l->m->Prop}{k:Prop}(n:∀a b,d a b->e a b->f a b->g a b->h a b->i a b->j a b->k)(c:∃a b,d a b/\e a b/\f a b/\g a b/\h a b/\i a b/\j a b):k:=c.elim λa c=>c.elim λb c=>n a b c.1 c.2.1 c.2.2.1 c.2.2.2.1 c.2.2.2.2.1 c.2.2.2.2.2.1 c.2.2.2.2.2.2
theorem aB8{m:Sort _}{n:Sort _}{d e f g h i j k:m->n->Prop}{l:Prop}(o:∀a b,d a b->e a b->f a b->g a b->h a b->i a b->j a b->k a b->l)(c:∃a b,d a b/\e a b/\f a b/\g a b/\h a b/\i a b/\j a b/\k a b):l:=c.elim λa c=>c.elim λb c=>o a b c.1 c.2.1 c.2.2.1 c.2.2.2.1 c.2.2.2.2.1 c.2.2.2.2.2.1 c.2.2.2.2.2.2.1 c.2.2.2.2.2.2.2
theorem Jz{g:Sort _}{h:Sort _}{i:Sort _}{e:g->h->i->Prop}{f:Prop}(j:∀b c d,e b c d->f)(a:∃b c d,e b c d):f:=a.elim λb a=>a.elim λc a=>a.elim λd a=>j b c d a
theorem iC{h:Sort _}{i:Sort _}{j:Sort _}{e f:h->i->j->Prop}{g:Prop}(k:∀b c d,e b c d->f b c d->g)(a:∃b c d,e b c d/\f b c d):g:=a.elim λb a=>a.elim λc a=>a.elim λd a=>k b c d a.1 a.2
theorem nT{i:Sort _}{j:Sort _}{k:Sort _}{e f g:i->j->k->Prop}{h:Prop}(l:∀a b c,e a b c->f a b c->g a b c->h)(d:∃a b c,e a b c/\f a b c/\g a b c):h:=d.elim λa d=>d.elim λb d=>d.elim λc d=>l a b c d.1 d.2.1 d.2.2
theorem mP{j:Sort _}{k:Sort _}{l:Sort _}{e f g h:j->k->l->Prop}{i:Prop}(m:∀a b c,e a b c->f a b c->g a b c->h a b c->i)(d:∃a b c,e a b c/\f a b c/\g a b c/\h a b c):i:=d.elim λa d=>d.elim λb d=>d.elim λc d=>m a b c d.1 d.2.1 d.2.2.1 d.2.2.2
theorem vt{k:Sort _}{l:Sort _}{m:Sort _}{e f g h i:k->l->m->Prop}{j:Prop}(n:∀a b c,e a b c->f a b c->g a b c->h a b c->i a b c->j)(d:∃a b c,e a b c/\f a b c/\g a b c/\h a b c/\i a b c):j:=d.elim λa d=>d.elim λb d=>d.elim λc d=>n a b c d.1 d.2.1 d.2.2.1 d.2.2.2.1 d.2.2.2.2
theorem CE{l:Sort _}{m:Sort _}{n:Sort _}{e f g h i j:l->m->n->Prop}{k:Prop}(o:∀a b c,e a b c->f a b c->g a b c->h a b c->i a b c->j a b c->k)(d:∃a b c,e a b c/\f a b c/\g a b c/\h a b c/\i a b c/\j a b c):k:=d.elim λa d=>d.elim λb d=>d.elim λc d=>o a b c d.1 d.2.1 d.2.2.1 d.2.2.2.1 d.2.2.2.2.1 d.2.2.2.2.2
theorem vu{m:Sort _}{n:Sort _}{o:Sort _}{e f g h i j k:m->n->o->Prop}{l:Prop}(p:∀a b c,e a b c->f a b c->g a b c->h a b c->i a b c->j a b c->k a b c->l)(d:∃a b c,e a b c/\f a b c/\g a b c/\h a b c/\i a b c/\j a b c/\k a b c):l:=d.elim λa d=>d.elim λb d=>d.elim λc d=>p a b c d.1 d.2.1 d.2.2.1 d.2.2.2.1 d.2.2.2.2.1 d.2.2.2.2.2.1 d.2.2.2.2.2.2
theorem Xl{h:Sort _}{i:Sort _}{j:Sort _}{k:Sort _}{f:h->i->j->k->Prop}{g:Prop}(l:∀b c d e,f b c d e->g)(a:∃b c d e,f b c d e):g:=a.elim λb a=>a.elim λc a=>a.elim λd a=>a.elim λe a=>l b c d e a
theorem Xm{i:Sort _}{j:Sort _}{k:Sort _}{l:Sort _}{f g:i->j->k->l->Prop}{h:Prop}(m:∀b c d e,f b c d e->g b c d e->h)(a:∃b c d e,f b c d e/\g b c d e):h:=a.elim λb a=>a.elim λc a=>a.elim λd a=>a.elim λe a=>m b c d e a.1 a.2
theorem yo{j:Sort _}{k:Sort _}{l:Sort _}{m:Sort _}{f g h:j->k->l->m->Prop}{i:Prop}(n:∀b c d e,f b c d e->g b c d e->h b c d e->i)(a:∃b c d e,f b c d e/\g b c d e/\h b c d e):i:=a.elim λb a=>a.elim λc a=>a.elim λd a=>a.elim λe a=>n b c d e a.1 a.2.1 a.2.2
theorem Xn{k:Sort _}{l:Sort _}{m:Sort _}{n:Sort _}{f g h i:k->l->m->n->Prop}{j:Prop}(o:∀b c d e,f b c d e->g b c d e->h b c d e->i b c d e->j)(a:∃b c d e,f b c d e/\g b c d e/\h b c d e/\i b c d e):j:=a.elim λb a=>a.elim λc a=>a.elim λd a=>a.elim λe a=>o b c d e a.1 a.2.1 a.2.2.1 a.2.2.2
theorem vv{l:Sort _}{m:Sort _}{n:Sort _}{o:Sort _}{f g h i j:l->m->n->o->Prop}{k:Prop}(p:∀a b c d,f a b c d->g a b c d->h a b c d->i a b c d->j a b c d->k)(e:∃a b c d,f a b c d/\g a b c d/\h a b c d/\i a b c d/\j a b c d):k:=e.elim λa e=>e.elim λb e=>e.elim λc e=>e.elim λd e=>p a b c d e.1 e.2.1 e.2.2.1 e.2.2.2.1 e.2.2.2.2
theorem aB9{m:Sort _}{n:Sort _}{o:Sort _}{p:Sort _}{f g h i j k:m->n->o->p->Prop}{l:Prop}(q:∀a b c d,f a b c d->g a b c d->h a b c d->i a b c d->j a b c d->k a b c d->l)(e:∃a b c d,f a b c d/\g a b c d/\h a b c d/\i a b c d/\j a b c d/\k a b c d):l:=e.elim λa e=>e.elim λb e=>e.elim λc e=>e.elim λd e=>q a b c d e.1 e.2.1 e.2.2.1 e.2.2.2.1 e.2.2.2.2.1 e.2.2.2.2.2
theorem aC0{i:Sort _}{j:Sort _}{k:Sort _}{l:Sort _}{m:Sort _}{g:i->j->k->l->m->Prop}{h:Prop}(n:∀b c d e f,g b c d e f->h)(a:∃b c d e f,g b c d e f):h:=a.elim λb a=>a.elim λc a=>a.elim λd a=>a.elim λe a=>a.elim λf a=>n b c d e f a
theorem Xo{j:Sort _}{k:Sort _}{l:Sort _}{m:Sort _}{n:Sort _}{g h:j->k->l->m->n->Prop}{i:Prop}(o:∀b c d e f,g b c d e f->h b c d e f->i)(a:∃b c d e f,g b c d e f/\h b c d e f):i:=a.elim λb a=>a.elim λc a=>a.elim λd a=>a.elim λe a=>a.elim λf a=>o b c d e f a.1 a.2
theorem aC1{k:Sort _}{l:Sort _}{m:Sort _}{n:Sort _}{o:Sort _}{g h i:k->l->m->n->o->Prop}{j:Prop}(p:∀b c d e f,g b c d e f->h b c d e f->i b c d e f->j)(a:∃b c d e f,g b c d e f/\h b c d e f/\i b c d e f):j:=a.elim λb a=>a.elim λc a=>a.elim λd a=>a.elim λe a=>a.elim λf a=>p b c d e f a.1 a.2.1 a.2.2
theorem td{l:Sort _}{m:Sort _}{n:Sort _}{o:Sort _}{p:Sort _}{g h i j:l->m->n->o->p->Prop}{k:Prop}(q:∀b c d e f,g b c d e f->h b c d e f->i b c d e f->j b c d e f->k)(a:∃b c d e f,g b c d e f/\h b c d e f/\i b c d e f/\j b c d e f):k:=a.elim λb a=>a.elim λc a=>a.elim λd a=>a.elim λe a=>a.elim λf a=>q b c d e f a.1 a.2.1 a.2.2.1 a.2.2.2
theorem aC2{m:Sort _}{n:Sort _}{o:Sort _}{p:Sort _}{q:Sort _}{g h i j k:m->n->o->p->q->Prop}{l:Prop}(r:∀b c d e f,g b c d e f->h b c d e f->i b c d e f->j b c d e f->k b c d e f->l)(a:∃b c d e f,g b c d e f/\h b c d e f/\i b c d e f/\j b c d e f/\k b c d e f):l:=a.elim λb a=>a.elim λc a=>a.elim λd a=>a.elim λe a=>a.elim λf a=>r b c d e f a.1 a.2.1 a.2.2.1 a.2.2.2.1 a.2.2.2.2
theorem aC3{j:Sort _}{k:Sort _}{l:Sort _}{m:Sort _}{n:Sort _}{o:Sort _}{h:j->k->l->m->n->o->Prop}{i:Prop}(p:∀b c d e f g,h b c d e f g->i)(a:∃b c d e f g,h b c d e f g):i:=a.elim λb a=>a.elim λc a=>a.elim λd a=>a.elim λe a=>a.elim λf a=>a.elim λg a=>p b c d e f g a
theorem aC4{k:Sort _}{l:Sort _}{m:Sort _}{n:Sort _}{o:Sort _}{p:Sort _}{h i:k->l->m->n->o->p->Prop}{j:Prop}(q:∀b c d e f g,h b c d e f g->i b c d e f g->j)(a:∃b c d e f g,h b c d e f g/\i b c d e f g):j:=a.elim λb a=>a.elim λc a=>a.elim λd a=>a.elim λe a=>a.elim λf a=>a.elim λg a=>q b c d e f g a.1 a.2
theorem aC5{l:Sort _}{m:Sort _}{n:Sort _}{o:Sort _}{p:Sort _}{q:Sort _}{h i j:l->m->n->o->p->q->Prop}{k:Prop}(r:∀b c d e f g,h b c d e f g->i b c d e f g->j b c d e f g->k)(a:∃b c d e f g,h b c d e f g/\i b c d e f g/\j b c d e f g):k:=a.elim λb a=>a.elim λc a=>a.elim λd a=>a.elim λe a=>a.elim λf a=>a.elim λg a=>r b c d e f g a.1 a.2.1 a.2.2
theorem aC6{m:Sort _}{n:Sort _}{o:Sort _}{p:Sort _}{q:Sort _}{r:Sort _}{h i j k:m->n->o->p->q->r->Prop}{l:Prop}(s:∀b c d e f g,h b c d e f g->i b c d e f g->j b c d e f g->k b c d e f g->l)(a:∃b c d e f g,h b c d e f g/\i b c d e f g/\j b c d e f g/\k b c d e f g):l:=a.elim λb a=>a.elim λc a=>a.elim λd a=>a.elim λe a=>a.elim λf a=>a.elim λg a=>s b c d e f g a.1 a.2.1 a.2.2.1 a.2.2.2
theorem aC7{k:Sort _}{l:Sort _}{m:Sort _}{n:Sort _}{o:Sort _}{p:Sort _}{q:Sort _}{i:k->l->m->n->o->p->q->Prop}{j:Prop}(r:∀b c d e f g h,i b c d e f g h->j)(a:∃b c d e f g h,i b c d e f g h):j:=a.elim λb a=>a.elim λc a=>a.elim λd a=>a.elim λe a=>a.elim λf a=>a.elim λg a=>a.elim λh a=>r b c d e f g h a
theorem aC8{l:Sort _}{m:Sort _}{n:Sort _}{o:Sort _}{p:Sort _}{q:Sort _}{r:Sort _}{i j:l->m->n->o->p->q->r->Prop}{k:Prop}(s:∀b c d e f g h,i b c d e f g h->j b c d e f g h->k)(a:∃b c d e f g h,i b c d e f g h/\j b c d e f g h):k:=a.elim λb a=>a.elim λc a=>a.elim λd a=>a.elim λe a=>a.elim λf a=>a.elim λg a=>a.elim λh a=>s b c d e f g h a.1 a.2
theorem aC9{m:Sort _}{n:Sort _}{o:Sort _}{p:Sort _}{q:Sort _}{r:Sort _}{s:Sort _}{i j k:m->n->o->p->q->r->s->Prop}{l:Prop}(t:∀b c d e f g h,i b c d e f g h->j b c d e f g h->k b c d e f g h->l)(a:∃b c d e f g h,i b c d e f g h/\j b c d e f g h/\k b c d e f g h):l:=a.elim λb a=>a.elim λc a=>a.elim λd a=>a.elim λe a=>a.elim λf a=>a.elim λg a=>a.elim λh a=>t b c d e f g h a.1 a.2.1 a.2.2
theorem an0:∀(a b:N),a<=b->a<=dI a b:=λa b c=>bd<|aw 0 F W (.f 1 W F .z) (aP ((a:N):H) (((dI a b):N):H)) O (ax<|lB (bd<|aw 0 F W (.p 1 F W .z) (aP ((a:N):H) ((b:N):H)) O (ak c)))
theorem an1:∀(b:N) (a:H),cw a<=(200:N)->(↑b:H)*a<=(4:H)*a->¬(↑b:H)*a>(↑((2:N)^(27:N)):H):=λb a c d=>λe=>aD (.p 4 F 200<|.p 1 W (fe 4 aF) (.p 1 134217729 W<|.p 4 aF F .z)) (cg (((cw a):N):H) (((b:N):H)*a) a) O (ak c) d e<|oz a
theorem ao1:∀(a:N),(0:N)<a->((0:H)<=(-1:H)+(↑a:H)/\(-1:H)+(↑a:H)<(↑a:H))/\cw ((-1:H)+(↑a:H))=a - (1:N):=λa b=>⟨⟨aw 0 0 ((eS<|-1)+F) (.p 1 1 F .z) (aG ((a:N):H)) O<|ak b,aw 0 (((eS<|-1)+F)+1) F .z (aG ((a:N):H)) O⟩,aZ (bd<|aw 0 F W (.q 1 F ((eS<|-1)+aF)<|.p 1 aF (W+1) .z) (cg (((cw<|(-1:H)+((a:N):H)):N):H) (((a - (1:N)):N):H) ((a:N):H)) O (hw<|aw 0 0 ((eS<|-1)+F) (.p 1 1 F .z) (aG ((a:N):H)) O (ak b)) (ak<|dz a (1:N)))<|bd (aw 0 F W (.q 1 (F+1) aF<|.p 1 ((eS<|-1)+aF) W .z) (cg (((a - (1:N)):N):H) (((cw<|(-1:H)+((a:N):H)):N):H) ((a:N):H)) O (ax<|dD (bd<|aw 0 1 F (.p 1 1 F .z) (aG ((a:N):H)) O (ak b)))<|oz ((-1:H)+((a:N):H)))⟩
theorem Md:∀(a b:H),b<a->a - b=du (a - b) (0:H):=λa b c=>kw (aw 0 (F-W) aF (.p 1 (F-W) aF .z) (cg a b<|du (a - b) (0:H)) O<|vT (a - b) (0:H))<|aw 0 F (W-aF) (.q 1 F (W-aF) .z) (cg (du (a - b) (0:H)) a b) O (Int.max_eq_left<|aw 0 0 (F-W) (.p 1 (W+1) F .z) (aP a b) O c)
theorem Mg:∀(a b:H),¬b<a->(0:H)=du (a - b) (0:H):=λa b c=>kw (aw 0 0 F (.p 1 0 F .z) (aG<|du (a - b) (0:H)) O<|Eb (a - b) (0:H))<|aw 0 F 0 (.q 1 F 0 .z) (aG<|du (a - b) (0:H)) O (vU<|aw 0 (F-W) 0 (.p 1 F W .z) (aP a b) O (mq.mp c))
theorem aq8:∀(a:H) (b c:N),(0:H)<=a/\a<=(↑c:H)/\c<(2:N)^(20:N)->b=c->dI (cw a) b=cw a:=λa b c d e=>aZ (bd<|aw 0 F W (.p 1 F W .z) (aP (((dI (cw a) b):N):H) (((cw a):N):H)) O (ak<|sa (cw a) b))<|bd (aw 0 F W (.f 1 W F .z) (aP (((cw a):N):H) (((dI (cw a) b):N):H)) O<|ax (lB<|bd (aw 0 F W (.p 1 aF cx<|.f 1 W cx (.q 1 F aF .z)) (gM (((cw a):N):H) ((b:N):H) a ((c:N):H)) O d.2.1 (ax e)<|hw (aw 0 0 F (.p 1 0 F .z) (aG a) O d.1))))
theorem ar8:∀(a:H) (b:N),(0:H)<=a/\a<=(↑b:H)/\b<(2:N)^(20:N)->cw a<=b:=λa b c=>bd<|aw 0 F W (.p 1 aF W<|.q 1 F aF .z) (cg (((cw a):N):H) ((b:N):H) a) O c.2.1 (hw<|aw 0 0 F (.p 1 0 F .z) (aG a) O c.1)
theorem as4:∀(a b:H) (c:N),(0:H)<=a/\(0:H)<=b/\a<=(↑c:H)/\b<=(↑c:H)->cw (du (0:H) a)=cw a:=λa b c d=>aZ (bd<|aw 0 F W (.q 1 aF cx<|.q 1 F aF (.p 1 cx W .z)) (gM (((cw<|du (0:H) a):N):H) (((cw a):N):H) (du (0:H) a) a) O (vU<|aw 0 0 F (.p 1 0 F .z) (aG a) O d.1) (hw<|aw 0 0 F (.p 1 0 F .z) (aG<|du (0:H) a) O (vT (0:H) a)) (oz a))<|bd (aw 0 F W (.q 1 F aF<|.p 1 aF cx (.p 1 cx W .z)) (gM (((cw a):N):H) (((cw<|du (0:H) a):N):H) a<|du (0:H) a) O (hw<|aw 0 0 F (.p 1 0 F .z) (aG a) O d.1) (Eb (0:H) a)<|oz (du (0:H) a))
theorem as5:∀(a:H) (b:N) (d:H),(0:H)<=d/\(0:H)<=a/\d<=(↑b:H)/\a<=(↑b:H)->dI (cw<|du (0:H) a) b=cw a:=λa b d c=>aZ (bd<|aw 0 F W (.q 1 aF cx<|.q 1 ig aF (.p 1 F ig<|.p 1 cx W .z)) (rQ (((dI (cw<|du (0:H) a) b):N):H) (((cw a):N):H) (du (0:H) a) a (((cw<|du (0:H) a):N):H)) O (vU<|aw 0 0 F (.p 1 0 F .z) (aG a) O c.2.1) (hw<|aw 0 0 F (.p 1 0 F .z) (aG<|du (0:H) a) O (vT (0:H) a)) (ak<|sa (cw<|du (0:H) a) b) (oz a))<|bd (aw 0 F W (.q 1 F aF<|.p 1 aF cx (.p 1 cx ig<|.f 1 W ig .z)) (rQ (((cw a):N):H) (((dI (cw<|du (0:H) a) b):N):H) a (du (0:H) a) (((cw<|du (0:H) a):N):H)) O (hw<|aw 0 0 F (.p 1 0 F .z) (aG a) O c.2.1) (Eb (0:H) a) (oz<|du (0:H) a)<|ax (lB<|bd (aw 0 F W (.p 1 aF W<|.q 1 cx aF (.q 1 F cx .z)) (gM (((cw<|du (0:H) a):N):H) ((b:N):H) a<|du (0:H) a) O c.2.2.2 (vU<|aw 0 0 F (.p 1 0 F .z) (aG a) O c.2.1)<|hw (aw 0 0 F (.p 1 0 F .z) (aG<|du (0:H) a) O<|vT (0:H) a))))
theorem as6:∀(a b c:N),b<=(16:N)->a<c->c=b->cw ((↑a:H)+(1:H))<=(200:N):=λa b c d e f=>bd<|aw 0 F 200 (.p 1 W 16<|.p 1 (aF+1) cx (.q 1 cx W<|.q 1 F (aF+1) .z)) (gM (((cw<|((a:N):H)+(1:H)):N):H) ((b:N):H) ((a:N):H) ((c:N):H)) O (ak d) (ak e) (ax f) (hw<|aw 0 0 (F+1) (.p 1 0 F .z) (aG ((a:N):H)) O (cj a))
theorem an2:∀(a b c:N),b<=(16:N)->a<c->c=b->cw (↑a:H)<=(200:N):=λa b c d e f=>bd<|aw 0 F 200 (.p 1 W 16<|.p 1 (aF+1) cx (.q 1 cx W<|.q 1 F aF .z)) (gM (((cw ((a:N):H)):N):H) ((b:N):H) ((a:N):H) ((c:N):H)) O (ak d) (ak e) (ax f) (hw<|aw 0 0 F (.p 1 0 F .z) (aG ((a:N):H)) O (cj a))
theorem an3:∀(a:N),a<=(8:N)->(1:N)*cw (↑a:H)<=(1048576:N):=λa b=>bd<|aw 0 (fe 1 F) 1048576 (.p 1 W 8<|.q 1 F W .z) (aP (((cw ((a:N):H)):N):H) ((a:N):H)) O (ak b) (hw<|aw 0 0 F (.p 1 0 F .z) (aG ((a:N):H)) O (cj a))
theorem Mb:∀(a:N) (b:Prop),b/\a<=1->du 1 a<=1:=λa b c=>bd<|aw 0 F 1 (.q 1 F 1 .z) (aG (((du 1 a):N):H)) O (ax<|ws (bd<|aw 0 F 1 (.p 1 F 1 .z) (aG ((a:N):H)) O (ak c.2)))
theorem an4:∀(a:H) (b:N),(0:H)<=du (0:H) (dI a (↑b:H)):=λa b=>aw 0 0 F (.p 1 0 F .z) (aG<|du (0:H) (dI a ((b:N):H))) O<|vT (0:H) (dI a ((b:N):H))
theorem an5:∀(a b:H),(0:H)<=b->a<=(63:H)->cw ((a - b+(4:H) - (1:H))/(4:H))<=(200:N):=λa b c d=>(Int.le_total (0:H)<|(((a - b)+(4:H)) - (1:H))/(4:H)).elim (λe=>bd<|aw 3 F 200 (.p 1 0 W<|.p 1 aF 63 (.p 1 (fe 4 cx) (aF-W+4-1)<|.q 4 F cx .z)) (gM (((cw<|(((a - b)+(4:H)) - (1:H))/(4:H)):N):H) b a<|(((a - b)+(4:H)) - (1:H))/(4:H)) O c d (Int.mul_ediv_self_le (x:=(((a - b)+(4:H)) - (1:H))) (k:=(4:H))<|by decide) (hw<|aw 0 0 F (.p 1 0 F .z) (aG<|(((a - b)+(4:H)) - (1:H))/(4:H)) O e)) λf=>bd<|aw 0 F 200 (.q 1 F 0 .z) (aG (((cw<|(((a - b)+(4:H)) - (1:H))/(4:H)):N):H)) O (ax<|Int.toNat_of_nonpos (aw 0 F 0 (.p 1 F 0 .z) (aG<|(((a - b)+(4:H)) - (1:H))/(4:H)) O f))
theorem an6:∀(b a:N),b<=du (1:N) ((2:N)*a - (2:N))->(2:H)*(↑a:H) - (2:H)>(1:H)->¬(↑b:H)>(2:H)*(↑a:H) - (2:H):=λb a d c=>λe=>aD (.p 1 F W<|.p 1 2 ((fe 2 aF)-2) (.p 1 (((fe 2 aF)-2)+1) F<|.q 1 W 1 .z)) (cg ((b:N):H) (((du (1:N)<|((2:N)*a) - (2:N)):N):H) ((a:N):H)) O (ak d) c e<|ax (ws<|aD (.p 1 F W<|.p 1 (((fe 2 aF)-2)+1) F (.q 1 (cx+2) (fe 2 aF)<|.q 1 W cx .z)) (gM ((b:N):H) (((du (1:N)<|((2:N)*a) - (2:N)):N):H) ((a:N):H) (((((2:N)*a) - (2:N)):N):H)) O (ak d) e (ax<|dD (bd<|aw 0 2 (fe 2 F) (.p 1 2 ((fe 2 F)-2) .z) (aG ((a:N):H)) O c)) (ax<|Nat.max_eq_right (bd<|aw 0 1 F (.p 1 2 ((fe 2 W)-2)<|.p 1 (fe 2 W) (F+2) .z) (aP (((((2:N)*a) - (2:N)):N):H) ((a:N):H)) O c (ak<|dz ((2:N)*a) (2:N)))))
theorem an7:∀(b a:N),b<=du (1:N) ((2:N)*a - (2:N))->¬(2:H)*(↑a:H) - (2:H)>(1:H)->¬(↑b:H)>(1:H):=λb a c e=>λd=>(NE (2:N)<|(2:N)*a).elim (λf=>aD (.p 1 F W<|.p 1 2 F (.q 1 W 1 .z)) (aP ((b:N):H) (((du (1:N)<|((2:N)*a) - (2:N)):N):H)) O (ak c) d<|ax (ws<|bd (aw 0 F 1 (.p 1 ((fe 2 W)-2) 1<|.q 1 (F+2) (fe 2 W) .z) (aP (((((2:N)*a) - (2:N)):N):H) ((a:N):H)) O (mq.mp e)<|ax (dD<|bd (aw 0 2 (fe 2 F) (.p 1 2 (fe 2 F) .z) (aG ((a:N):H)) O<|ak f))))) λg=>aD (.p 1 F W<|.p 1 2 F (.q 1 W 1 .z)) (aP ((b:N):H) (((du (1:N)<|((2:N)*a) - (2:N)):N):H)) O (ak c) d<|ax (ws<|bd (aw 0 F 1 (.q 1 F 0 .z) (aG (((((2:N)*a) - (2:N)):N):H)) O<|ax (NO<|bd (aw 0 (fe 2 F) 2 (.p 1 (fe 2 F) 2 .z) (aG ((a:N):H)) O<|ak g))))
theorem an8:∀(a:N),(1:N)<=a->(↑a:H) - (1:H)=(↑(a - (1:N)):H):=λa b=>kw (aw 0 (F-1) W (.p 1 F (W+1) .z) (aP ((a:N):H) (((a - (1:N)):N):H)) O<|ak (dz a (1:N)))<|aw 0 F (W-1) (.q 1 (F+1) W .z) (aP (((a - (1:N)):N):H) ((a:N):H)) O (ax<|dD (bd<|aw 0 1 F (.p 1 1 F .z) (aG ((a:N):H)) O (ak b)))
theorem an9:∀(a b:N),b<=(100:N)->a=b->cw (↑a:H)<=(200:N):=λa b c d=>bd<|aw 0 F 200 (.p 1 W 100<|.q 1 aF W (.q 1 F aF .z)) (cg (((cw ((a:N):H)):N):H) ((b:N):H) ((a:N):H)) O (ak c) (ax d) (hw<|aw 0 0 F (.p 1 0 F .z) (aG ((a:N):H)) O (cj a))
theorem ao0:∀(a:N),a<(900000:N)->(1:N)*cw (↑a:H)<=(1048576:N):=λa b=>bd<|aw 0 (fe 1 F) 1048576 (.p 1 (W+1) 900000<|.q 1 F W .z) (aP (((cw ((a:N):H)):N):H) ((a:N):H)) O (ak b) (hw<|aw 0 0 F (.p 1 0 F .z) (aG ((a:N):H)) O (cj a))
theorem ao2:∀(a:N),a<(1000:N)->(2:N)*cw (↑a:H)<=(1048576:N):=λa b=>bd<|aw 0 (fe 2 F) 1048576 (.p 2 (W+1) 1000<|.q 2 F W .z) (aP (((cw ((a:N):H)):N):H) ((a:N):H)) O (ak b) (hw<|aw 0 0 F (.p 1 0 F .z) (aG ((a:N):H)) O (cj a))
theorem Mc:∀(a:N) (b:Prop),¬a=(1:N)->b->¬(↑a:H)=(1:H):=λa b d g=>λc=>(cu d).elim (λe=>aD (.f 1 F 1<|.p 1 (F+1) 1 .z) (aG ((a:N):H)) O c<|ak e) λf=>aD (.q 1 F 1<|.p 1 2 F .z) (aG ((a:N):H)) O c<|ak f
theorem ao3:∀(a:N) (b:Prop),a≠(0:N)->b->¬(↑a:H)=(0:H):=λa b d g=>λc=>(cu d).elim (λe=>aD (.f 1 F 0<|.p 1 (F+1) 0 .z) (aG ((a:N):H)) O c<|ak e) λf=>aD (.q 1 F 0<|.p 1 1 F .z) (aG ((a:N):H)) O c<|ak f
theorem ao4:∀(a:N),(↑a:H)<(256:H)↔a<(256:N):=λa=>⟨λb=>bd<|aw 0 (F+1) 256 (.p 1 (F+1) 256 .z) (aG ((a:N):H)) O b,λc=>aw 0 (F+1) 256 (.p 1 (F+1) 256 .z) (aG ((a:N):H)) O<|ak c⟩
theorem ao5:∀(c d a e b f g:N),a<=e->b=e->f=d->c<=a->dI a b - c=f+g->c+d<=a:=λc d a e b f g h i j k l=>bd<|aw 0 (F+W) aF (.f 1 cx W<|.f 1 ig (cx+vY) (.p 1 vZ aF<|.q 1 (ig+F) vZ (.p 1 0 vY .z))) (Ed ((c:N):H) ((d:N):H) ((a:N):H) ((f:N):H) ((((dI a b) - c):N):H) ((g:N):H) (((dI a b):N):H)) O (ax j) (ax l) (ak<|sa a b) (ax<|dD (bd<|aw 0 F W (.p 1 F aF<|.f 1 W aF .z) (cg ((c:N):H) (((dI a b):N):H) ((a:N):H)) O (ak k) (ax<|lB (bd<|aw 0 F W (.p 1 F aF<|.f 1 W aF .z) (cg ((a:N):H) ((b:N):H) ((e:N):H)) O (ak h) (ax i))))) (cj g)
theorem ao6:∀(a c d b f e:N) (h i:Prop) (g:N),b<=f->e=f->d=c->(h↔i)->a<=b->dI b e - a=d+g->a+c - a=dI d (b - a):=λa c d b f e h i g k l j o m n=>aZ (bd<|aw 0 F W (.f 1 aF cx<|.q 1 (F+ig) (ig+cx) (.f 1 W aF .z)) (rQ ((((a+c) - a):N):H) (((dI d<|b - a):N):H) ((d:N):H) ((c:N):H) ((a:N):H)) O (ax j) (ax<|dD (bd<|aw 0 F (F+W) (.p 1 0 W .z) (aP ((a:N):H) ((c:N):H)) O (cj c))) (ax<|lB (bd<|aw 0 F W (.f 1 aF (F+cx)<|.p 1 ig vY (.q 1 (aF+vZ) ig<|.p 1 vY (W+vZ) (.p 1 0 cx .z))) (Ed ((d:N):H) (((b - a):N):H) ((((dI b e) - a):N):H) ((g:N):H) (((dI b e):N):H) ((b:N):H) ((a:N):H)) O (ax n) (ak<|sa b e) (ax<|dD (bd<|aw 0 F W (.p 1 F aF<|.f 1 W aF .z) (cg ((a:N):H) (((dI b e):N):H) ((b:N):H)) O (ak m) (ax<|lB (bd<|aw 0 F W (.p 1 F aF<|.f 1 W aF .z) (cg ((b:N):H) ((e:N):H) ((f:N):H)) O (ak k) (ax l))))) (ak<|dz b a) (cj g))))<|bd (aw 0 F W (.q 1 aF cx<|.p 1 F aF (.p 1 (ig+cx) (W+ig) .z)) (rQ (((dI d<|b - a):N):H) ((((a+c) - a):N):H) ((d:N):H) ((c:N):H) ((a:N):H)) O (ax j) (ak<|sa d (b - a))<|ak (dz (a+c) a))
theorem ao7:∀(g c a d b:N),c=a/\d=a\/c=b/\g=b\/c≠a/\c≠b/\c≠d/\c≠g->a≠b->c=a->b=d->g=c:=λg c a d b j k h e=>j.elim (λf=>j.elim (λt=>(cu k).elim (λl=>aZ (aD (.q 1 F W<|.q 1 W aF (.p 1 (aF+1) F .z)) (cg ((b:N):H) ((d:N):H) ((a:N):H)) O (ax e) (ax f.2)<|ak l)<|aD (.q 1 F W<|.q 1 W aF (.p 1 (aF+1) F .z)) (cg ((b:N):H) ((d:N):H) ((a:N):H)) O (ax e) (ax f.2) (ak l)) λm=>aZ (aD (.f 1 F W<|.f 1 W aF (.p 1 (F+1) aF .z)) (cg ((b:N):H) ((d:N):H) ((a:N):H)) O (ax e) (ax f.2)<|ak m)<|aD (.f 1 F W<|.f 1 W aF (.p 1 (F+1) aF .z)) (cg ((b:N):H) ((d:N):H) ((a:N):H)) O (ax e) (ax f.2) (ak m)) λu=>(cu k).elim (λn=>aZ (aD (.q 1 F W<|.q 1 W aF (.p 1 (aF+1) F .z)) (cg ((b:N):H) ((d:N):H) ((a:N):H)) O (ax e) (ax f.2)<|ak n)<|aD (.q 1 F W<|.q 1 W aF (.p 1 (aF+1) F .z)) (cg ((b:N):H) ((d:N):H) ((a:N):H)) O (ax e) (ax f.2) (ak n)) λo=>aZ (aD (.f 1 F W<|.f 1 W aF (.p 1 (F+1) aF .z)) (cg ((b:N):H) ((d:N):H) ((a:N):H)) O (ax e) (ax f.2)<|ak o)<|aD (.f 1 F W<|.f 1 W aF (.p 1 (F+1) aF .z)) (cg ((b:N):H) ((d:N):H) ((a:N):H)) O (ax e) (ax f.2) (ak o)) λr=>r.elim (λi=>aZ (bd<|aw 0 F W (.f 1 W aF<|.q 1 F aF .z) (cg ((g:N):H) ((c:N):H) ((b:N):H)) O (ax i.1) (ax i.2))<|bd (aw 0 F W (.q 1 F aF<|.f 1 W aF .z) (cg ((c:N):H) ((g:N):H) ((b:N):H)) O (ax i.1)<|ax i.2)) λs=>(cu s.1).elim (λp=>aZ (aD (.f 1 F W<|.p 1 (F+1) W .z) (aP ((c:N):H) ((a:N):H)) O (ax h)<|ak p)<|aD (.f 1 F W<|.p 1 (F+1) W .z) (aP ((c:N):H) ((a:N):H)) O (ax h) (ak p)) λq=>aZ (aD (.q 1 F W<|.p 1 (W+1) F .z) (aP ((c:N):H) ((a:N):H)) O (ax h)<|ak q)<|aD (.q 1 F W<|.p 1 (W+1) F .z) (aP ((c:N):H) ((a:N):H)) O (ax h) (ak q)
theorem ao8:∀(c a b d f:N),a=b/\c=b\/a=d/\f=d\/a≠b/\a≠d/\a≠c/\a≠f->b≠d->a=b->d=c->c=a:=λc a b d f l o e g=>l.elim (λh=>aZ (bd<|aw 0 F W (.f 1 W aF<|.q 1 F aF .z) (cg ((c:N):H) ((a:N):H) ((b:N):H)) O (ax e) (ax h.2))<|bd (aw 0 F W (.q 1 F aF<|.f 1 W aF .z) (cg ((a:N):H) ((c:N):H) ((b:N):H)) O (ax e)<|ax h.2)) λm=>m.elim (λi=>aZ (bd<|aw 0 F W (.f 1 aF F<|.f 1 W aF .z) (cg ((c:N):H) ((a:N):H) ((d:N):H)) O (ax g) (ax i.1))<|bd (aw 0 F W (.q 1 aF W<|.q 1 F aF .z) (cg ((a:N):H) ((c:N):H) ((d:N):H)) O (ax g)<|ax i.1)) λn=>(cu n.1).elim (λj=>aZ (aD (.f 1 F W<|.p 1 (F+1) W .z) (aP ((a:N):H) ((b:N):H)) O (ax e)<|ak j)<|aD (.f 1 F W<|.p 1 (F+1) W .z) (aP ((a:N):H) ((b:N):H)) O (ax e) (ak j)) λk=>aZ (aD (.q 1 F W<|.p 1 (W+1) F .z) (aP ((a:N):H) ((b:N):H)) O (ax e)<|ak k)<|aD (.q 1 F W<|.p 1 (W+1) F .z) (aP ((a:N):H) ((b:N):H)) O (ax e) (ak k)
theorem ao9:∀(g c a d b:N),c=a/\d=a\/c=b/\g=b\/c≠a/\c≠b/\c≠d/\c≠g->a≠b->c=a->d=b->g=c:=λg c a d b j k h e=>j.elim (λf=>j.elim (λt=>(cu k).elim (λl=>aZ (aD (.f 1 F W<|.q 1 F aF (.p 1 (aF+1) W .z)) (cg ((d:N):H) ((b:N):H) ((a:N):H)) O (ax e) (ax f.2)<|ak l)<|aD (.f 1 F W<|.q 1 F aF (.p 1 (aF+1) W .z)) (cg ((d:N):H) ((b:N):H) ((a:N):H)) O (ax e) (ax f.2) (ak l)) λm=>aZ (aD (.q 1 F W<|.f 1 F aF (.p 1 (W+1) aF .z)) (cg ((d:N):H) ((b:N):H) ((a:N):H)) O (ax e) (ax f.2)<|ak m)<|aD (.q 1 F W<|.f 1 F aF (.p 1 (W+1) aF .z)) (cg ((d:N):H) ((b:N):H) ((a:N):H)) O (ax e) (ax f.2) (ak m)) λu=>(cu k).elim (λn=>aZ (aD (.f 1 F W<|.q 1 F aF (.p 1 (aF+1) W .z)) (cg ((d:N):H) ((b:N):H) ((a:N):H)) O (ax e) (ax f.2)<|ak n)<|aD (.f 1 F W<|.q 1 F aF (.p 1 (aF+1) W .z)) (cg ((d:N):H) ((b:N):H) ((a:N):H)) O (ax e) (ax f.2) (ak n)) λo=>aZ (aD (.q 1 F W<|.f 1 F aF (.p 1 (W+1) aF .z)) (cg ((d:N):H) ((b:N):H) ((a:N):H)) O (ax e) (ax f.2)<|ak o)<|aD (.q 1 F W<|.f 1 F aF (.p 1 (W+1) aF .z)) (cg ((d:N):H) ((b:N):H) ((a:N):H)) O (ax e) (ax f.2) (ak o)) λr=>r.elim (λi=>aZ (bd<|aw 0 F W (.f 1 W aF<|.q 1 F aF .z) (cg ((g:N):H) ((c:N):H) ((b:N):H)) O (ax i.1) (ax i.2))<|bd (aw 0 F W (.q 1 F aF<|.f 1 W aF .z) (cg ((c:N):H) ((g:N):H) ((b:N):H)) O (ax i.1)<|ax i.2)) λs=>(cu s.1).elim (λp=>aZ (aD (.f 1 F W<|.p 1 (F+1) W .z) (aP ((c:N):H) ((a:N):H)) O (ax h)<|ak p)<|aD (.f 1 F W<|.p 1 (F+1) W .z) (aP ((c:N):H) ((a:N):H)) O (ax h) (ak p)) λq=>aZ (aD (.q 1 F W<|.p 1 (W+1) F .z) (aP ((c:N):H) ((a:N):H)) O (ax h)<|ak q)<|aD (.q 1 F W<|.p 1 (W+1) F .z) (aP ((c:N):H) ((a:N):H)) O (ax h) (ak q)
theorem ap0:∀(e a b d g:N),a=b/\e=b\/a=d/\g=d\/a≠b/\a≠d/\a≠e/\a≠g->b≠d->a=b->e=a:=λe a b d g m n c=>m.elim (λh=>aZ (bd<|aw 0 F W (.f 1 W aF<|.q 1 F aF .z) (cg ((e:N):H) ((a:N):H) ((b:N):H)) O (ax c) (ax h.2))<|bd (aw 0 F W (.q 1 F aF<|.f 1 W aF .z) (cg ((a:N):H) ((e:N):H) ((b:N):H)) O (ax c)<|ax h.2)) λo=>o.elim (λf=>(cu n).elim (λi=>aZ (aD (.q 1 F W<|.f 1 F aF (.p 1 (W+1) aF .z)) (cg ((a:N):H) ((b:N):H) ((d:N):H)) O (ax c) (ax f.1)<|ak i)<|aD (.q 1 F W<|.f 1 F aF (.p 1 (W+1) aF .z)) (cg ((a:N):H) ((b:N):H) ((d:N):H)) O (ax c) (ax f.1) (ak i)) λj=>aZ (aD (.f 1 F W<|.q 1 F aF (.p 1 (aF+1) W .z)) (cg ((a:N):H) ((b:N):H) ((d:N):H)) O (ax c) (ax f.1)<|ak j)<|aD (.f 1 F W<|.q 1 F aF (.p 1 (aF+1) W .z)) (cg ((a:N):H) ((b:N):H) ((d:N):H)) O (ax c) (ax f.1) (ak j)) λp=>(cu p.1).elim (λk=>aZ (aD (.f 1 F W<|.p 1 (F+1) W .z) (aP ((a:N):H) ((b:N):H)) O (ax c)<|ak k)<|aD (.f 1 F W<|.p 1 (F+1) W .z) (aP ((a:N):H) ((b:N):H)) O (ax c) (ak k)) λl=>aZ (aD (.q 1 F W<|.p 1 (W+1) F .z) (aP ((a:N):H) ((b:N):H)) O (ax c)<|ak l)<|aD (.q 1 F W<|.p 1 (W+1) F .z) (aP ((a:N):H) ((b:N):H)) O (ax c) (ak l)
theorem ap1:∀(d a b c e:N),b≠d->a=c/\b=c\/a=e/\d=e\/a≠c/\a≠e/\a≠b/\a≠d->¬a=c->a=b->d=a:=λd a b c e n o i f=>o.elim (λg=>(cu n).elim (λp=>(cu i).elim (λj=>aZ (aD (.f 1 F W<|.p 1 (F+1) W .z) (aP ((a:N):H) ((c:N):H)) O (ax g.1)<|ak j)<|aD (.f 1 F W<|.p 1 (F+1) W .z) (aP ((a:N):H) ((c:N):H)) O (ax g.1) (ak j)) λq=>aZ (aD (.q 1 F W<|.p 1 (W+1) F .z) (aP ((a:N):H) ((c:N):H)) O (ax g.1)<|ak q)<|bd (aw 0 F W (.q 1 F aF<|.p 1 (aF+1) W .z) (cg ((a:N):H) ((d:N):H) ((b:N):H)) O (ax f)<|ak p)) λr=>(cu i).elim (λk=>aZ (aD (.f 1 F W<|.p 1 (F+1) W .z) (aP ((a:N):H) ((c:N):H)) O (ax g.1)<|ak k)<|aD (.f 1 F W<|.p 1 (F+1) W .z) (aP ((a:N):H) ((c:N):H)) O (ax g.1) (ak k)) λs=>aZ (bd<|aw 0 F W (.f 1 W aF<|.p 1 (F+1) aF .z) (cg ((d:N):H) ((a:N):H) ((b:N):H)) O (ax f) (ak r))<|aD (.q 1 F W<|.p 1 (W+1) F .z) (aP ((a:N):H) ((c:N):H)) O (ax g.1) (ak s)) λt=>t.elim (λh=>aZ (bd<|aw 0 F W (.f 1 W aF<|.q 1 F aF .z) (cg ((d:N):H) ((a:N):H) ((e:N):H)) O (ax h.1) (ax h.2))<|bd (aw 0 F W (.q 1 F aF<|.f 1 W aF .z) (cg ((a:N):H) ((d:N):H) ((e:N):H)) O (ax h.1)<|ax h.2)) λu=>(cu u.2.2.1).elim (λl=>aZ (aD (.f 1 F W<|.p 1 (F+1) W .z) (aP ((a:N):H) ((b:N):H)) O (ax f)<|ak l)<|aD (.f 1 F W<|.p 1 (F+1) W .z) (aP ((a:N):H) ((b:N):H)) O (ax f) (ak l)) λm=>aZ (aD (.q 1 F W<|.p 1 (W+1) F .z) (aP ((a:N):H) ((b:N):H)) O (ax f)<|ak m)<|aD (.q 1 F W<|.p 1 (W+1) F .z) (aP ((a:N):H) ((b:N):H)) O (ax f) (ak m)
theorem ap2:∀(c a b d e:N),b≠d->a=c/\b=c\/a=e/\d=e\/a≠c/\a≠e/\a≠b/\a≠d->¬a=c->a=b->c=a:=λc a b d e m n q f=>n.elim (λh=>aZ (bd<|aw 0 F W (.f 1 W F .z) (aP ((c:N):H) ((a:N):H)) O (ax h.1))<|bd (aw 0 F W (.q 1 F W .z) (aP ((a:N):H) ((c:N):H)) O<|ax h.1)) λo=>o.elim (λg=>(cu m).elim (λi=>aZ (aD (.q 1 F W<|.f 1 F aF (.q 1 cx aF<|.p 1 (W+1) cx .z)) (gM ((a:N):H) ((b:N):H) ((e:N):H) ((d:N):H)) O (ax f) (ax g.1) (ax g.2)<|ak i)<|aD (.q 1 F W<|.f 1 F aF (.q 1 cx aF<|.p 1 (W+1) cx .z)) (gM ((a:N):H) ((b:N):H) ((e:N):H) ((d:N):H)) O (ax f) (ax g.1) (ax g.2) (ak i)) λj=>aZ (aD (.f 1 F W<|.q 1 F aF (.f 1 cx aF<|.p 1 (cx+1) W .z)) (gM ((a:N):H) ((b:N):H) ((e:N):H) ((d:N):H)) O (ax f) (ax g.1) (ax g.2)<|ak j)<|aD (.f 1 F W<|.q 1 F aF (.f 1 cx aF<|.p 1 (cx+1) W .z)) (gM ((a:N):H) ((b:N):H) ((e:N):H) ((d:N):H)) O (ax f) (ax g.1) (ax g.2) (ak j)) λp=>(cu p.2.2.1).elim (λk=>aZ (aD (.f 1 F W<|.p 1 (F+1) W .z) (aP ((a:N):H) ((b:N):H)) O (ax f)<|ak k)<|aD (.f 1 F W<|.p 1 (F+1) W .z) (aP ((a:N):H) ((b:N):H)) O (ax f) (ak k)) λl=>aZ (aD (.q 1 F W<|.p 1 (W+1) F .z) (aP ((a:N):H) ((b:N):H)) O (ax f)<|ak l)<|aD (.q 1 F W<|.p 1 (W+1) F .z) (aP ((a:N):H) ((b:N):H)) O (ax f) (ak l)
theorem ap3:∀(e a c f b:N),c≠f->a=b/\c=b\/a=e/\f=e\/a≠b/\a≠e/\a≠c/\a≠f->¬a=b->a=c->e=a:=λe a c f b p q h g=>q.elim (λd=>(cu p).elim (λt=>(cu h).elim (λi=>aZ (aD (.f 1 F W<|.p 1 (F+1) W .z) (aP ((a:N):H) ((b:N):H)) O (ax d.1)<|ak i)<|aD (.f 1 F W<|.p 1 (F+1) W .z) (aP ((a:N):H) ((b:N):H)) O (ax d.1) (ak i)) λj=>aZ (aD (.q 1 F W<|.p 1 (W+1) F .z) (aP ((a:N):H) ((b:N):H)) O (ax d.1)<|ak j)<|aD (.q 1 F W<|.p 1 (W+1) F .z) (aP ((a:N):H) ((b:N):H)) O (ax d.1) (ak j)) λu=>(cu h).elim (λk=>aZ (aD (.f 1 F W<|.p 1 (F+1) W .z) (aP ((a:N):H) ((b:N):H)) O (ax d.1)<|ak k)<|aD (.f 1 F W<|.p 1 (F+1) W .z) (aP ((a:N):H) ((b:N):H)) O (ax d.1) (ak k)) λl=>aZ (aD (.q 1 F W<|.p 1 (W+1) F .z) (aP ((a:N):H) ((b:N):H)) O (ax d.1)<|ak l)<|aD (.q 1 F W<|.p 1 (W+1) F .z) (aP ((a:N):H) ((b:N):H)) O (ax d.1) (ak l)) λr=>r.elim (λm=>aZ (bd<|aw 0 F W (.f 1 W F .z) (aP ((e:N):H) ((a:N):H)) O (ax m.1))<|bd (aw 0 F W (.q 1 F W .z) (aP ((a:N):H) ((e:N):H)) O<|ax m.1)) λs=>(cu s.2.2.1).elim (λn=>aZ (aD (.f 1 F W<|.p 1 (F+1) W .z) (aP ((a:N):H) ((c:N):H)) O (ax g)<|ak n)<|aD (.f 1 F W<|.p 1 (F+1) W .z) (aP ((a:N):H) ((c:N):H)) O (ax g) (ak n)) λo=>aZ (aD (.q 1 F W<|.p 1 (W+1) F .z) (aP ((a:N):H) ((c:N):H)) O (ax g)<|ak o)<|aD (.q 1 F W<|.p 1 (W+1) F .z) (aP ((a:N):H) ((c:N):H)) O (ax g) (ak o)
theorem ap4:∀(d a b c e:N),a=d/\b=d\/a=c/\e=c\/a≠d/\a≠c/\a≠b/\a≠e->¬a=d->¬a=b->c=b->a=e->d=a:=λd a b c e n r o f g=>n.elim (λi=>aZ (bd<|aw 0 F W (.f 1 W F .z) (aP ((d:N):H) ((a:N):H)) O (ax i.1))<|bd (aw 0 F W (.q 1 F W .z) (aP ((a:N):H) ((d:N):H)) O<|ax i.1)) λp=>p.elim (λh=>(cu o).elim (λj=>aZ (aD (.f 1 F W<|.f 1 aF F (.p 1 (aF+1) W .z)) (cg ((c:N):H) ((b:N):H) ((a:N):H)) O (ax f) (ax h.1)<|ak j)<|aD (.f 1 F W<|.f 1 aF F (.p 1 (aF+1) W .z)) (cg ((c:N):H) ((b:N):H) ((a:N):H)) O (ax f) (ax h.1) (ak j)) λk=>aZ (aD (.q 1 F W<|.q 1 aF F (.p 1 (W+1) aF .z)) (cg ((c:N):H) ((b:N):H) ((a:N):H)) O (ax f) (ax h.1)<|ak k)<|aD (.q 1 F W<|.q 1 aF F (.p 1 (W+1) aF .z)) (cg ((c:N):H) ((b:N):H) ((a:N):H)) O (ax f) (ax h.1) (ak k)) λq=>(cu q.2.2.2).elim (λl=>aZ (aD (.f 1 F W<|.p 1 (F+1) W .z) (aP ((a:N):H) ((e:N):H)) O (ax g)<|ak l)<|aD (.f 1 F W<|.p 1 (F+1) W .z) (aP ((a:N):H) ((e:N):H)) O (ax g) (ak l)) λm=>aZ (aD (.q 1 F W<|.p 1 (W+1) F .z) (aP ((a:N):H) ((e:N):H)) O (ax g)<|ak m)<|aD (.q 1 F W<|.p 1 (W+1) F .z) (aP ((a:N):H) ((e:N):H)) O (ax g) (ak m)
theorem ap5:∀(e a b g c:N),a=b/\g=b\/a=c/\e=c\/a≠b/\a≠c/\a≠g/\a≠e->¬a=b->a=c->e=a:=λe a b g c h i f=>h.elim (λd=>h.elim (λs=>(cu i).elim (λj=>aZ (aD (.f 1 F W<|.p 1 (F+1) W .z) (aP ((a:N):H) ((b:N):H)) O (ax d.1)<|ak j)<|aD (.f 1 F W<|.p 1 (F+1) W .z) (aP ((a:N):H) ((b:N):H)) O (ax d.1) (ak j)) λk=>aZ (aD (.q 1 F W<|.p 1 (W+1) F .z) (aP ((a:N):H) ((b:N):H)) O (ax d.1)<|ak k)<|aD (.q 1 F W<|.p 1 (W+1) F .z) (aP ((a:N):H) ((b:N):H)) O (ax d.1) (ak k)) λt=>(cu i).elim (λl=>aZ (aD (.f 1 F W<|.p 1 (F+1) W .z) (aP ((a:N):H) ((b:N):H)) O (ax d.1)<|ak l)<|aD (.f 1 F W<|.p 1 (F+1) W .z) (aP ((a:N):H) ((b:N):H)) O (ax d.1) (ak l)) λm=>aZ (aD (.q 1 F W<|.p 1 (W+1) F .z) (aP ((a:N):H) ((b:N):H)) O (ax d.1)<|ak m)<|aD (.q 1 F W<|.p 1 (W+1) F .z) (aP ((a:N):H) ((b:N):H)) O (ax d.1) (ak m)) λq=>q.elim (λn=>aZ (bd<|aw 0 F W (.f 1 W aF<|.q 1 F aF .z) (cg ((e:N):H) ((a:N):H) ((c:N):H)) O (ax f) (ax n.2))<|bd (aw 0 F W (.q 1 F aF<|.f 1 W aF .z) (cg ((a:N):H) ((e:N):H) ((c:N):H)) O (ax f)<|ax n.2)) λr=>(cu r.2.1).elim (λo=>aZ (aD (.f 1 F W<|.p 1 (F+1) W .z) (aP ((a:N):H) ((c:N):H)) O (ax f)<|ak o)<|aD (.f 1 F W<|.p 1 (F+1) W .z) (aP ((a:N):H) ((c:N):H)) O (ax f) (ak o)) λp=>aZ (aD (.q 1 F W<|.p 1 (W+1) F .z) (aP ((a:N):H) ((c:N):H)) O (ax f)<|ak p)<|aD (.q 1 F W<|.p 1 (W+1) F .z) (aP ((a:N):H) ((c:N):H)) O (ax f) (ak p)
theorem ap6:∀(c a b f d:N),a=b/\f=b\/a=c/\d=c\/a≠b/\a≠c/\a≠f/\a≠d->¬a=b->¬a=f->¬a=c->a=d->c=a:=λc a b f d h i s t g=>h.elim (λe=>h.elim (λu=>(cu i).elim (λj=>aZ (aD (.f 1 F W<|.p 1 (F+1) W .z) (aP ((a:N):H) ((b:N):H)) O (ax e.1)<|ak j)<|aD (.f 1 F W<|.p 1 (F+1) W .z) (aP ((a:N):H) ((b:N):H)) O (ax e.1) (ak j)) λk=>aZ (aD (.q 1 F W<|.p 1 (W+1) F .z) (aP ((a:N):H) ((b:N):H)) O (ax e.1)<|ak k)<|aD (.q 1 F W<|.p 1 (W+1) F .z) (aP ((a:N):H) ((b:N):H)) O (ax e.1) (ak k)) λv=>(cu i).elim (λl=>aZ (aD (.f 1 F W<|.p 1 (F+1) W .z) (aP ((a:N):H) ((b:N):H)) O (ax e.1)<|ak l)<|aD (.f 1 F W<|.p 1 (F+1) W .z) (aP ((a:N):H) ((b:N):H)) O (ax e.1) (ak l)) λm=>aZ (aD (.q 1 F W<|.p 1 (W+1) F .z) (aP ((a:N):H) ((b:N):H)) O (ax e.1)<|ak m)<|aD (.q 1 F W<|.p 1 (W+1) F .z) (aP ((a:N):H) ((b:N):H)) O (ax e.1) (ak m)) λq=>q.elim (λn=>aZ (bd<|aw 0 F W (.f 1 W F .z) (aP ((c:N):H) ((a:N):H)) O (ax n.1))<|bd (aw 0 F W (.q 1 F W .z) (aP ((a:N):H) ((c:N):H)) O<|ax n.1)) λr=>(cu r.2.2.2).elim (λo=>aZ (aD (.f 1 F W<|.p 1 (F+1) W .z) (aP ((a:N):H) ((d:N):H)) O (ax g)<|ak o)<|aD (.f 1 F W<|.p 1 (F+1) W .z) (aP ((a:N):H) ((d:N):H)) O (ax g) (ak o)) λp=>aZ (aD (.q 1 F W<|.p 1 (W+1) F .z) (aP ((a:N):H) ((d:N):H)) O (ax g)<|ak p)<|aD (.q 1 F W<|.p 1 (W+1) F .z) (aP ((a:N):H) ((d:N):H)) O (ax g) (ak p)
theorem vN:∀(a:N),a<3->a=0\/a=1\/a=2:=λa e=>(gi _).elim ef λf=>gP<|(gi _).elim ef (λg=>gP<|(cu f).elim (λb=>aZ (aD (.p 1 (F+1) 0<|.p 1 0 F .z) (aG ((a:N):H)) O (ak b)<|cj a)<|aD (.p 1 (F+1) 0<|.p 1 0 F .z) (aG ((a:N):H)) O (ak b) (cj a)) (λc=>(cu g).elim (λd=>aZ (aD (.p 1 1 F<|.p 1 (F+1) 1 .z) (aG ((a:N):H)) O (ak c)<|ak d)<|aD (.p 1 1 F<|.p 1 (F+1) 1 .z) (aG ((a:N):H)) O (ak c) (ak d)) λh=>aZ (bd<|aw 0 F 2 (.p 1 (F+1) 3 .z) (aG ((a:N):H)) O (ak e))<|bd (aw 0 2 F (.p 1 2 F .z) (aG ((a:N):H)) O<|ak h)))
theorem ap7:∀(a:N),1<=a->a<=5->a=1\/a=2\/a=3\/a=4\/a=5:=λa b j=>(gi _).elim ef λk=>gP<|(gi _).elim ef (λl=>gP<|(gi _).elim ef (λm=>gP<|(gi _).elim ef (λn=>gP<|(cu k).elim (λc=>aZ (aD (.p 1 1 F<|.p 1 (F+1) 1 .z) (aG ((a:N):H)) O (ak b)<|ak c)<|aD (.p 1 1 F<|.p 1 (F+1) 1 .z) (aG ((a:N):H)) O (ak b) (ak c)) (λd=>(cu m).elim (λe=>(cu l).elim (λf=>aZ (aD (.p 1 2 F<|.p 1 (F+1) 2 .z) (aG ((a:N):H)) O (ak d)<|ak f)<|aD (.p 1 2 F<|.p 1 (F+1) 2 .z) (aG ((a:N):H)) O (ak d) (ak f)) λg=>aZ (aD (.p 1 (F+1) 3<|.p 1 3 F .z) (aG ((a:N):H)) O (ak e)<|ak g)<|aD (.p 1 (F+1) 3<|.p 1 3 F .z) (aG ((a:N):H)) O (ak e) (ak g)) λh=>(cu n).elim (λi=>aZ (aD (.p 1 4 F<|.p 1 (F+1) 4 .z) (aG ((a:N):H)) O (ak h)<|ak i)<|aD (.p 1 4 F<|.p 1 (F+1) 4 .z) (aG ((a:N):H)) O (ak h) (ak i)) λo=>aZ (bd<|aw 0 F 5 (.p 1 F 5 .z) (aG ((a:N):H)) O (ak j))<|bd (aw 0 5 F (.p 1 5 F .z) (aG ((a:N):H)) O<|ak o)))))
theorem Me:∀(a:N),¬(2*a+0)%2=1:=λa=>λb=>aD (.f 1 F 1<|.q 1 F 0 .z) (aG (((((2*a)+0)%2):N):H)) O (ax b)<|ax (EI 2 a 0)
theorem Mf:∀(a:N),(2*a+1)%2=1:=λa=>aZ (bd<|aw 0 F 1 (.q 1 F 1 .z) (aG (((((2*a)+1)%2):N):H)) O (ax<|EI 2 a 1))<|bd (aw 0 1 F (.f 1 F 1 .z) (aG (((((2*a)+1)%2):N):H)) O<|ax (EI 2 a 1))
theorem ap8:∀(a:N),¬2*a%2=1:=λa=>λb=>aD (.f 1 F 1<|.q 1 F 0 .z) (aG ((((2*a)%2):N):H)) O (ax b)<|ax (Nat.mul_mod_right 2 a)
theorem ap9:∀(a:N),1<=a->1<=a - 1->a=a - 2+1+1:=λa b c=>aZ (bd<|aw 0 F (W+1+1) (.p 1 F (W+2) .z) (aP ((a:N):H) (((a - 2):N):H)) O (ak<|dz a 2))<|bd (aw 0 (F+1+1) W (.q 1 (F+2) W .z) (aP (((a - 2):N):H) ((a:N):H)) O<|ax (dD<|bd (aw 0 2 F (.p 1 1 W<|.q 1 (W+1) F .z) (aP ((a:N):H) (((a - 1):N):H)) O (ak c)<|ax (dD<|bd (aw 0 1 F (.p 1 1 F .z) (aG ((a:N):H)) O<|ak b)))))
theorem aq0:∀(a b c:N),b<c->a<3->a=2\/a=0\/a=1:=λa b c k d=>(gi _).elim ef λg=>gP<|(gi _).elim ef (λh=>gP<|(cu g).elim (λi=>(cu h).elim (λe=>aZ (aD (.p 1 (F+1) 0<|.p 1 0 F .z) (aG ((a:N):H)) O (ak e)<|cj a)<|aD (.p 1 (F+1) 0<|.p 1 0 F .z) (aG ((a:N):H)) O (ak e) (cj a)) λj=>aZ (bd<|aw 0 F 1 (.p 1 (F+1) 2 .z) (aG ((a:N):H)) O (ak i))<|bd (aw 0 1 F (.p 1 1 F .z) (aG ((a:N):H)) O<|ak j)) (λf=>aZ (aD (.p 1 (F+1) 3<|.p 1 3 F .z) (aG ((a:N):H)) O (ak d)<|ak f)<|aD (.p 1 (F+1) 3<|.p 1 3 F .z) (aG ((a:N):H)) O (ak d) (ak f)))
theorem aq1:∀(a b c:N),a<=b->¬a<c->¬a=c->a - 1<=b - 1:=λa b c d e f=>(cu f).elim (λg=>aD (.p 1 F W<|.p 1 (W+1) F .z) (aP ((c:N):H) ((a:N):H)) O (ak<|cq.mp e)<|ak g) λh=>bd<|aw 0 F W (.p 1 aF cx<|.q 1 (F+1) aF (.p 1 cx (W+1) .z)) (gM (((a - 1):N):H) (((b - 1):N):H) ((a:N):H) ((b:N):H)) O (ak d) (ax<|dD (bd<|aw 0 1 F (.p 1 (W+1) F<|.p 1 0 W .z) (aP ((a:N):H) ((c:N):H)) O (ak h) (cj c))) (ak<|dz b 1)
theorem aq2:∀(a b:N),b<=a->(↑b:H)<(↑a:H)->cw ((↑a:H) - (↑b:H)+(1:H) - (1:H))=a - b:=λa b c d=>aZ (bd<|aw 0 F W (.q 1 F (aF-cx+1-1)<|.p 1 aF (W+cx) .z) (gM (((cw<|((((a:N):H) - ((b:N):H))+(1:H)) - (1:H)):N):H) (((a - b):N):H) ((a:N):H) ((b:N):H)) O (hw<|aw 0 0 (F-W+1-1) (.p 1 W F .z) (aP ((a:N):H) ((b:N):H)) O (ak c)) (ak<|dz a b))<|bd (aw 0 F W (.q 1 (F+aF) cx<|.p 1 (cx-aF+1-1) W .z) (gM (((a - b):N):H) (((cw<|((((a:N):H) - ((b:N):H))+(1:H)) - (1:H)):N):H) ((b:N):H) ((a:N):H)) O (ax<|dD (bd<|aw 0 F W (.p 1 F W .z) (aP ((b:N):H) ((a:N):H)) O (ak c)))<|oz (((((a:N):H) - ((b:N):H))+(1:H)) - (1:H)))
theorem aq3:∀(a b:N),b<=a->¬(↑b:H)<(↑a:H)->cw (0:H)=a - b:=λa b c d=>aZ (bd<|aw 0 F W (.q 1 F 0<|.p 1 0 W .z) (aP (((cw (0:H)):N):H) (((a - b):N):H)) O (hw<|aw 0 0 0 .z (aG 0) O) (cj<|a - b))<|bd (aw 0 F W (.p 1 aF cx<|.q 1 (F+cx) aF (.p 1 0 W .z)) (gM (((a - b):N):H) (((cw (0:H)):N):H) ((a:N):H) ((b:N):H)) O (mq.mp d) (ax<|dD (bd<|aw 0 F W (.p 1 F W .z) (aP ((b:N):H) ((a:N):H)) O (ak c)))<|oz (0:H))
theorem aq4:∀(a b:N),cw ((↑a:H)+(1:H)*(↑b:H))=a+b:=λa b=>aZ (bd<|aw 0 F (W+aF) (.q 1 F (W+(fe 1 aF)) .z) (cg (((cw<|((a:N):H)+((1:H)*((b:N):H))):N):H) ((a:N):H) ((b:N):H)) O (hw<|aw 0 0 (F+(fe 1 W)) (.p 1 0 F<|.p 1 0 W .z) (aP ((a:N):H) ((b:N):H)) O (cj a) (cj b)))<|bd (aw 0 (F+W) aF (.p 1 (F+(fe 1 W)) aF .z) (cg ((a:N):H) ((b:N):H) (((cw<|((a:N):H)+((1:H)*((b:N):H))):N):H)) O<|oz (((a:N):H)+((1:H)*((b:N):H))))
theorem aq5:∀(a b c:N),a<=b->b<=c->(1:H)=(1:H)/\b - a=c->a=(0:N):=λa b c d e f=>aZ (bd<|aw 0 F 0 (.p 1 W aF<|.f 1 cx aF (.q 1 (cx+F) W .z)) (gM ((a:N):H) ((b:N):H) ((c:N):H) (((b - a):N):H)) O (ak e) (ax f.2) (ax<|dD (bd<|aw 0 F W (.p 1 F W .z) (aP ((a:N):H) ((b:N):H)) O (ak d))))<|bd (aw 0 0 F (.p 1 0 F .z) (aG ((a:N):H)) O<|cj a)
theorem aq6:∀(d a b c:N),b<=a->a<=c->d=c->(1:H)=(1:H)/\a - b=c->d<=a - (0:N):=λd a b c g h e f=>bd<|aw 0 F W (.q 1 F aF<|.f 1 cx aF (.p 1 cx ig<|.p 1 ig (W+0) .z)) (rQ ((d:N):H) (((a - (0:N)):N):H) ((c:N):H) (((a - b):N):H) ((a:N):H)) O (ax e) (ax f.2) (ak<|lC a b) (ak<|dz a (0:N))
theorem aq7:∀(a:N),a%2=1↔a%2≠0:=λa=>⟨λc=>λd=>aD (.f 1 F 1<|.q 1 F 0 .z) (aG (((a%2):N):H)) O (ax c)<|ax d,λe=>(cu e).elim (λb=>aZ (aD (.p 1 (F+1) 0<|.p 1 0 F .z) (aG (((a%2):N):H)) O (ak b)<|cj (a%2))<|aD (.p 1 (F+1) 0<|.p 1 0 F .z) (aG (((a%2):N):H)) O (ak b) (cj<|a%2)) λf=>aZ (bd<|aw 0 F 1 (.p 1 (F+1) 2 .z) (aG (((a%2):N):H)) O (ak<|fI a (bA O)))<|bd (aw 0 1 F (.p 1 1 F .z) (aG (((a%2):N):H)) O<|ak f)⟩
theorem aq9:∀(a:N),1<=a->a<=6->a=1\/a=2\/a=3\/a=4\/a=5\/a=6:=λa b l=>(gi _).elim ef λm=>gP<|(gi _).elim ef (λn=>gP<|(gi _).elim ef (λo=>gP<|(gi _).elim ef (λp=>gP<|(gi _).elim ef (λq=>gP<|(cu n).elim (λc=>(cu m).elim (λd=>aZ (aD (.p 1 1 F<|.p 1 (F+1) 1 .z) (aG ((a:N):H)) O (ak b)<|ak d)<|aD (.p 1 1 F<|.p 1 (F+1) 1 .z) (aG ((a:N):H)) O (ak b) (ak d)) λe=>aZ (aD (.p 1 (F+1) 2<|.p 1 2 F .z) (aG ((a:N):H)) O (ak c)<|ak e)<|aD (.p 1 (F+1) 2<|.p 1 2 F .z) (aG ((a:N):H)) O (ak c) (ak e)) (λf=>(cu p).elim (λg=>(cu o).elim (λh=>aZ (aD (.p 1 3 F<|.p 1 (F+1) 3 .z) (aG ((a:N):H)) O (ak f)<|ak h)<|aD (.p 1 3 F<|.p 1 (F+1) 3 .z) (aG ((a:N):H)) O (ak f) (ak h)) λi=>aZ (aD (.p 1 (F+1) 4<|.p 1 4 F .z) (aG ((a:N):H)) O (ak g)<|ak i)<|aD (.p 1 (F+1) 4<|.p 1 4 F .z) (aG ((a:N):H)) O (ak g) (ak i)) λj=>(cu q).elim (λk=>aZ (aD (.p 1 5 F<|.p 1 (F+1) 5 .z) (aG ((a:N):H)) O (ak j)<|ak k)<|aD (.p 1 5 F<|.p 1 (F+1) 5 .z) (aG ((a:N):H)) O (ak j) (ak k)) λr=>aZ (bd<|aw 0 F 6 (.p 1 F 6 .z) (aG ((a:N):H)) O (ak l))<|bd (aw 0 6 F (.p 1 6 F .z) (aG ((a:N):H)) O<|ak r))))))
theorem ar0:∀(b a:N),b<a->¬b=a - 1->b<a - 1:=λb a c d=>(cu d).elim (λe=>bd<|aw 0 (F+1) W (.p 1 (F+1) W .z) (aP ((b:N):H) (((a - 1):N):H)) O (ak e)) λf=>aD (.p 1 (F+1) W<|.p 1 (aF+1) F (.p 1 W (aF+1) .z)) (cg ((b:N):H) ((a:N):H) (((a - 1):N):H)) O (ak c) (ak f)<|ak (dz a 1)
theorem ar1:∀(b a:N),b<a->1<=a->¬b=a - 1->b<a - 1:=λb a c g d=>(cu d).elim (λe=>bd<|aw 0 (F+1) W (.p 1 (F+1) W .z) (aP ((b:N):H) (((a - 1):N):H)) O (ak e)) λf=>aD (.p 1 (F+1) W<|.p 1 (aF+1) F (.p 1 W (aF+1) .z)) (cg ((b:N):H) ((a:N):H) (((a - 1):N):H)) O (ak c) (ak f)<|ak (dz a 1)
theorem ar2:∀(a b c:N),c<b->b<a->a - 1 - b<a - 1 - c:=λa b c d e=>bd<|aw 0 (F+1) W (.p 1 (aF+1) cx<|.q 1 (F+cx) ig (.p 1 ig (W+aF) .z)) (rQ ((((a - 1) - b):N):H) ((((a - 1) - c):N):H) ((c:N):H) ((b:N):H) (((a - 1):N):H)) O (ak d) (ax<|dD (bd<|aw 0 F W (.p 1 (F+1) aF<|.p 1 aF (W+1) .z) (cg ((b:N):H) (((a - 1):N):H) ((a:N):H)) O (ak e) (ak<|dz a 1))) (ak<|dz (a - 1) c)
theorem DP:∀(a b:N),1<=b->a<b+1->a - 1<b:=λa b c d=>(NE 1 a).elim (λe=>bd<|aw 0 (F+1) W (.p 1 (aF+1) (W+1)<|.q 1 (F+1) aF .z) (cg (((a - 1):N):H) ((b:N):H) ((a:N):H)) O (ak d) (ax<|dD (bd<|aw 0 1 F (.p 1 1 F .z) (aG ((a:N):H)) O (ak e)))) λf=>bd<|aw 0 (F+1) W (.p 1 1 W<|.q 1 F 0 .z) (aP (((a - 1):N):H) ((b:N):H)) O (ak c) (ax<|NO (bd<|aw 0 F 1 (.p 1 F 1 .z) (aG ((a:N):H)) O (ak f)))
theorem ar3:∀(a b d c:N),a<b->b<d+1->¬a=c->¬(c<a/\a<=d)->c<b/\b<=d->a=b - 1->cn:=λa b d c e f g h i j=>(cu g).elim (λk=>aD (.p 1 (F+1) W<|.f 1 aF cx (.p 1 (aF+1) F<|.p 1 W (cx+1) .z)) (gM ((c:N):H) ((b:N):H) ((a:N):H) (((b - 1):N):H)) O (ak i.1) (ax j) (ak k)<|ak (dz b 1)) λl=>(gi<|c<a).elim (λm=>aD (.p 1 (F+1) W<|.p 1 (W+1) (aF+1) (.p 1 (aF+1) F .z)) (cg ((a:N):H) ((b:N):H) ((d:N):H)) O (ak e) (ak f)<|ak (zP.mp λn=>h ⟨m,n⟩)) λo=>aD (.p 1 (F+1) W<|.p 1 W F .z) (aP ((c:N):H) ((a:N):H)) O (ak l)<|ak (cq.mp o)
theorem ar4:∀(b a c d:N),b<a->¬a=c->c<a/\a<=d->¬b=a - 1->b<a - 1:=λb a c d e i j f=>(cu f).elim (λg=>bd<|aw 0 (F+1) W (.p 1 (F+1) W .z) (aP ((b:N):H) (((a - 1):N):H)) O (ak g)) λh=>aD (.p 1 (F+1) W<|.p 1 (aF+1) F (.p 1 W (aF+1) .z)) (cg ((b:N):H) ((a:N):H) (((a - 1):N):H)) O (ak e) (ak h)<|ak (dz a 1)
theorem ar5:∀(a b c:N),c<=b->a<b+1->¬a=c->¬(c<a/\a<=b)->a<b:=λa b c d e f g=>(cu f).elim (λh=>bd<|aw 0 (F+1) W (.p 1 aF W<|.p 1 (F+1) aF .z) (cg ((a:N):H) ((b:N):H) ((c:N):H)) O (ak d) (ak h)) λi=>(gi<|c<a).elim (λj=>aD (.p 1 (F+1) (W+1)<|.p 1 (W+1) F .z) (aP ((a:N):H) ((b:N):H)) O (ak e)<|ak (zP.mp λk=>g ⟨j,k⟩)) λl=>aD (.p 1 (F+1) W<|.p 1 W F .z) (aP ((c:N):H) ((a:N):H)) O (ak i)<|ak (cq.mp l)
theorem ar6:∀(a b:N),a≠b->a%(2:N)≠(0:N)->b%(2:N)≠(0:N)-> -(↑a:H)≠ -(↑b:H):=λa b d g h=>λc=>(cu d).elim (λe=>aD (.q 1 (iL F) (iL W)<|.p 1 (F+1) W .z) (aP ((a:N):H) ((b:N):H)) O c<|ak e) λf=>aD (.f 1 (iL F) (iL W)<|.p 1 (W+1) F .z) (aP ((a:N):H) ((b:N):H)) O c<|ak f
theorem ar7:∀(a b:N),a%(2:N)≠(0:N)->¬b%(2:N)≠(0:N)-> -(↑a:H)≠(↑b:H):=λa b c g=>λd=>(cu c).elim (λe=>aD (.p 1 (F+1) 0<|.p 1 0 F .z) (aG (((a%(2:N)):N):H)) O (ak e)<|cj (a%(2:N))) λf=>aD (.f 1 (iL F) W<|.p 1 1 aF (.q 1 ((fe 2 cx)+aF) F<|.p 1 0 W (.p 2 0 cx .z))) (gM ((a:N):H) ((b:N):H) (((a%(2:N)):N):H) (((a/(2:N)):N):H)) O d (ak f) (ax<|EB a (2:N)) (cj b)<|cj (a/(2:N))
theorem ar9:∀(b a:N),¬b%(2:N)≠(0:N)->a%(2:N)≠(0:N)->(↑b:H)≠ -(↑a:H):=λb a g c=>λd=>(cu c).elim (λe=>aD (.p 1 (F+1) 0<|.p 1 0 F .z) (aG (((a%(2:N)):N):H)) O (ak e)<|cj (a%(2:N))) λf=>aD (.q 1 F (iL W)<|.p 1 1 aF (.q 1 ((fe 2 cx)+aF) W<|.p 1 0 F (.p 2 0 cx .z))) (gM ((b:N):H) ((a:N):H) (((a%(2:N)):N):H) (((a/(2:N)):N):H)) O d (ak f) (ax<|EB a (2:N)) (cj b)<|cj (a/(2:N))
theorem as0:∀(a b:N),a≠b->¬a%(2:N)≠(0:N)->¬b%(2:N)≠(0:N)->(↑a:H)≠(↑b:H):=λa b d g h=>λc=>(cu d).elim (λe=>aD (.f 1 F W<|.p 1 (F+1) W .z) (aP ((a:N):H) ((b:N):H)) O c<|ak e) λf=>aD (.q 1 F W<|.p 1 (W+1) F .z) (aP ((a:N):H) ((b:N):H)) O c<|ak f
theorem as1:∀(a b:N) (c d:H),c≠d->(a<b\/a=b/\c<d)\/b<a\/b=a/\d<c:=λa b c d h=>(gi _).elim ef λf=>gP<|(gi _).elim ef (λg=>gP<|⟨aZ (bd<|aw 0 F W (.p 1 F W .z) (aP ((b:N):H) ((a:N):H)) O (ak<|cq.mp (λe=>f<|ef e)))<|bd (aw 0 F W (.p 1 F W .z) (aP ((a:N):H) ((b:N):H)) O<|ak (cq.mp g)),(gi<|a=b).elim (λi=>(Int.lt_or_gt_of_ne h).elim (λj=>aD (.p 1 F W<|.p 1 (W+1) F .z) (aP d c) O (mq.mp λk=>(λe=>f<|gP e) ⟨i,k⟩) j) λl=>aw 0 (F+1) W (.p 1 (F+1) W .z) (aP d c) O l) λm=>(cu m).elim (λn=>aD (.p 1 F W<|.p 1 (W+1) F .z) (aP ((b:N):H) ((a:N):H)) O (ak<|cq.mp (λe=>f<|ef e))<|ak n) λo=>aD (.p 1 F W<|.p 1 (W+1) F .z) (aP ((a:N):H) ((b:N):H)) O (ak<|cq.mp g)<|ak o⟩)
theorem as2:∀(a b:N),a/6/b%2=0\/a/6/b%2=1:=λa b=>(gi _).elim ef λd=>gP<|(cu d).elim (λc=>aZ (aD (.p 1 (F+1) 0<|.p 1 0 F .z) (aG (((((a/6)/b)%2):N):H)) O (ak c)<|cj (((a/6)/b)%2))<|aD (.p 1 (F+1) 0<|.p 1 0 F .z) (aG (((((a/6)/b)%2):N):H)) O (ak c) (cj<|((a/6)/b)%2)) (λe=>aZ (bd<|aw 0 F 1 (.p 1 (F+1) 2 .z) (aG (((((a/6)/b)%2):N):H)) O (ak<|fI ((a/6)/b) (bA O)))<|bd (aw 0 1 F (.p 1 1 F .z) (aG (((((a/6)/b)%2):N):H)) O<|ak e))
theorem as3:∀(a:N),a<=4->a=0\/a=1\/a=2\/a=3\/a=4:=λa i=>(gi _).elim ef λj=>gP<|(gi _).elim ef (λk=>gP<|(gi _).elim ef (λl=>gP<|(gi _).elim ef (λm=>gP<|(cu j).elim (λb=>aZ (aD (.p 1 (F+1) 0<|.p 1 0 F .z) (aG ((a:N):H)) O (ak b)<|cj a)<|aD (.p 1 (F+1) 0<|.p 1 0 F .z) (aG ((a:N):H)) O (ak b) (cj a)) (λc=>(cu l).elim (λd=>(cu k).elim (λe=>aZ (aD (.p 1 1 F<|.p 1 (F+1) 1 .z) (aG ((a:N):H)) O (ak c)<|ak e)<|aD (.p 1 1 F<|.p 1 (F+1) 1 .z) (aG ((a:N):H)) O (ak c) (ak e)) λf=>aZ (aD (.p 1 (F+1) 2<|.p 1 2 F .z) (aG ((a:N):H)) O (ak d)<|ak f)<|aD (.p 1 (F+1) 2<|.p 1 2 F .z) (aG ((a:N):H)) O (ak d) (ak f)) λg=>(cu m).elim (λh=>aZ (aD (.p 1 3 F<|.p 1 (F+1) 3 .z) (aG ((a:N):H)) O (ak g)<|ak h)<|aD (.p 1 3 F<|.p 1 (F+1) 3 .z) (aG ((a:N):H)) O (ak g) (ak h)) λn=>aZ (bd<|aw 0 F 4 (.p 1 F 4 .z) (aG ((a:N):H)) O (ak i))<|bd (aw 0 4 F (.p 1 4 F .z) (aG ((a:N):H)) O<|ak n)))))
theorem aU{a:Type _}{b:a}{c:Prop}(d:U=Q b):c:=nomatch d
theorem rr{a:Type _}{b:a}{c:Prop}(d:Q b=U):c:=nomatch d
theorem cY{a:Prop}(b:ai=X):a:=nomatch b
theorem gX{a:Prop}(b:X=ai):a:=nomatch b
theorem jc{a:Type _}{b:a}{c:M a}{d:Prop}(e:[]=b::c):d:=nomatch e
theorem hq{a:Type _}{b:a}{c:M a}{d:Prop}(e:b::c=[]):d:=nomatch e
theorem aD4{c:Type _}{a b:c}(d:Q a=Q b):a=b:=wA d
theorem aL{d:Type _}{a b:d}{c:Prop}(e:a=b->c)(f:Q a=Q b):c:=e<|wA f
theorem Yy{g h:Type _}{a b:g}{c d:h}{e:Prop}(i:a=b->c=d->e)(f:(a,c)=(b,d)):e:=i (bq (·.1) f) (bq (·.2) f)
theorem rq{f g:Type _}{a b:f}{c d:g}{e:Prop}(h:a=b->c=d->e)(i:Q (a,c)=Q (b,d)):e:=Yy h<|wA i
theorem gW{a:Type _}{b c:a}{d e:M a}{f:Prop}(h:b=c->d=e->f)(g:b::d=c::e):f:=h (ms g).1 (ms g).2
open PySem
noncomputable section
noncomputable def kq:N->M (M N)
 |0=> [[]]
 |b+1=>(kq b).flatMap λa=> [0::a,1::a,2::a]
noncomputable def pE:M N->ah
 |[]=>X
 |b::a=> !(b==2&&a.head? ==Q 2)&&pE a
noncomputable def oV:M (M N):=(kq 1++kq 2++kq 3++kq 4++kq 5).filter pE
noncomputable def ch{a:Type}(c:N)(b:N->a):a:=il (b 0) (λd _=>b<|im d) c
abbrev aM:=M ah
structure eM where
 g:N
 m0:N
 m1:N
 fin:N
instance:fx eM:=⟨⟨0,0,0,0⟩⟩
def nR(a:eM)(b:ah):N:=ci a.m0 a.m1 b
def en(a:eM)(b:N)(d:ah):N:=ch (ue (jT b a.g)<|zT (jT b<|nR a d) 1) λc=>ue c<|jT (zT c 1) a.g
def sO(a:eM)(b:N)(d:ah):N:=ch (ue b<|EL (jT b a.g) 1) λc=>ue (jT c a.g)<|jT (EL c 1) (nR a d)
def dK(a:eM)(b:aM):N:=fu a.fin (λc _ d=>ch d λe=>sO a e c) b
def gF(b:eM)(c:aM):N->N:=fu (λa=>a) (λd _ e a=>ch (en b a d) e) c
def cr(a b:N):ah:=ci X ai<|cU (jT a b) 0
def eW(b:N)(c:M N):N:=fu 0 (λd _ a=>ci (oE 2 a) (im<|oE 2 a)<|cU d b) c
def nQ{a:Type}(b:M a):N:=fu 0 (λ_ _ c=>im c) b
def aE(a:M N):eM:=⟨oE 2<|eW 2 a,eW 0 a,eW 1 a,zT 1<|nQ a⟩
noncomputable def eC(a:eM):N:=ue 1<|jT 2 a.g
def dm(b:N)(c:M N):N:=fu 0 (λd _ a=>ci (oE 2 a) (im<|oE 2 a)<|cr b d) c
def jA(b:N)(c:M N):N->N:=fu (λa=>a) (λd _ e a=>ci (e<|im a) a<|cU d b) c
def hP{a:Type}(b c:M a):M a:=fu c (λd _ e=>d::e) b
abbrev dh:=aM×N
structure hG where
 todo:M dh
 hs:M dh
 rows:M N
 n:N
instance:fx hG:=⟨⟨[],[],[],0⟩⟩
def sQ{e:Type}(i:eM)(j:M N)(f:aM)(k:N)(b:ah)(a:hG)(g:hG->N->e):e:=
 ch (en i k b) λc=>ch (dm c j) λh=>ch (jA h a.rows 0) λd=>
 ci (g a d) (ch (im a.n) λl=>g ⟨hP a.todo [(b::f,c)],hP a.hs [(b::f,c)],hP a.rows [h],l⟩ d) (cU d a.n)
def sS(c:eM)(d:M N)(g:N):hG->M (N×N)->hG×M (N×N):= il (λa b=>(a,b)) (λ_ h a b=>fu (a,b) (λi j _=>hg (λe f=>sQ c d e f ai ⟨j,a.hs,a.rows,a.n⟩ λa k=>sQ c d e f X a λa l=>h a<|hP b [(k,l)]) i) a.todo) g
def ea{a:Type}(b:a)(c:M a):N->a:=fu (λ_=>b) (λd _ e f=>il d (λg _=>e g) f) c
def IP(a:ah)(b:N×N):N:=hg (λc d=>ci c d a) b
def gq(a:M (N×N))(b:N)(c:ah):N:=IP c<|ea (0,0) a b
def hR(a:dh):N:=hg (λ_ b=>b) a
def qU(a:dh):aM:=hg (λb _=>b) a
def qR(b c:N)(d:M (N×N)):ah:=fu ai (λe _ a=>hg (λf g=>ci a (ci a X<|cU g c)<|cU f b) e) d
abbrev js:=N×N×aM
def hS{e:Type}(h:eM)(i:M (N×N))(j k:N)(l:aM)(a:ah)(b:M (N×N))(f:M js)(g:M (N×N)->M js->e):e:= ch (gq i j a) λc=>ch (en h k a) λd=>ci (g ((c,d)::b)<|hP f [(c,d,a::l)]) (g b f)<|qR c d b
def kl(b a:ah):ah:=ci (ci X ai a) a b
def hQ(b:eM)(i:M dh)(h:M (N×N))(j:N):M (N×N)->M js->ag (ag aM):= il (λ_ _=>U) (λ_ k c a=>fu (Q U) (λd a _=>hg (λe d=>hg (λf g=>ci (Q<|Q g) (hS b h e f g ai c a λc a=>hS b h e f g X c a k)<|kl (cr (hR<|ea ([],0) i e) b.fin) (cr f b.fin)) d) d) a) j
def iz(b:M (N×N))(c:aM):N->N:=fu (λa=>a) (λd _ e a=>ch (gq b a d) e) c
def kV(b:aM):aM->aM:=fu (λa=>a) (λc _ d a=>d (c::a)) b
def lU(e:eM)(b:M dh)(g:M (N×N))(f:ah)(c:aM):N->M (aM×ah):= fu (λa=> [(kV (qU<|ea ([],0) b a) [],kl (cr (hR<|ea ([],0) b a) e.fin) f)]) (λd c h a=>(kV (qU<|ea ([],0) b a) (d::c),kl (cr (hR<|ea ([],0) b a)<|dK e (d::c)) f)::ch (gq g a d) h) c
def sP(h:M (aM×ah))(i:N):N->N->M aM->N->N×M aM×N:= il (λa _ b c=>(a,b,c)) (λ_ f a d b c=>ci (ch (Nat.div (Nat.add a d) 2) λe=>hg (λg j=>ci (f a e (g::b)<|im c) (f (im e) d (g::b)<|im c) j)<|ea ([],ai) h e) (a,b,c)<|ei d a) i
def qQ(a:aM):N->aM:=fu (λ_=> []) (λc a d b=>il (c::a) (λb _=>d b) b) a
def gp(b:aM):N->N:=fu (λa=>a) (λc _ d a=>ch (ci (oE 2 a) (im<|oE 2 a) c) d) b
noncomputable def pw(a b:N):ah:=cU (jT (EL a b) 1) 1
def gT(e:M aM):N->N->N×N:=fu (λa b=>(a,b)) (λf _ c a b=>ch (gp f 1) λd=>ci (ch (ue a<|zT 1 d) λa=>ch (im b) λb=>c a b) (c a b)<|pw a d) e
def pq(a:aM)(b:M aM)(c:M aM):M aM:=fu c (λd _ e=>kV a d::e) b
def mK(b:M aM)(c:M dh):M aM:=fu [] (λa _ d=>hg (λa _=>pq a b<|pq (ai::a) b (pq (X::a) b d)) a) c
def sR(a:M N)(b:M dh):M N:=fu [] (λc _ d=>ch (dm (hR c) a) λe=>e::d) b
def vl{b a:Type}(c:ag b)(d:a)(e:b->a):a:=Option.rec d e c
abbrev rP:=M dh->M N->M aM->N->M aM->ah
def vk(b:eM)(f:N)(h:rP)(e:M dh)(g:M (N×N))(i:M N)(j:M aM)(k:N)(l:M aM)(a:aM):ah:=
 ch (nQ a) λd=>ci ai
  (hg (λc m=>hg (λn o=>ch c λc=>ci ai
   (hg (λp q=>hg (λr s=>ci (ci ai ( ch (dK b<|qQ a c) λt=>h e (hP i [t]) (hP j [qQ a c]) k (a::p::r::hP n l)) s) ai q)<|ea ([],ai) (lU b e g (cr f<|dK b a) a 0) (nk c))<|ea ([],ai) (lU b e g (cr f<|dK b a) a 0) c)
   (ei (Nat.pow 2 o)<|ci 1 (NN (oE 2 d) 2) (ei 1<|NN (oE 2 d) 2))) m)
   (sP (lU b e g (cr f<|dK b a) a 0) (nk d) 1 d [] 0)) (ei 1 d)
def Cd(b:M dh)(c d:M aM):ah:=hg (λe a=>hg (λ_ a=>ei a 63)<|gT d e a)<|gT (mK c b) 0 0
def vj(a:eM)(b:N)(e:aM)(i:rP)(c:M dh)(d:M (N×N))(j:M N)(f:M aM)(k:N)(g:M aM):ah:=
 ch (iz d e 0) λl=>ch (gF a e b) λm=>vl (hQ a c d 60 [(l,m)] [(l,m,[])]) ai λn=>
 vl n (vl (hQ a c d 60 [(0,b)] [(0,b,[])]) ai λo=>vl o (Cd c f g) λh=>vk a b i c d j f k g<|kV h []) λh=>vk a b i c d j f k g<|kV (kV e []) (kV h [])
def xX(d:eM)(e:N)(f:aM)(g:N):rP:= il (λ_ _ _ _ _=>ai) (λ_ h a c i j k=>hg (λl m=>hG.rec (λ_ a _ b=>ch b λb=>ci (ci ai (vj d e f h a m c i b k)<|ei b 8) ai<|ei b j) l)<|sS d c 8 ⟨a,a,sR c a,nQ a⟩ []) g
def xW(a:M N)(g:aM):ah:=
 ch (aE a).g λc=>ch (aE a).m0 λd=>ch (aE a).m1 λe=>ch (aE a).fin λb=>ch (eC ⟨c,d,e,b⟩) λf=>
 xX ⟨c,d,e,b⟩ f g 8 [([],f)] [b] [[]] 0 []
noncomputable def pb:N->M aM
 |0=> [[]]
 |b+1=>(pb b).flatMap λa=> [ai::a,X::a]
noncomputable def xD:M aM:=pb 1++pb 2++pb 3++pb 4++pb 5++pb 6
end
def FL(a:M (M N)):ah:=a.all λb=>xD.all<|xW b
def bX(b:N):Prop:=∀a,a<b->FL ((oV.drop<|4*a).take 4)=X
theorem ce{a:N}(c:bX a)(d:FL ((oV.drop<|4*a).take 4)=X):bX (a+1):=λf e=>by
 obtain b|b:=Nat.lt_succ_iff_lt_or_eq.mp e
 .exact c _ b
 .subst b;exact d
theorem Ud:bX 1:=ce (λ_ a=>bD a<|zQ _)<|by decide+kernel
theorem Ue:bX 2:=ce Ud<|by decide+kernel
theorem Up:bX 3:=ce Ue<|by decide+kernel
theorem UA:bX 4:=ce Up<|by decide+kernel
theorem UL:bX 5:=ce UA<|by decide+kernel
theorem UW:bX 6:=ce UL<|by decide+kernel
theorem Vh:bX 7:=ce UW<|by decide+kernel
theorem Vn:bX 8:=ce Vh<|by decide+kernel
theorem Vo:bX 9:=ce Vn<|by decide+kernel
theorem Vp:bX 10:=ce Vo<|by decide+kernel
theorem Uf:bX 11:=ce Vp<|by decide+kernel
theorem Ug:bX 12:=ce Uf<|by decide+kernel
theorem Uh:bX 13:=ce Ug<|by decide+kernel
theorem Ui:bX 14:=ce Uh<|by decide+kernel
theorem Uj:bX 15:=ce Ui<|by decide+kernel
theorem Uk:bX 16:=ce Uj<|by decide+kernel
theorem Ul:bX 17:=ce Uk<|by decide+kernel
theorem Um:bX 18:=ce Ul<|by decide+kernel
theorem Un:bX 19:=ce Um<|by decide+kernel
theorem Uo:bX 20:=ce Un<|by decide+kernel
theorem Uq:bX 21:=ce Uo<|by decide+kernel
theorem Ur:bX 22:=ce Uq<|by decide+kernel
theorem Us:bX 23:=ce Ur<|by decide+kernel
theorem Ut:bX 24:=ce Us<|by decide+kernel
theorem Uu:bX 25:=ce Ut<|by decide+kernel
theorem Uv:bX 26:=ce Uu<|by decide+kernel
theorem Uw:bX 27:=ce Uv<|by decide+kernel
theorem Ux:bX 28:=ce Uw<|by decide+kernel
theorem Uy:bX 29:=ce Ux<|by decide+kernel
theorem Uz:bX 30:=ce Uy<|by decide+kernel
theorem UB:bX 31:=ce Uz<|by decide+kernel
theorem UC:bX 32:=ce UB<|by decide+kernel
theorem UD:bX 33:=ce UC<|by decide+kernel
theorem UE:bX 34:=ce UD<|by decide+kernel
theorem UF:bX 35:=ce UE<|by decide+kernel
theorem UG:bX 36:=ce UF<|by decide+kernel
theorem UH:bX 37:=ce UG<|by decide+kernel
theorem UI:bX 38:=ce UH<|by decide+kernel
theorem UJ:bX 39:=ce UI<|by decide+kernel
theorem UK:bX 40:=ce UJ<|by decide+kernel
theorem UM:bX 41:=ce UK<|by decide+kernel
theorem UN:bX 42:=ce UM<|by decide+kernel
theorem UO:bX 43:=ce UN<|by decide+kernel
theorem UP:bX 44:=ce UO<|by decide+kernel
theorem UQ:bX 45:=ce UP<|by decide+kernel
theorem UR:bX 46:=ce UQ<|by decide+kernel
theorem US:bX 47:=ce UR<|by decide+kernel
theorem UT:bX 48:=ce US<|by decide+kernel
theorem UU:bX 49:=ce UT<|by decide+kernel
theorem UV:bX 50:=ce UU<|by decide+kernel
theorem UX:bX 51:=ce UV<|by decide+kernel
theorem UY:bX 52:=ce UX<|by decide+kernel
theorem UZ:bX 53:=ce UY<|by decide+kernel
theorem Va:bX 54:=ce UZ<|by decide+kernel
theorem Vb:bX 55:=ce Va<|by decide+kernel
theorem Vc:bX 56:=ce Vb<|by decide+kernel
theorem Vd:bX 57:=ce Vc<|by decide+kernel
theorem Ve:bX 58:=ce Vd<|by decide+kernel
theorem Vf:bX 59:=ce Ve<|by decide+kernel
theorem Vg:bX 60:=ce Vf<|by decide+kernel
theorem Vi:bX 61:=ce Vg<|by decide+kernel
theorem Vj:bX 62:=ce Vi<|by decide+kernel
theorem Vk:bX 63:=ce Vj<|by decide+kernel
theorem Vl:bX 64:=ce Vk<|by decide+kernel
theorem Vm:bX 65:=ce Vl<|by decide+kernel
theorem Vq:oV.length=257:=by decide+kernel
variable{j a7:ao}{y e2:ao->Prop}{k6:Arg}{f:bR}{e5:eR N}{f6:eR aa}{n h5:ah}{d7:ah->Prop}{h9:ah->al->Prop}{d3:aM}{i0:lD}{f7:cK}{p:bH}{v c5 i7:aC}{c2:gQ}{i c0:aT}{a5 g1:H}{e7 k9:M (M N)}{b6:M (N×N)}{i1:M (ag ao)}{l0:M (I×ao)}{g8:M (I×N)}{b5 l1:M (I×aa)}{d9:M ao}{c3:M ah}{f1 i9:M aM}{d0:M cK}{e3:M bH}{c6:M aC}{a9:M dh}{g9:M H}{l3:M oI}{m b7 l5:M N}{l6:M js}{d4 l7:M cD}{a4 d6:M I}{K h7:M aa}{j1:M aa->M (I×aa)->M (I×aa)->Prop}{f8:kD}{a d t a2 b8 j4:N}{g2 l8:N×N}{c7:N->ah}{j5:N->aT->Prop}{e8:N->N}{h0:N->N->ah}{h1:N->Prop}{g3:iR}{h2:kE}{g4:ag (M ah)}{m0:ag (M N)}{j6:ag (aa->cC ek)}{m1:ag aC}{j8 m2:ag H}{j9:ag I}{A e4 k0 m4 m5:bV}{m6:sj->al->Prop}{c8:dJ}{i3:cC aa}{e S e9:al}{m7:cD}{g T f9:I}{g5 k1:I->ag aa}{m8:I->Prop}{m9:I->I}{c1 i5:cH}{E f5:Type}{k Y f0 i6:aa}{k3:aa->bH->cC ek}{a6 g6:aa->al->Prop}{h4:kF}
inductive B where
 |len|sum|max|sorted|iter|next|enumerate|zip|range|list|str|bool
 |lAppend|lInsert|lIndex|sReplace|sSplit|sJoin|sStarts|sEnds|sFind|dGet|dSetdef|xx (a:N)
variable{g7:B}{j7:ag B}
instance:fx B:=⟨.len⟩
noncomputable def B.ctorIdx(a:B):N:=B.casesOn a 0 1 2 3 4 5 6 7 8 9 10 11 12 13 14 15 16 17 18 19 20 21 22 λ_=>23
noncomputable def B.val:B->aa
 | .len=> .builtin "len"| .sum=> .builtin "sum"| .max=> .builtin "max"| .sorted=> .builtin "sorted"| .iter=> .builtin "iter"| .next=> .builtin "next"
 | .enumerate=> .type "enumerate"| .zip=> .type "zip"| .range=> .type "range"| .list=> .type "list"| .str=> .type "str"| .bool=> .type "bool"
 | .lAppend=> .builtin "list.append"| .lInsert=> .builtin "list.insert"| .lIndex=> .builtin "list.index"
 | .sReplace=> .builtin "str.replace"| .sSplit=> .builtin "str.split"| .sJoin=> .builtin "str.join"| .sStarts=> .builtin "str.startswith"| .sEnds=> .builtin "str.endswith"| .sFind=> .builtin "str.find"
 | .dGet=> .builtin "dict.get"| .dSetdef=> .builtin "dict.setdefault"| .xx _=> .builtin "xx"
inductive R where
 |none
 |bool (b:ah)
 |int (d:H)
 |str (e:I)
 |loc (d:N)
 |tup (a:M R)
 |lst (a:M R)
 |dct (a:M (I×R))
 |raw (f:aa)
 |blt (b:B)
 |rng (g h:H)
 |clo (i:se) (j:aC) (k:dJ) (l:I) (cells:M (I×N))
variable{h L d2 k4:R}{D d8:M (I×R)}{q d5:M R}{l9:N->R}{a1:N->ag R}{c4 f2:ag R}{i4:I->ag R}
instance:fx R:=⟨.none⟩
noncomputable def R.ctorIdx(a:R):N:=R.casesOn a 0 (λ_=>1) (λ_=>2) (λ_=>3) (λ_=>4) (λ_=>5) (λ_=>6) (λ_=>7) (λ_=>8) (λ_=>9) (λ_ _=>10) λ_ _ _ _ _=>11
noncomputable def bu(a:N):M cD:=match Ol.main.body[a]? with
 |some (.FunctionDef _ _ b ..)=>b
 |_=> []
noncomputable def bI(a:N):dJ:=match Ol.main.body[a]? with
 |some (.FunctionDef _ _ _ _ _ _ b ..)=>b
 |_=>kv
noncomputable def gZ:M (mD×H):=[("!",54),("!=",28),("%",24),("%=",40),("&",19),("&=",41),("(",7),(")",8),("*",16),("**",35),("**=",46),("*=",38),("+",14),("+=",36),(",",12),("-",15),("-=",37),("->",51),(".",23),("...",52),("/",17),("//",47),("//=",48),("/=",39),(":",11),(":=",53),(";",13),("<",20),("<<",33),("<<=",44),("<=",29),("=",22),("==",27),(">",21),(">=",30),(">>",34),(">>=",45),("@",49),("@=",50),("[",9),("]",10),("^",32),("^=",43),("{",25),("|",18),("|=",42),("}",26),("~",31)]
noncomputable def gm(a:N):ao:=match a with
 |1=>23|2=>32|3=>41|4=>50|6=>57|9=>64|62=>74|63=>81|64=>88|66=>93|67=>100|68=>107|69=>112|70=>117|71=>124|72=>131|73=>138|74=>143|_=>0
noncomputable def bS(a:N):aa:= .ref<|gm a
noncomputable def HO:M (I×R):=[
 ("len",.blt .len),("_law_run",.raw (bS 71)),("_law_step",.raw (bS 67)),("_law_after",.raw (bS 68)),("_law_line",.raw (bS 69)),("_law_table",.raw (bS 70)),("_law_unlike",.raw (bS 72)),("_law_plan",.raw (bS 66)),("_law_refused",.raw (bS 73)),
 ("bisect_left",.raw (bS 4)),("bisect_right",.raw (bS 2)),("insort_left",.raw (bS 3)),("insort_right",.raw (bS 1)),("_parse_varint",.raw (bS 6)),("_ellipsis_match",.raw (bS 9)),
 ("ISTERMINAL",.raw (bS 62)),("ISNONTERMINAL",.raw (bS 63)),("ISEOF",.raw (bS 64)),("ELLIPSIS_MARKER",.str "..."),("NT_OFFSET",.int 256),("ENDMARKER",.int 0),("EXACT_TOKEN_TYPES",.dct (gZ.map λa=>(bC a.1,.int a.2))),
 ("enumerate",.blt .enumerate),("sum",.blt .sum),("list",.blt .list),("range",.blt .range),("iter",.blt .iter),("next",.blt .next),("max",.blt .max),("sorted",.blt .sorted),("zip",.blt .zip)]
noncomputable def HP:M (I×R):=[("str",.blt .str),("ValueError",.raw (.type "ValueError"))]
noncomputable def gl(a:I):ag R:=(HO++HP).lookup a
noncomputable def Cw(a:bV):ah:=(a.line==167||a.line==168||a.line==189||a.line==223)||(a.line==214&&a.col==32)||(a.line==234&&a.col==20)
section
open PySem.W
noncomputable def gE(a:gQ)(b:ao):Ah:=match a.lookup b with
 |some ⟨_,_,.func c,_⟩=>c
 |_=>kv
noncomputable def xN(a:gQ)(b:ao):ah:=match a.lookup b with
 |some ⟨_,_,.func _,_⟩=>X
 |_=>ai
noncomputable def xB:M N:=[1,2,3,4,6,9,62,63,64,66,67,68,69,70,71,72,73,74]
noncomputable def BK(a:gQ)(b:N):=(xN a<|gm b,(gE a<|gm b).body,codeIn a (gE a<|gm b).code (gE a<|gm b).qualname,(gE a<|gm b).globals,(gE a<|gm b).builtins,(gE a<|gm b).closure,(gE a<|gm b).scope)
noncomputable def BL(a:N):=(X,ay4 (bu a),X,gC,kG,([]:M (I×ao)),bI a)
class inductive fH{a:Type}(b:a->Prop):M a->Prop
 |nil:fH b []
 |cons {c:a} {d:M a} (e:b c) (f:fH b d):fH b (c::d)
theorem fH.all{b:E->Prop}{c:M E}(a:fH b c):∀d∈c,b d:=by
 induction a with
 |nil=>exact λ_ a=>(by cases a)
 |cons a f e=>exact List.forall_mem_cons.mpr ⟨a,e⟩
noncomputable abbrev nV(a:gQ)(b:ao)(c:Setting)(d:M aa)(e:M (I×aa)):ag (M<|I×aa):=peek a c<|bindArgs (gE a b) ⟨d,e⟩
def vO(d:gQ)(e:ao)(f:M aa->M (I×aa)->M (I×aa)->Prop):Prop:=∀a b c,f a b c->∀g,nV d e g a b=Q c
def iG(a:M I)(b:M aa)(c d:M (I×aa)):Prop:=c=[]/\b.length=a.length/\d=a.zip b
def lg(h:cH)(f:M aa)(g i:M (I×aa)):Prop:=∃a b c d e,i=([("a",a),("x",b),("lo",c),("hi",d),("key",e)]:M (I×aa))/\ ((f=[a,b]/\g=[]/\c= .int 0 h/\d= .none/\e= .none)\/(f=[a,b]/\g=([("key",e)]:M (I×aa))/\c= .int 0 h/\d= .none)\/(f=[a,b,c]/\g=[]/\d= .none/\e= .none)\/ (f=[a,b,c,d]/\g=[]/\e= .none)\/(f=[a,b,c,d]/\g=([("key",e)]:M (I×aa))))
noncomputable def fC(a:gQ)(b:ao):eR Ae:=match a.lookup b with
 |some ⟨_,_,.dict c _,_⟩=>c
 |_=> #[]
noncomputable def xM(a:gQ)(b:ao):ah:=match a.lookup b with
 |some ⟨_,_,.dict _ _,_⟩=>X
 |_=>ai
noncomputable def uN(a:gQ)(b:ao):ah:=match a.lookup b with
 |some ⟨.type c,U,.dict _ _,d⟩=>c== "dict"&&d.size==0
 |_=>ai
noncomputable def vI(b:Ae):cH×cH:=(match b.key with| .str _ a=>a|_=>0,match b.val with| .int _ a=>a|_=>0)
noncomputable def rE(b:kF):M (mD×H)->M (cH×cH)->M Ae
 |a::d,c::e=>⟨hashStr b<|bC a.1,.str (bC a.1) c.1,.int a.2 c.2⟩::rE b d e
 |_,_=> []
noncomputable def po(a:aT)(b:ao):aT:=a.update b λ_=>{cls:= .none,data:= .freed}
def zm(f:kF)(c:gQ)(b:aa):R->Prop
 | .raw g=>b=g
 | .str h=>∃d,b= .str h d
 | .int i=>∃d,b= .int i d
 | .blt j=>b=j.val
 | .dct k=>∃a,b= .ref a/\uN c a=X/\(fC c a).size=gZ.length/\(fC c a).toList=rE f gZ ((fC c a).toList.map vI)/\(a==cR)=ai/\k=gZ.map λe=>(bC e.1,.int e.2)
 |_=>cn
def pW(d:kF)(b:gQ)(a:I)(e:R):Prop:=∃c,(ny (fC b gC) a=Q c\/ny (fC b gC) a=U/\a≠ "__name__"/\Ar a=Q c)/\zm d b c e
def KN(a:N):M aa->M (I×aa)->M (I×aa)->Prop:=match a with
 |1=>lg 189|2=>lg 202|3=>lg 216|4=>lg 229|6=>iG ["iterator"]|9=>iG ["want","got"]|62=>iG ["x"]|63=>iG ["x"]|64=>iG ["x"]|66=>iG ["want"]|67=>iG ["plan","can","sign"]|68=>iG ["plan","text"]|69=>iG ["ask","head","tails"]|70=>iG ["ask","pair","tails","kept"]|71=>iG ["moves","text"]|72=>iG ["moves","goals","pair","plan","front"]|73=>iG ["search","row","low"]|74=>iG ["script"]|_=>λ_ _ _=>cn
structure oB(j:kF)(c:gQ):Prop where
 dc:xM c gC=X
 no:c.lookup 140=U
 fs:xB.map (BK c)=xB.map BL
 bs:fH (λh=>vO c (gm h)<|KN h) xB
 gl:fH (λi=>pW j c i.1 i.2) (HO++HP)
structure jw(c:aT)(j o:I->ag aa):Prop where
 g:c.Ns gC j
 b:c.Ns kG o
 bb:∀i:I,i≠ "__name__"->o i=Ar i
 lim:c.NoLimit
 sys:∃v,c.get? cR=Q v
 bm:∃bm h,j "__builtins__"=Q (.ref bm)/\bm≠kG/\c.get? bm=Q h/\h.cls= .type "module"/\h.dict=Q kG/\h.data= .plain
def rR(i:sk)(d:kF)(a:al):Prop:=∀(b:gQ) (j k:I->ag aa) (l:Al) (e:ao) (f:M aa) (g:M H) (h m:aa->al->Prop),oB d b->jw a.heap j k->b.In a.heap->
 a.heap.get? 140=Q (uq #[])->(gE b 143).code= .ref 142->codeHdIn b 142 140=X->a.heap.get? e=Q {cls:= .type "list",data:= .seq f.toArray}->WellAll l a.heap f (ofPys<|g.map ju)->g.length<=63->
 (∀c,OldK a.heap c.heap->c.os=a.os->c.gens=a.gens->h (.bool X) c)->an (az i d) At (dF (.ref 143) [.ref e] []) h m a
end
def AM:sk×kF×al:= @as8 _ ⟨(kv,⟨λ_ _=>0,by constructor<;>intros<;>exact kv⟩,{})⟩ λa=>¬rR a.1 a.2.1 a.2.2
def aq:sk:=AM.1
def ap:kF:=AM.2.1
def gY:al:=AM.2.2
def bM:aT:=po gY.heap 140
theorem aA6(e:rR aq ap gY)(b:sk)(c:kF)(d:al):rR b c d:=as7 λf=> @as9 _ (λa:sk×kF×al=>¬rR a.1 a.2.1 a.2.2) ⟨(b,c,d),f⟩ e
section
open PySem.W
theorem lX(c:i.Ns j g5):∃a,i.get? j=Q a:=(by(revert c;refine iC λa b b d b=> ?_);exact⟨a,d⟩)
def zf(b:gQ)(c:ao):M I->M (I×aa)->Prop
 |[],a=>∀d,nV b c d (a.map (·.2)) []=Q a
 |e::f,a=>∀g,zf b c f (a++ [(e,g)])
theorem Qa(c:M I):∀(a:M (I×aa)) (b:M aa),zf c2 j c a->b.length=c.length->∀d,nV c2 j d ((a++c.zip b).map (·.2)) []=Q (a++c.zip b):=by
 induction c with
 |nil=>intro a b e _ d;rw [List.zip_nil_left,cZ];exact e d
 |cons h l i=>
  intro a b e f d
  cases b with
  |nil=>cases f
  |cons g k=>have:=i (a++ [(h,g)]) k (e g) (sb f) d;rwa [eo] at this
theorem az2(b:zf c2 j a4 []):vO c2 j (iG a4):=by intro c h i d e;(revert d;refine dH λf a g=> ?_;obtain rfl:=f;obtain rfl:=g);have:=Qa a4 [] c b a e;rwa [Ev,Nm (dM a)] at this
noncomputable abbrev uG(a b c d e:aa):M (I×aa):=[("a",a),("x",b),("lo",c),("hi",d),("key",e)]
theorem az1(g:∀a b c,nV c2 j c [a,b] []=Q (uG a b (.int 0 c1) .none .none))(h:∀a b e c,nV c2 j c [a,b] [("key",e)]=Q (uG a b (.int 0 c1) .none e))
 (i:∀a b d c,nV c2 j c [a,b,d] []=Q (uG a b d .none .none)) (k:∀a b d f c,nV c2 j c [a,b,d,f] []=Q (uG a b d f .none)) (l:∀a b d f e c,nV c2 j c [a,b,d,f] [("key",e)]=Q (uG a b d f e)):vO c2 j (lg c1):=by
 intro p q r m c;(revert m;refine Xo λa b s t u n o=> ?_;obtain rfl:=n)
 obtain⟨rfl,rfl,rfl,rfl,rfl⟩|⟨rfl,rfl,rfl,rfl⟩|⟨rfl,rfl,rfl,rfl⟩|⟨rfl,rfl,rfl⟩|⟨rfl,rfl⟩:=o
 .exact g _ _ c
 .exact h _ _ _ c
 .exact i _ _ _ c
 .exact k _ _ _ _ c
 .exact l _ _ _ _ _ c
theorem Sy(a:xM c2 j=X):∃b c f d,c2.lookup j=Q ⟨b,c,.dict (fC c2 j) f,d⟩:=by
 unfold xM at a;unfold fC
 cases e:c2.lookup j with
 |none=>rw [e] at a;exact cY a
 |some g=>
  rw [e] at a;obtain⟨b,c,h,d⟩:=g
  cases h<;>first|exact⟨_,_,_,_,O⟩|exact cY a
theorem Jp(b:c2.In i)(c:i.Ns j g5)(d:xM c2 j=X)(a:I):g5 a=ny (fC c2 j) a:=by revert c;refine mP λl m n e f o g=> ?_;refine Xl (λp q r s h=> ?_)<|Sy d;have:=b _ _ h;rw [e] at this;(revert this;refine aL λk=> ?_;subst k);cases f;exact(g a).symm
theorem aA2(a:ny (fC c2 gC) g=Q k):pW h4 c2 g (.raw k):=⟨k,.inl a,O⟩
theorem aA4(a:cH)(b:ny (fC c2 gC) g=Q (.str T a)):pW h4 c2 g (.str T):=⟨_,.inl b,a,O⟩
theorem aA1(a:cH)(b:ny (fC c2 gC) g=Q (.int a5 a)):pW h4 c2 g (.int a5):=⟨_,.inl b,a,O⟩
theorem az9(a:B)(b:ny (fC c2 gC) g=U)(c:g≠ "__name__")(d:Ar g=Q a.val):pW h4 c2 g (.blt a):=⟨_,.inr ⟨b,c,d⟩,O⟩
theorem aA3(a:ny (fC c2 gC) g=U)(b:g≠ "__name__")(c:Ar g=Q k):pW h4 c2 g (.raw k):=⟨_,.inr ⟨a,b,c⟩,O⟩
theorem aA0(a:ao)(c:ny (fC c2 gC) g=Q (.ref a))(d:uN c2 a=X)(e:(fC c2 a).size=gZ.length)(f:(fC c2 a).toList=rE h4 gZ ((fC c2 a).toList.map vI))(h:(a==cR)=ai): pW h4 c2 g (.dct<|gZ.map λb=>(bC b.1,.int b.2)):=⟨_,.inl c,a,O,d,e,f,h,O⟩
theorem aA8{b:sk}{g:Al}(i:∀k h4 e,rR k h4 e)(c:oB h4 c2)(d:jw e.heap g5 k1)(f:c2.In e.heap)(l:e.heap.get? 140=Q (uq #[]))(m:(gE c2 143).code= .ref 142)(n:codeHdIn c2 142 140=X)(o:ny (fC c2 gC) "law"=Q (.ref 143))
 (h:g5 "law"=Q (.ref j)) (p:Well g e.heap (.ref a7) (ofPy<|.list (g9.map .int))) (q:¬(63:H)<g9.length)
 (r:∀a,OldK e.heap a.heap->a.os=e.os->a.gens=e.gens->a6 (.bool X) a):an (az b h4) At (dF (.ref j) [.ref a7] []) a6 g6 e:=by
 rw [Jp f d.g c.dc,o] at h
 cases h
 cases p with
 |list s t=>exact i b h4 e c2 g5 k1 g a7 _ g9 a6 g6 c d f l m n s t (by exact bd<|aw 0 F 63 (.p 1 F 63 .z) (aG _) O (mq.mp q)) r
theorem aD9{b:sk}{c:ExcName->ag aa}(a:au9 b a4 c g5 k1 i)(d:av8 b=X):jw i g5 k1:= ⟨a.g,a.b,a.builtins,a.nolimit,(by refine ac (λe f e=> ?_)<|(a.seer d).mods;exact lX f),a.bmain⟩
end
theorem am1(a:h9 X e)(b:h9 ai e):an f8 f (dj n) h9 a6 e:=bP<|by cases n<;>assumption
set_option tactic.hygienic true in
theorem Ss(e:aa)(c:iR):
 MeetsIn aq ap (Builtin.«enumerate.__new__» ⟨[.type "enumerate",e],[]⟩) (λo i a=>(∀(f:bR) (g:aa->al->Prop) (b:aa->al->Prop),b (.ref a.heap.objs.size) {a with heap:=a.heap.push c}->an (az aq ap) f (kI e) b g a)/\ i (.ok<|.ret (.ref (a.heap.push c).objs.size)) {a with heap:=(a.heap.push c).push {cls:= .type "enumerate",data:= .fields #[.none,.bool ai,.ref a.heap.objs.size,nA 0,.none,.none]}}):=
 .of_wp λo i a d=>by
  obtain⟨h,j,k,l,m⟩:=a;(revert d;refine aA λp d=> ?_);have r:=sub_enumerate;have n:∀{f:bR} {g:aa->al->Prop} {b:aa->al->Prop},b (.ref h.objs.size) (OG (h.push c) j k l m)->an (az aq ap) f (kI e) b g (OG h j k l m):=λq=>p _ _ _ q;wp_walk;refine wpAny_stack_any λs=>am1 ?_ ?_
  .wp_walk using n;exact⟨_,O,d⟩
  .wp_walk using n;exact⟨_,O,d⟩
theorem JZ{c:E->al->Prop}(d:f.handled=U)(g:∀b a:iR,a.cls= .type "StopIteration"->a.isFreed=ai->a6 (.ref (e.heap.push b).objs.size) {e with heap:=(e.heap.push b).push a}):
 an (az aq ap) f (Ay (.type "StopIteration") []>>=λh=>(raiseNew h:cC E)) c a6 e:=by
 refine aJ ?_
 unfold Ay newTuple
 refine aJ<|Pd ?_ (by size_fits)
 refine aJ (m:=firstArgMember _ _)<|wW (a:=mz) (by first|rfl|(simp only [firstArgMember];rfl)) ?_
 refine Pd ?_<|by size_fits
 unfold raiseNew
 refine aJ<|wpAny_handled ?_
 rw [d]
 refine aJ<|bP (wpAny_throw ?_)
 exact g _ _ O O
local macro_rules (kind:=Lean.Parser.Tactic.rewriteSeq)
 |s=>do
  let r:=s[2][1].getSepArgs
  let d:=s[0]
  if s[3].getNumArgs==1||s[0].isMissing then Lean.Macro.throwUnsupported
  let k:=Lean.Syntax.node .none
  let n:=k `null
  if r.size>1 then return n (r.map λx=>s.setArg 2<|s[2].setArg 1 (n #[x]))
  let a:=λx y=>k `Lean.Parser.Term.app #[x,n #[y]]
  let h:=a r[0]![1] (k `Lean.Parser.Term.ellipsis #[d])
  let h:=if r[0]![0].getNumArgs==1 then h else a (Lean.mkIdent `Eq.symm) h
  return k `Lean.Parser.Tactic.first #[d,n #[n #[d,k `Lean.Parser.Tactic.refine #[d,k `Lean.Parser.Term.subst #[h,d,n #[k `Lean.Parser.Term.syntheticHole #[d,d]]]]],n #[d,s.setArg 0 .missing]]]
inductive G where
 |list (a:M R)
 |dict (b:N) (a:M (I×R))
 |cell (v:ag R)
 |ns (c:M (I×R))
 |liter (a:M R)
 |ctab (d:I)
 |any
variable{k5:R->M G->Prop}{k7:ah->M G->Prop}{h6:M R->M G->Prop}{c V l4:M G}{e0:M G->Prop}{j0:M N->M G->Prop}{b9 i2:G}
instance:fx G:=⟨.any⟩
noncomputable def G.ctorIdx(a:G):N:=G.casesOn a (λ_=>0) (λ_ _=>1) (λ_=>2) (λ_=>3) (λ_=>4) (λ_=>5) 6
theorem aD1{a:Prop}(b:h=L)(c:cU h.ctorIdx L.ctorIdx=ai):a:=by subst b;exact bD (nh _)<|by rw [c] at ⊢;decide
theorem aD3{a:Prop}(b:b9=i2)(c:cU b9.ctorIdx i2.ctorIdx=ai):a:=by subst b;exact bD (nh _)<|by rw [c] at ⊢;decide
theorem aD2{a:B}{b:Prop}(c:g7=a)(d:cU g7.ctorIdx a.ctorIdx=ai):b:=by subst c;exact bD (nh _)<|by rw [d] at ⊢;decide
structure ar where
 l:M (ag ao)
 p:M ao
variable{b x j3:ar}
instance:fx ar:=⟨⟨[],[]⟩⟩
noncomputable def bL{b:Type}{d:Type}(a:ag b)(c:b->ag d):ag d:=match a with
 |some e=>c e
 |none=>U
noncomputable def vn(a:R):ag N:=match a with
 | .loc b=>Q b
 |_=>U
noncomputable def mb(a:N->ag R):M (I×N)->ag (M<|I×N)
 |[]=>Q []
 |(b,c)::d=>bL (bL (a c) vn) λe=>(mb a d).map ((b,e):: ·)
mutual
noncomputable def R.ren(a:N->ag R):R->ag R
 | .loc c=>a c
 | .tup b=>(R.rens a b).map .tup
 | .lst b=>(R.rens a b).map .lst
 | .dct b=>(R.rend a b).map .dct
 | .clo d e f g h=>(mb a h).map<|.clo d e f g
 |i=>Q i
noncomputable def R.rens(a:N->ag R):M R->ag (M R)
 |[]=>Q []
 |b::c=>bL (R.ren a b) λd=>(R.rens a c).map (d:: ·)
noncomputable def R.rend(a:N->ag R):M (I×R)->ag (M<|I×R)
 |[]=>Q []
 |(b,c)::d=>bL (R.ren a c) λe=>(R.rend a d).map ((b,e):: ·)
end
theorem hr(a:R.ren a1 h=Q L)(b:R.rend a1 D=Q d8):R.rend a1 ((g,h)::D)=Q ((g,L)::d8):=by refine(?_:bL (R.ren a1 h) _=_);rw [a];refine(?_:(R.rend a1 D).map _=_);rw [b];rfl
theorem pK(a:R.ren a1 h=Q L)(b:R.rens a1 q=Q d5):R.rens a1 (h::q)=Q (L::d5):=by refine(?_:bL (R.ren a1 h) _=_);rw [a];refine(?_:(R.rens a1 q).map _=_);rw [b];rfl
theorem Ka{b:M (I×N)}(c:a1 a=Q (.loc d))(e:mb a1 g8=Q b):mb a1 ((g,a)::g8)=Q ((g,d)::b):=by refine(?_:bL (bL (a1 a) vn) _=_);rw [c];refine(?_:(mb a1 g8).map _=_);rw [e];rfl
theorem rx(a:R.rens a1 q=Q d5):R.ren a1 (.lst q)=Q (.lst d5):=by refine(?_:(R.rens a1 q).map _=_);rw [a];rfl
theorem YS(a:R.rens a1 q=Q d5):R.ren a1 (.tup q)=Q (.tup d5):=by refine(?_:(R.rens a1 q).map _=_);rw [a];rfl
theorem YR(a:R.rend a1 D=Q d8):R.ren a1 (.dct D)=Q (.dct d8):=by refine(?_:(R.rend a1 D).map _=_);rw [a];rfl
mutual
noncomputable def R.flat:R->ah
 | .loc _=>ai
 | .tup a=>R.flats a
 | .lst a=>R.flats a
 | .dct a=>R.flatd a
 | .clo _ _ _ _ b=>b.isEmpty
 |_=>X
noncomputable def R.flats:M R->ah
 |[]=>X
 |a::b=>R.flat a&&R.flats b
noncomputable def R.flatd:M (I×R)->ah
 |[]=>X
 |(_,a)::b=>R.flat a&&R.flatd b
end
inductive ot(c:aT)(f d:ao)(g:se)(h:aC)(i:dJ)(e:I)(j:M (I×ao)):Prop
 |mk (b:iR) (a:Ah) (k:c.get? f=Q b) (l:b.cls= .type "function") (m:b.data= .func a) (n:a.params=g) (o:a.body= .expr h) (p:a.scope=i) (q:a.qualname=e) (r:a.globals=gC) (s:a.closure=j) (t:a.defaults= .none) (u:a.kwdefaults= .none) (v:a.builtins=kG) (w:a.code= .ref d) (x:c.CodeRec (.ref d) e)
def eK(a:ar):M (I×ao)->M (I×N)->Prop
 |[],[]=>kc
 |(b,c)::d,(e,f)::g=>b=e/\a.l[f]? =Q (Q c)/\eK a d g
 |_,_=>cn
class inductive cJ(a:aa->R->Prop):M aa->M R->Prop
 |nil:cJ a [] []
 |cons {b:aa} {c:R} {d:M aa} {e:M R}:a b c->cJ a d e->cJ a (b::d) (c::e)
class inductive eI(a:aa->R->Prop):M (I×aa)->M (I×R)->Prop
 |nil:eI a [] []
 |cons {b:I} {c:aa} {d:R} {e:M (I×aa)} {f:M (I×R)}:a c d->eI a e f->eI a ((b,c)::e) ((b,d)::f)
class inductive bi(b:ao->Prop)(d:aT)(e:ar):aa->R->Prop
 |none:bi b d e .none .none
 |bool (g:ah):bi b d e (.bool g) (.bool g)
 |int (h:H) (i:cH):bi b d e (.int h i) (.int h)
 |str (k:I) (i:cH):bi b d e (.str k i) (.str k)
 |loc {h:N} {a:ao}:e.l[h]? =Q (Q a)->bi b d e (.ref a) (.loc h)
 |tup {a:ao} {vs:M aa} {f:M R}:b a->d.IsTuple a vs.toArray->cJ (bi b d e) vs f->bi b d e (.ref a) (.tup f)
 |lst {a:ao} {vs:M aa} {f:M R}:b a->d.PlainList a vs.toArray->cJ (bi b d e) vs f->bi b d e (.ref a) (.lst f)
 |dct {a:ao} {l:M (I×aa)} {f:M (I×R)}:b a->(a==cR)=ai->d.DictOf (fB aq ap) a l->eI (bi b d e) l f->bi b d e (.ref a) (.dct f)
 |raw (j:aa):bi b d e j (.raw j)
 |blt (g:B):bi b d e g.val (.blt g)
 |rng {a:ao} {m n:H} {i t j:cH}:b a->IsRange d a m n 1 i t j->bi b d e (.ref a) (.rng m n)
 |clo {a c:ao} {o:se} {p:aC} {q:dJ} {r:I} {cells:M (I×ao)} {s:M (I×N)}: b a->b c->ot d a c o p q r cells->eK e cells s->bi b d e (.ref a) (.clo o p q r s)
abbrev cb(a:ao->Prop)(b:aT)(c:ar):M aa->M R->Prop:=cJ<|bi a b c
abbrev eA(a:ao->Prop)(b:aT)(c:ar):M (I×aa)->M (I×R)->Prop:=eI<|bi a b c
def bh(a:ar):ao->Prop:=λb=>Q b∉a.l/\b∉a.p
abbrev aR(b:aT)(a:ar):aa->R->Prop:=bi (bh a) b a
abbrev dN(b:aT)(a:ar):M aa->M R->Prop:=cb (bh a) b a
abbrev iq(b:aT)(a:ar):M (I×aa)->M (I×R)->Prop:=eA (bh a) b a
def ew(a:aT)(c:ar)(b:ao):G->Prop
 | .list d=>∃e:M aa,a.PlainList b e.toArray/\dN a c e d
 | .dict p d=>∃k,a.DictAt (fB aq ap) b k p/\iq a c k d
 | .cell U=>a.IsCell b U
 | .cell (Q g)=>∃f,a.IsCell b (Q f)/\aR a c f g
 | .ns q=>∃l,a.Ns b l/\∀g m,q.lookup g=Q m->∃f,l g=Q f/\aR a c f m
 | .liter d=>∃h n,∃e:M aa,a.IsListIter b h n/\bh c h/\h≠b/\a.PlainList h e.toArray/\dN a c (e.drop n) d
 | .ctab r=>∃i,a.get? b=Q (uq i)/\oN i.toList/\∀s o,qw s i.toList=Q o->∃j:ao,o= .ref j/\bh c j/\a.CodeRec (.ref j) r
 | .any=>kc
structure am(h:ar)(v:M G)(o:al):Prop where
 len:h.l.length=v.length
 inj:∀(i x:N) (c:ao),h.l[i]? =Q (Q c)->h.l[x]? =Q (Q c)->i=x
 mo:∀(i:N) (c:ao) (j:G),h.l[i]? =Q (Q c)->v[i]? =Q j->ew o.heap h c j
 base:∀y j,bM.get? y=Q j->o.heap.get? y=Q j
 out:∀(i:N) (c:ao),h.l[i]? =Q (Q c)->bM.get? c=U
 ex:∀(i:N) (c:ao),h.l[i]? =Q (Q c)->∃j,o.heap.get? c=Q j
 prv:∀c∈h.p,bM.get? c=U/\Q c∉h.l/\∃j,o.heap.get? c=Q j
 tk:0<o.toks
structure aH(c:ar)(h:al)(x:ar)(v:al):Prop where
 le:c.l.length<=x.l.length
 pre:∀i,i<c.l.length->x.l[i]? =c.l[i]?
 new:∀i y,c.l.length<=i->x.l[i]? =Q (Q y)->h.heap.get? y=U
 p:x.p=c.p
 keep:∀j o,Q j∉c.l->h.heap.get? j=Q o->v.heap.get? j=Q o
 live:∀j,(∃o,h.heap.get? j=Q o)->∃o,v.heap.get? j=Q o
 gens:v.gens=h.gens
 drawn:v.drawn=h.drawn
 os:v.os=h.os
theorem GK(b:i.DictOf (fB aq ap) j b5)(c:∀a,i.get? j=Q a->c0.get? j=Q a):c0.DictOf (fB aq ap) j b5:= (by(revert b;refine iC λa d e f g=> ?_);exact⟨a,d,e,c _ f,g⟩)
theorem qM(b:i.DictAt (fB aq ap) j b5 a):i.DictOf (fB aq ap) j b5:=(by(revert b;refine dw λc d e f=> ?_);exact⟨c,d,a,e,f⟩)
theorem xr(b:i.DictOf (fB aq ap) j b5):∃a,i.DictAt (fB aq ap) j b5 a:=(by(revert b;refine iC λc d a e f=> ?_);exact⟨a,c,d,e,f⟩)
theorem eK.mono{μ':ar}(a:∀(c:N) (d:ao),b.l[c]? =Q (Q d)->μ'.l[c]? =Q (Q d)):∀{e:M (I×ao)} {f:M (I×N)},eK b e f->eK μ' e f
 |[],[],_=>eG
 |(_,_)::_,(_,_)::_,⟨g,h,i⟩=>⟨g,a _ _ h,eK.mono a i⟩
theorem ot.at{b c d e f}(h:ot i j a7 b c d e f)(k:∀a,i.get? j=Q a->c0.get? j=Q a)
 (l:∀a,i.get? a7=Q a->c0.get? a7=Q a):ot c0 j a7 b c d e f:=
 let⟨a,m,n,o,p,q,r,s,t,u,v,w,x,y,z,A⟩:=h
 let⟨B,D,E,K,g,L,P⟩:=A
 ⟨a,m,k _ n,o,p,q,r,s,t,u,v,w,x,y,z,⟨B,D,E,K,g,by cases g;exact l _ L,P⟩⟩
theorem ot.get{b c d e f}(g:ot i j a7 b c d e f):(∃a,i.get? j=Q a)/\∃a,i.get? a7=Q a:=
 let⟨a,_,h,_,_,_,_,_,_,_,_,_,_,_,_,k⟩:=g
 let⟨_,l,_,_,m,n,_⟩:=k
 ⟨⟨a,h⟩,l,by cases m;exact n⟩
structure cs(i v:ao->Prop)(j x:aT)(y Y:ar):Prop where
 p:∀c h,i c->j.get? c=Q h->v c
 k:∀c h,i c->j.get? c=Q h->x.get? c=Q h
 m:∀(o:N) (c:ao),y.l[o]? =Q (Q c)->Y.l[o]? =Q (Q c)
theorem nU{b:ag E}{c:E->ag f5}{d:f5}(e:bL b c=Q d):∃a,b=Q a/\c a=Q d:=by
 cases b with
 |none=>exact aU e
 |some a=>exact⟨a,O,e⟩
theorem Wz(b:vn h=Q a):h= .loc a:=by cases h<;>first|(cases b;rfl)|exact aU b
def kK(b:ar)(c:N->ag R)(d:ah):Prop:=d=X\/∀(a:N) (e:ao),b.l[a]? =Q (Q e)->c a=Q (.loc a)
theorem kK.and(d:kK b a1 (n&&h5)):kK b a1 n/\kK b a1 h5:=d.elim (λa=>⟨.inl (fp.mp a).1,.inl (fp.mp a).2⟩) λc=>⟨.inr c,.inr c⟩
theorem RA(g:∀(d:N) (h:ao),b.l[d]? =Q (Q h)->a1 d=Q (.loc d))(e:M (I×ao)):∀a,eK b e a->mb a1 a=Q a:=by
 induction e with
 |nil=>intro a c;cases a with
  |nil=>rfl
  |cons f a=>exact c.elim
 |cons j e i=>intro a c;cases a with
  |nil=>exact c.elim
  |cons f a=>refine(?_:bL (bL (a1 f.2) vn) _=_);rw [g _ _ c.2.1];refine(?_:eU _ (mb a1 a)=_);rw [i a c.2.2];rfl
theorem bi.fix(l:bi y i b k h):kK b a1 h.flat->R.ren a1 h=Q h:=
 bi.rec (motive_1:=λk h _=>kK b a1 h.flat->R.ren a1 h=Q h) (motive_2:=λ_ c _=>kK b a1 (R.flats c)->R.rens a1 c=Q c) (motive_3:=λ_ c _=>kK b a1 (R.flatd c)->R.rend a1 c=Q c)
  (λ_=>O) (λ_ _=>O) (λ_ _ _=>O) (λ_ _ _=>O) (λe a=>a.elim (by intro n;first|contradiction|(intros;contradiction)) λf=>f _ _ e) (λ_ _ _ d a=>bq (eU R.tup)<|d a) (λ_ _ _ d a=>bq (eU R.lst)<|d a)
  (λ_ _ _ _ d a=>bq (eU R.dct)<|d a) (λ_ _=>O) (λ_ _=>O) (λ_ _ _=>O)
  (λ_ _ _ m a=>bq (eU _)<|a.elim (λe=>by cases jN.mp e;rfl) λf=>RA f _ _ m)
  (λ_=>O) (λ_ _ g j a=>by refine(?_:bL (R.ren a1 _) _=_);rw [g a.and.1];refine(?_:eU _ (R.rens a1 _)=_);rw [j a.and.2];rfl)
  (λ_=>O) (λ_ _ g j a=>by refine(?_:bL (R.ren a1 _) _=_);rw [g a.and.1];refine(?_:eU _ (R.rend a1 _)=_);rw [j a.and.2];rfl) l
def FF(c:ao->Prop)(d:aT)(e:ar)(b:aa)(i:R):Prop:=match i with
 | .none=>b= .none
 | .bool j=>b= .bool j
 | .int k=>∃f,b= .int k f
 | .str i=>∃f,b= .str i f
 | .loc k=>∃a,b= .ref a/\e.l[k]? =Q (Q a)
 | .tup g=>∃a h,b= .ref a/\c a/\d.IsTuple a h.toArray/\cb c d e h g
 | .lst g=>∃a h,b= .ref a/\c a/\d.PlainList a h.toArray/\cb c d e h g
 | .dct g=>∃a m,b= .ref a/\c a/\(a==cR)=ai/\d.DictOf (fB aq ap) a m/\eA c d e m g
 | .raw l=>b=l
 | .blt j=>b=j.val
 | .rng p q=>∃a f l r,b= .ref a/\c a/\IsRange d a p q 1 f l r
 | .clo s t u v w=>∃a n o,b= .ref a/\c a/\c n/\ot d a n s t u v o/\eK e o w
theorem bi.inv(d:bi y i b k h):FF y i b k h:= bi.casesOn (motive_1:=λk h _=>FF y i b k h) d O (λ_=>O) (λ_ a=>⟨a,O⟩) (λ_ a=>⟨a,O⟩) (λe=>⟨_,O,e⟩) (λc a d=>⟨_,_,O,c,a,d⟩) (λc a d=>⟨_,_,O,c,a,d⟩) (λc f a d=>⟨_,_,O,c,f,a,d⟩) (λ_=>O) (λ_=>O) (λc e=>⟨_,_,_,_,O,c,e⟩) λc g a j=>⟨_,_,_,O,c,g,a,j⟩
theorem WA(c:bi y i b k (.loc a))(d:k= .ref j):b.l[a]? =Q (Q j):=by refine ac (λg e f=> ?_)<|c.inv;cases e.symm.trans d;exact f
theorem gU{b:ag E}{c:E->f5}{d:f5}{e:f5->Prop}(f:b.map c=Q d)(g:∀a,b=Q a->e (c a)):e d:=by
 cases b with
 |none=>exact aU f
 |some a=>(revert f;refine aL λh=> ?_;subst h);exact g a O
structure lw(i j:ao->Prop)(o v:aT)(Y Z:ar)(a0:N->ag R):Prop where
 at_:∀x y c,a0 x=Q y->Y.l[x]? =Q (Q c)->bi j v Z (.ref c) y
 p:∀c h,i c->o.get? c=Q h->j c
 k:∀c h,i c->o.get? c=Q h->v.get? c=Q h
theorem lw.cells(h:lw y e2 i c0 b x a1)(e:M (I×ao)):∀a f,eK b e a->mb a1 a=Q f->eK x e f:=by
 induction e with
 |nil=>intro a f c d;cases a with
  |nil=>(revert d;refine aL λj=> ?_;subst j);trivial
  |cons k a=>exact c.elim
 |cons o e l=>intro a f c d;cases a with
  |nil=>exact c.elim
  |cons k a=>refine ac (λp g d=> ?_)<|nU d;refine ac (λq m g=> ?_)<|nU g;refine gU d λr n=> ?_;cases Wz g;exact⟨c.1,WA (h.at_ _ _ _ m c.2.1) O,l _ _ c.2.2 n⟩
theorem bi.go(f:lw y e2 i c0 b x a1)(z:bi y i b k h):∀c,R.ren a1 h=Q c->bi e2 c0 x k c:=
 bi.rec (motive_1:=λk h _=>∀c,R.ren a1 h=Q c->bi e2 c0 x k c) (motive_2:=λr g _=>∀c,R.rens a1 g=Q c->cb e2 c0 x r c) (motive_3:=λr g _=>∀c,R.rend a1 g=Q c->eA e2 c0 x r c)
  (λc a=>by(revert a;refine aL λd=> ?_;subst d);exact .none) (λs c a=>by(revert a;refine aL λd=> ?_;subst d);exact .bool s) (λA e c a=>by(revert a;refine aL λd=> ?_;subst d);exact .int A e) (λh e c a=>by(revert a;refine aL λd=> ?_;subst d);exact .str h e) (λo c a=>f.at_ _ _ _ a o)
  (λj e _ q c a=>gU a λg l=>(by refine ac (λn p n=> ?_)<|id e;exact .tup (f.p _ _ j p) (e.at λm a=>f.k _ m j a)<|q g l))
  (λj e _ q c a=>gU a λg l=>(by refine ay (λn p=> ?_)<|id e;exact .lst (f.p _ _ j p) (e.at λm a=>f.k _ m j a)<|q g l))
  (λj B e _ q c a=>gU a λg l=>(by refine iC (λn n n p n=> ?_)<|id e;exact .dct (f.p _ _ j p) B (GK e λm a=>f.k _ m j a)<|q g l))
  (λk c a=>by(revert a;refine aL λd=> ?_;subst d);exact .raw k) (λs c a=>by(revert a;refine aL λd=> ?_;subst d);exact .blt s) (λj o c a=>by(revert a;refine aL λd=> ?_;subst d);exact .rng (f.p _ _ j o)<|f.k _ _ j o)
  (λj o e D c a=>gU a λg l=>(by(refine aA (λE K=> ?_)<|e.get;refine ay (λn p=> ?_)<|E;refine ay (λn L=> ?_)<|K);exact .clo (f.p _ _ j p) (f.p _ _ o L) (e.at (λm a=>f.k _ m j a) λm a=>f.k _ m o a)<|f.cells _ _ _ D l))
  (λc a=>by(revert a;refine aL λd=> ?_;subst d);exact .nil) (λ_ _ t u c a=>by refine ac (λv l a=> ?_)<|nU a;exact gU a λg w=> .cons (t v l)<|u g w)
  (λc a=>by(revert a;refine aL λd=> ?_;subst d);exact .nil) (λ_ _ t u c a=>by refine ac (λv l a=> ?_)<|nU a;exact gU a λg w=> .cons (t v l)<|u g w) z
theorem cJ.un(d:cb y i b K (h::q)):∃a c,K=a::c/\bi y i b a h/\cb y i b c q:=by
 cases d with
 |cons e f=>exact⟨_,_,O,e,f⟩
theorem cJ.ze(a:cb y i b K []):K=[]:=by cases a;rfl
theorem cJ.un2(e:cb y i b K [h,L]):∃a c,K=[a,c]/\bi y i b a h/\bi y i b c L:=by refine dd (λa l d f g=> ?_)<|e.un;obtain rfl:=d;refine dd (λc K d j k=> ?_)<|g.un;obtain rfl:=d;cases k.ze;exact⟨a,c,O,f,j⟩
theorem cJ.un3(f:cb y i b K [h,L,d2]):∃a c d,K=[a,c,d]/\bi y i b a h/\bi y i b c L/\bi y i b d d2:=by refine dd (λa m e g j=> ?_)<|f.un;obtain rfl:=e;refine dd (λc d e k l=> ?_)<|j.un2;obtain rfl:=e;exact⟨a,c,d,O,g,k,l⟩
theorem cJ.un4(f:cb y i b K [h,L,d2,k4]):∃a c d e,K=[a,c,d,e]/\bi y i b a h/\bi y i b c L/\bi y i b d d2/\bi y i b e k4:=by refine dd (λa o g j k=> ?_)<|f.un;obtain rfl:=g;refine nT (λc d e l m n=> ?_)<|k.un3;obtain rfl:=l;exact⟨a,c,d,e,O,j,m,n⟩
theorem eI.un1(a:eA y i b b5 [(g,h)]):∃c,b5=[(g,c)]/\bi y i b c h:=by
 revert y i b b5 g h a;apply U6;generalize P5 _=y,Q5 _=i,Q4 _=b5,Q3 _=g,Q2 _=h,Q1 _=b;intro a
 cases a with
 |cons d e=>cases e;exact⟨_,O,d⟩
theorem cJ.ind{M:M aa->M R->Prop}(a:cb y i b K q)(e:M [] [])(f:∀d c K q,bi y i b d c->cb y i b K q->M K q->M (d::K) (c::q)):M K q:=by
 revert K
 induction q with
 |nil=>intro K a;cases a;exact e
 |cons c q g=>intro K a;cases a with
  |cons h a=>exact f _ _ _ _ h a<|g a
theorem eI.ind{M:M (I×aa)->M (I×R)->Prop}(a:eA y i b b5 D)(f:M [] [])(g:∀d e c b5 D,bi y i b e c->eA y i b b5 D->M b5 D->M ((d,e)::b5) ((d,c)::D)):M b5 D:=by
 revert b5
 induction D with
 |nil=>intro b5 a;cases a;exact f
 |cons c D h=>intro b5 a;cases a with
  |cons j a=>exact g _ _ _ _ _ j a<|h a
theorem cJ.fix(a:M R)(d:M aa)(e:cb y i b d a):kK b a1 (R.flats a)->R.rens a1 a=Q a:= e.ind (M:=λ_ a=>kK b a1 (R.flats a)->R.rens a1 a=Q a) (λ_=>O) λ_ _ _ _ f _ g c=>by refine(?_:bL (R.ren a1 _) _=_);rw [f.fix c.and.1];refine(?_:eU _ (R.rens a1 _)=_);rw [g c.and.2];rfl
theorem eI.fix(a:M (I×R))(d:M (I×aa))(e:eA y i b d a):kK b a1 (R.flatd a)->R.rend a1 a=Q a:= e.ind (M:=λ_ a=>kK b a1 (R.flatd a)->R.rend a1 a=Q a) (λ_=>O) λ_ _ _ _ _ f _ g c=>by refine(?_:bL (R.ren a1 _) _=_);rw [f.fix c.and.1];refine(?_:eU _ (R.rend a1 _)=_);rw [g c.and.2];rfl
theorem cJ.go(f:lw y e2 i c0 b x a1)(d:M R)(e:M aa)(a:M R)(g:cb y i b e d):R.rens a1 d=Q a->cb e2 c0 x e a:= g.ind (M:=λe d=>∀a,R.rens a1 d=Q a->cb e2 c0 x e a) (λa c=>by(revert c;refine aL λh=> ?_;subst h);exact .nil) (λ_ _ _ _ j _ k a c=>by refine ac (λl m c=> ?_)<|nU c;exact gU c λo n=> .cons (j.go f l m)<|k _ n) a
theorem eI.go(f:lw y e2 i c0 b x a1)(d:M (I×R))(e:M (I×aa))(a:M (I×R))(g:eA y i b e d):R.rend a1 d=Q a->eA e2 c0 x e a:= g.ind (M:=λe d=>∀a,R.rend a1 d=Q a->eA e2 c0 x e a) (λa c=>by(revert c;refine aL λh=> ?_;subst h);exact .nil) (λ_ _ _ _ _ j _ k a c=>by refine ac (λl m c=> ?_)<|nU c;exact gU c λo n=> .cons (j.go f l m)<|k _ n) a
theorem cs.go(a:cs y e2 i c0 b x):lw y e2 i c0 b x λc=>Q (.loc c):=⟨λc g h d e=>(by(revert d;refine aL λf=> ?_;subst f);exact .loc<|a.m _ _ e),a.p,a.k⟩
theorem bi.car(c:cs y e2 i c0 b x)(a:bi y i b k h):bi e2 c0 x k h:=a.go c.go _<|a.fix (.inr λ_ _ _=>O)
theorem cJ.car(c:cs y e2 i c0 b x)(a:cb y i b K q):cb e2 c0 x K q:=a.go c.go _ _ _<|a.fix _ _ (.inr λ_ _ _=>O)
theorem eI.car(c:cs y e2 i c0 b x)(a:eA y i b b5 D):eA e2 c0 x b5 D:=a.go c.go _ _ _<|a.fix _ _ (.inr λ_ _ _=>O)
theorem Bp(d:∀a,y a->e2 a):lw y e2 i i b x λ_=>U:=⟨λ_ _ _ c _=>((by exact aU c)),λa _ e _=>d a e,λ_ _ _ c=>c⟩
theorem bi.cut(d:∀a,y a->e2 a)(c:bi y i b k h)(e:h.flat=X):bi e2 i x k h:=c.go (Bp d) _<|c.fix (.inl e)
theorem cJ.cut(d:∀a,y a->e2 a)(c:cb y i b K q)(e:R.flats q=X):cb e2 i x K q:=c.go (Bp d) _ _ _<|c.fix _ _ (.inl e)
theorem eI.cut(d:∀a,y a->e2 a)(c:eA y i b b5 D)(e:R.flatd D=X):eA e2 i x b5 D:=c.go (Bp d) _ _ _<|c.fix _ _ (.inl e)
theorem kX(c:Q j∈b.l):∃a:N,b.l[a]? =Q (Q j):=(by refine ay (λa d=> ?_)<|Eo c;exact⟨a,d⟩)
theorem iZ(c:b.l[a]? =Q (Q j)):Q j∈b.l:=jP c
theorem fO(c:b.l[a]? =Q (Q j)):a<b.l.length:=(fq.mp c).1
theorem aH.refl(b:ar)(c:al):aH b c b c:=⟨ba _,λ_ _=>O,λ_ _ d a=>bD (fO a)<|cq.mpr d,O,λ_ _ _ a=>a,λ_ a=>a,O,O,O⟩
theorem aH.nl(c:aH b e x S)(h:Q j∉b.l)(d:e.heap.get? j=Q g3):Q j∉x.l:=λi=>by
 refine ay (λa f=> ?_)<|kX i;by_cases g:a<b.l.length
 .exact h<|iZ ((c.pre a g).symm.trans f)
 .rw [c.new a j (cq.mp g) f] at d;exact aU d
theorem aH.fz(a:aH b e x S)(c:bh b j)(d:e.heap.get? j=Q g3):bh x j:=⟨a.nl c.1 d,λf=>c.2<|a.p▸f⟩
theorem aH.at{μ:ar}{b:ar}(d:aH μ e b S)(c:μ.l[a]? =Q (Q j)):b.l[a]? =Q (Q j):=(d.pre a<|fO c).trans c
theorem aH.trans(a:aH b e x S)(c:aH x S j3 e9):aH b e j3 e9 where
 le:=aK a.le c.le
 pre:=λd h=>(c.pre d<|ij h a.le).trans<|a.pre d h
 new:=λd i h f=>by
  by_cases k:d<x.l.length
  .exact a.new d i h<|(c.pre d k).symm.trans f
  .cases n:e.heap.get? i with
   |none=>rfl
   |some j=>refine ay (λo l=> ?_)<|a.live i ⟨j,n⟩;rw [c.new d i (cq.mp k) f] at l;exact aU l
 p:=c.p.trans a.p
 keep:=λg j m f=>c.keep g j (a.nl m f)<|a.keep g j m f
 live:=λg f=>c.live g<|a.live g f
 gens:=c.gens.trans a.gens
 drawn:=c.drawn.trans a.drawn
 os:=c.os.trans a.os
theorem aH.car(c:aH b e x S):cs (bh b) (bh x) e.heap S.heap b x:=⟨λ_ _ d a=>c.fz d a,λ_ _ d a=>c.keep _ _ d.1 a,λ_ _ a=>c.at a⟩
theorem aH.rel(a:aH b e x S)(c:aR e.heap b k h):aR S.heap x k h:=c.car a.car
theorem aH.rell(a:aH b e x S)(c:dN e.heap b K q):dN S.heap x K q:=c.car a.car
theorem aH.reld(a:aH b e x S)(c:iq e.heap b b5 D):iq S.heap x b5 D:=c.car a.car
theorem ew.car(c:cs (bh b) (bh x) i c0 b x)(g:∀f,i.get? j=Q f->c0.get? j=Q f)(d:ew i b j b9):ew c0 x j b9:=by
 cases b9 with
 |list m=>(revert d;refine ac λk a e=> ?_);exact⟨k,a.at g,e.car c⟩
 |dict Z m=>(revert d;refine ac λu a e=> ?_);exact⟨u,a.at' g,e.car c⟩
 |cell l=>cases l with
  |none=>obtain⟨f,n,e⟩:=(d:i.IsCell j .none);exact(⟨f,g _ n,e⟩:c0.IsCell j .none)
  |some l=>(revert d;refine ac λl v h=> ?_;refine ac (λf n e=> ?_)<|v);exact⟨l,⟨f,g _ n,e⟩,h.car c⟩
 |ns m=>(revert d;refine ac λd a h=> ?_);exact⟨d,a.at' g,λb9 w y=>(h b9 w y).imp λl i=>⟨i.1,i.2.car c⟩⟩
 |liter m=>(revert d;refine vt λz A k B p D q E=> ?_);exact⟨z,A,k,B.at g,c.p _ _ p q.choose_spec,D,q.at λf a=>c.k _ f p a,E.car c⟩
 |ctab h=>(revert d;refine dt λK a o h=> ?_);exact⟨K,g _ a,o,λL P S=>by refine dt (λT V r Y=> ?_)<|h L P S;refine yo (λa0 s k o a t e=> ?_)<|Y;cases a;exact⟨T,V,c.p _ s r t,_,s,k,o,O,c.k _ _ r t,e⟩⟩
 |any=>trivial
theorem am.next(k:am b c e)(f:aH b e x S)(s:x.l.length=V.length)
 (m:∀(a j:N) (d:ao),b.l.length<=a->x.l[a]? =Q (Q d)->x.l[j]? =Q (Q d)->a=j)
 (t:∀(a:N) (d:ao) (h:G),x.l[a]? =Q (Q d)->V[a]? =Q h->ew S.heap x d h)
 (u:∀(a:N) (d:ao),b.l.length<=a->x.l[a]? =Q (Q d)->∃h,S.heap.get? d=Q h) (v:0<S.toks):am x V S where
 tk:=v
 len:=s
 inj:=λa j d n o=>by
  by_cases g:a<b.l.length
  .by_cases l:j<b.l.length
   .exact k.inj a j d ((f.pre a g).symm.trans n)<|(f.pre j l).symm.trans o
   .exact(m j a d (cq.mp l) o n).symm
  .exact m a j d (cq.mp g) n o
 mo:=t
 base:=λp h i=>f.keep p h (λw=>by refine ay (λa m=> ?_)<|kX w;rw [k.out a p m] at i;exact aU i)<|k.base p h i
 out:=λa d i=>by
  by_cases g:a<b.l.length
  .exact k.out a d<|(f.pre a g).symm.trans i
  .cases y:bM.get? d with
   |none=>rfl
   |some z=>have:=k.base d z y;rw [f.new a d (cq.mp g) i] at this;exact aU this
 ex:=λa d i=>by
  by_cases g:a<b.l.length
  .exact f.live d<|k.ex a d ((f.pre a g).symm.trans i)
  .exact u a d (cq.mp g) i
 prv:=λd q=>by rw [f.p] at q;refine dH (λg l A=> ?_)<|k.prv d q;refine ay (λh r=> ?_)<|A;exact⟨g,f.nl l r,h,f.keep _ _ l r⟩
theorem aH.toks(b:ar)(c:al)(d:N):aH b c b {c with toks:=d}:=⟨ba _,λ_ _=>O,λ_ _ e a=>bD (fO a)<|cq.mpr e,O,λ_ _ _ a=>a,λ_ a=>a,O,O,O⟩
theorem am.toks(d:am b c e)(f:0<a):am b c {e with toks:=a}:=⟨d.len,d.inj,d.mo,d.base,d.out,d.ex,d.prv,f⟩
theorem aH.grow(f:∀g d,e.heap.get? g=Q d->i.get? g=Q d):aH b e b {e with heap:=i,toks:=a}:= ⟨ba _,λ_ _=>O,λ_ _ h c=>bD (fO c)<|cq.mpr h,O,λ_ _ _ c=>f _ _ c,λ_ j=>(by(revert j;refine ay λd c=> ?_);exact⟨d,f _ _ c⟩),O,O,O⟩
theorem am.grow(f:am b c e)(l:0<a)(g:∀j k,e.heap.get? j=Q k->i.get? j=Q k):
 am b c {e with heap:=i,toks:=a}:=
 f.next (aH.grow g) f.len (λ_ _ _ h d=>bD (fO d)<|cq.mpr h) (λm n _ d o=>(f.mo m n _ d o).car (aH.grow (a:=a) g).car λ_ p=>g _ _ p) (λ_ _ h d=>bD (fO d)<|cq.mpr h) l
theorem fD(a:aT)(b:a.objs.size<=j):a.get? j=U:=by
 cases c:a.get? j with
 |none=>rfl
 |some d=>exact bD (jt c)<|cq.mpr b
theorem am.fresh(g:am b c e)(h:e.heap.get? j=U):bh b j:=by
 refine⟨λd=> ?_,λd=> ?_⟩
 .refine ay (λi k=> ?_)<|kX d;refine ay (λf a=> ?_)<|g.ex i j k;rw [h] at a;exact aU a
 ·(refine dH (λf f l=> ?_)<|g.prv j d;refine ay (λf a=> ?_)<|l);rw [h] at a;exact aU a
theorem am.fresh0(d:am b c e)(a:e.heap.get? j=U):bM.get? j=U:=by
 cases f:bM.get? j with
 |none=>rfl
 |some g=>rw [d.base j g f] at a;exact rr a
theorem am.fz0(f:am b c e)(a:bM.get? j=Q g3):bh b j:=by
 refine⟨λd=> ?_,λd=> ?_⟩
 .refine ay (λg h=> ?_)<|kX d;rw [f.out g j h] at a;exact aU a
 .rw [(f.prv j d).1] at a;exact aU a
theorem iX{b:M E}{f e:E}(c:(b++ [f])[a]? =Q e):(a<b.length/\b[a]? =Q e)\/(a=b.length/\e=f):=by
 obtain d|d|d:=Nat.lt_trichotomy a b.length
 .exact .inl ⟨d,by rwa [jM d] at c⟩
 .subst d;right;simp at c;exact⟨O,c.symm⟩
 .rw [jo (by rw [bN,List.length_singleton];assumption)] at c;exact aU c
noncomputable def ar.add(a:ar)(b:ao):ar:=⟨a.l++ [Q b],a.p⟩
theorem ar.add_at(a:ar)(b:ao):(a.add b).l[a.l.length]? =Q (Q b):=by simp [ar.add]
theorem aH.led(h:e.heap.get? j=U)(g:∀d x,e.heap.get? d=Q x->i.get? d=Q x):
 aH b e (b.add j) {e with heap:=i,toks:=a}:=
 ⟨by simp [ar.add],λk f=>jM f,λk d f c=>by
  obtain⟨l,_⟩|⟨_,m⟩:=iX c
  .exact bD l<|cq.mpr f
  ·(revert m;refine aL λn=> ?_;subst n);exact h,O,λ_ _ _ c=>g _ _ c,λ_ o=>(by(revert o;refine ay λx c=> ?_);exact⟨x,g _ _ c⟩),O,O,O⟩
theorem am.led{x:G}(g:am b c e)(v:0<a)(s:e.heap.get? j=U)(t:∀h x,e.heap.get? h=Q x->i.get? h=Q x)
 (w:ew i (b.add j) j x) (y:∃o,i.get? j=Q o):am (b.add j) (c++ [x]) {e with heap:=i,toks:=a}:=by
 have u:aH b e (b.add j) {e with heap:=i,toks:=a}:=aH.led s t
 refine g.next u (by simp [g.len,ar.add]) (λp B h q r n=> ?_) (λp h o r n=> ?_) (λp h q z=> ?_) v
 .obtain⟨d,_⟩|⟨d,f⟩:=iX r
  .exact bD d<|cq.mpr q
  ·(revert f;refine aL λl=> ?_;subst l)
   obtain⟨_,m⟩|⟨k,_⟩:=iX n
   .exact bD (iZ m) (g.fresh s).1
   .exact d.trans k.symm
 .obtain⟨d,f⟩|⟨d,f⟩:=iX r
  .obtain⟨_,m⟩|⟨k,_⟩:=iX n
   .exact(g.mo p h o f m).car u.car λ_ A=>t _ _ A
   .rw [g.len] at d;exact bD d<|by exact cp (.p 1 (C+1) J<|.f 1 C J .z) (aN _ _) O d k
  ·(revert f;refine aL λl=> ?_;subst l)
   obtain⟨k,_⟩|⟨_,m⟩:=iX n
   .rw [g.len] at d;exact bD k<|by exact cp (.f 1 C J<|.p 1 (C+1) J .z) (aN _ _) O d k
   .subst m;exact w
 .obtain⟨d,_⟩|⟨_,f⟩:=iX z
  .exact bD d<|cq.mpr q
  ·(revert f;refine aL λl=> ?_;subst l);exact y
theorem aH.upd{n:N}{h:N}(f:b.l[h]? =Q (Q j))(g:∀a x,a≠j->e.heap.get? a=Q x->i.get? a=Q x)
 (k:∃l,i.get? j=Q l):aH b e b {e with heap:=i,toks:=n}:=
 ⟨ba _,λ_ _=>O,λ_ _ f c=>bD (fO c)<|cq.mpr f,O,λa _ d c=>g _ _ (λm=>d<|m▸iZ f) c,λa o=>by
  revert o;refine ay λx c=> ?_;by_cases d:a=j
  .subst d;exact k
  .exact⟨x,g _ _ d c⟩,O,O,O⟩
theorem am.upd{n:N}{g:N}{x:G}(h:am b c e)(s:0<n)(a:b.l[g]? =Q (Q j))(q:∀f x,f≠j->e.heap.get? f=Q x->i.get? f=Q x)
 (t:ew i b j x) (u:∃l,i.get? j=Q l):am b (c.set g x) {e with heap:=i,toks:=n}:=by
 have r:aH b e b {e with heap:=i,toks:=n}:=aH.upd a q u
 refine h.next r (by simp [h.len]) (λ_ _ _ a m=>bD (fO m)<|cq.mpr a) (λo f l k d=> ?_) (λ_ _ a m=>bD (fO m)<|cq.mpr a) s
 rw [MZ] at d
 by_cases p:g=o
 .subst p
  rw [a] at k;cases k
  rw [bK O] at d
  split at d
  ·(revert d;refine aL λv=> ?_;subst v);exact t
  .exact aU d
 .rw [bF p] at d;exact(h.mo o f l k d).car r.car λ_ w=>q _ _ (λy=>p<|h.inj g o j a (y▸k)) w
noncomputable def ar.hide(a:ar)(b:M ao):ar:=⟨a.l,b++a.p⟩
theorem cs.hide(h:∀c∈d9,i.get? c=U)(j:∀f d,i.get? f=Q d->c0.get? f=Q d):cs (bh b) (bh<|b.hide d9) i c0 b (b.hide d9):=
 ⟨λc d g a=>⟨g.1,λe=>by
  obtain e|e:=dQ.mp e
  .rw [h c e] at a;exact aU a
  .exact g.2 e⟩,λc d _ a=>j c d a,λ_ _ a=>a⟩
theorem am.hide{n:N}(g:am b c e)(o:0<n)(k:∀a∈d9,e.heap.get? a=U)(h:∀j f,e.heap.get? j=Q f->i.get? j=Q f)
 (p:∀a∈d9,∃q,i.get? a=Q q):am (b.hide d9) c {e with heap:=i,toks:=n}:=
 ⟨g.len,g.inj,λl a f r s=>(g.mo l a f r s).car (cs.hide k h) λ_ d=>h _ _ d,λj f m=>h _ _<|g.base j f m,g.out,λl a m=>(by refine ay (λf d=> ?_)<|g.ex l a m;exact⟨f,h _ _ d⟩),λa d=>by
  obtain d|d:=dQ.mp d
  .exact⟨g.fresh0<|k a d,(g.fresh<|k a d).1,p a d⟩
  ·(refine dH (λt u v=> ?_)<|g.prv a d;refine ay (λf w=> ?_)<|v);exact⟨t,u,f,h _ _ w⟩,o⟩
theorem cs.prv(f:∀c a,c∉b.p->i.get? c=Q a->c0.get? c=Q a):cs (bh b) (bh b) i c0 b b:=⟨λ_ _ d _=>d,λg a d e=>f g a d.2 e,λ_ _ e=>e⟩
theorem am.prvs{h':aT}{n:N}(f:am b c e)(o:0<n)(k:∀g h,g∉b.p->e.heap.get? g=Q h->h'.get? g=Q h)(p:∀g∈b.p,∃q,h'.get? g=Q q):
 am b c {e with heap:=h',toks:=n}:=
 have l:∀(i:N) (a:ao),b.l[i]? =Q (Q a)->a∉b.p:=λi a j d=>(f.prv a d).2.1<|iZ j
 ⟨f.len,f.inj,λi a h m r=>(f.mo i a h m r).car (cs.prv k) λ_ d=>k _ _ (l i a m) d,λg h j=>k _ _ (λd=>by rw [(f.prv g d).1] at j;exact aU j)<|f.base g h j,f.out, λi a j=>(by refine ay (λh d=> ?_)<|f.ex i a j;exact⟨h,k _ _ (l i a j) d⟩),λa d=>⟨(f.prv a d).1,(f.prv a d).2.1,p a d⟩,o⟩
theorem am.unhide(a:am b c e)(h:∀d∈d9,d∈b.p):am ⟨b.l,d9⟩ c e:=
 have i:cs (bh b) (bh ⟨b.l,d9⟩) e.heap e.heap b ⟨b.l,d9⟩:=⟨λ_ _ f _=>⟨f.1,λj=>f.2<|h _ j⟩,λ_ _ _ g=>g,λ_ _ g=>g⟩
 ⟨a.len,a.inj,λk d l m n=>(a.mo k d l m n).car i λ_ f=>f,a.base,a.out,a.ex,λd f=>a.prv d<|h d f,a.tk⟩
inductive bg(e:ar)(f:al)(g:R->M G->Prop)(h:aa)(a:al):Prop
 |mk (b:ar) (c:M G) (d:R) (i:aH e f b a) (j:am b c a) (k:aR a.heap b h d) (l:g d c)
inductive qr(e:ar)(f:al)(g:M R->M G->Prop)(h:M aa)(a:al):Prop
 |mk (b:ar) (c:M G) (d:M R) (i:aH e f b a) (j:am b c a) (k:dN a.heap b h d) (l:g d c)
inductive fy{a:Type}(e:ar)(f:al)(g:a->M G->Prop)(h:a)(b:al):Prop
 |mk (c:ar) (d:M G) (i:aH e f c b) (j:am c d b) (k:g h d)
theorem bg.of(d:am b c e)(f:0<a)(g:aR e.heap b k h)(i:k5 h c):bg b e k5 k {e with toks:=a}:= ⟨b,c,h,aH.toks b e a,d.toks f,g,i⟩
theorem bg.here(a:am b c e)(d:aR e.heap b k h)(f:k5 h c):bg b e k5 k e:= ⟨b,c,h,aH.refl b e,a,d,f⟩
theorem bg.trans(a:aH b e x S)(c:bg x S k5 k e9):bg b e k5 k e9:= (by obtain⟨d,f,g,h,i,j,l⟩:=c;exact⟨d,f,g,a.trans h,i,j,l⟩)
theorem qr.trans(a:aH b e x S)(c:qr x S h6 K e9):qr b e h6 K e9:= (by obtain⟨d,f,g,h,i,j,k⟩:=c;exact⟨d,f,g,a.trans h,i,j,k⟩)
theorem fy.trans{a:E->M G->Prop}{c:E}(d:aH b e x S)(f:fy x S a c e9):fy b e a c e9:= (by obtain⟨g,h,i,j,k⟩:=f;exact⟨g,h,d.trans i,j,k⟩)
abbrev aB:aa->al->Prop:=λ_ _=>cn
theorem dC{b:cC E}{c:E->al->Prop}(g:0<e.toks)(h:an f8 f b (λi d=>0<d.toks->c i d) aB e):an f8 f b c aB e:= eO (wpAny_toks_of (n:=1) g h) (λ_ _ a=>a.2 a.1) λ_ _ a=>a.2
theorem bQ{a:cC E}{b c:E->al->Prop}(h:an f8 f a b aB e)(i:∀d g,b d g->c d g):an f8 f a c a6 e:= eO h i λ_ _ j=>j.elim
theorem kS(b:a<d):(a+d)/2<d:=NB<|by rw [Nat.two_mul];exact Nat.add_lt_add_right b d
theorem pn(b:a<=d):a<=(a+d)/2:=(Nat.le_div_iff_mul_le Nat.two_pos).mpr<|by rw [Nat.mul_two];exact kB b a
theorem sM(b:a<=d)(c:d - a<=t+1):d - ((a+d)/2+1)<=t:=wy.mpr<|aK (wy.mp c) (by rw [fg,<-lz];exact fi<|kB (pn b) t)
theorem sL(b:a<d)(c:d - a<=t+1):(a+d)/2 - a<=t:=wy.mpr<|wo (ij (kS b)<|aK (wy.mp c) (dM<|fg t 1 a))
abbrev aQ:=R->M G->Prop
variable{s i8:aQ}
inductive aY where
 |next
 |brk
 |cont
 |ret (a:R)
variable{Z:aY->M G->Prop}
instance:fx aY:=⟨.next⟩
noncomputable def aY.ctorIdx(a:aY):N:=aY.casesOn a 0 1 2 λ_=>3
structure bf where
 scope:dJ
 ns:N
 cells:M (I×N)
 qual:I
 ct:ag N
variable{o:bf}
instance:fx bf:=⟨by constructor<;>first|exact kv|exact Classical.choice inferInstance|exact λ_ _ _ _=>True⟩
def cm{b:Type}(a:ag b)(c:b->Prop):Prop:=match a with
 |some d=>c d
 |none=>cn
theorem be{a:ag E}{b:E}{c:E->Prop}(d:a=Q b)(e:c b):cm a c:=by subst d;exact e
theorem cF{b:ag E}{c:E->Prop}(d:cm b c):∃a,b=Q a/\c a:=by cases b with
 |none=>exact d.elim
 |some a=>exact⟨a,O,d⟩
def eQ(a:ah)(b c:Prop):Prop:=match a with
 |true=>b
 |false=>c
def bW(a:ah)(b:Prop):Prop:=eQ a b cn
theorem qJ{c:Prop}{d:Prop}(a:n=X)(b:c):eQ n c d:=by subst a;exact b
theorem Gl{d:Prop}{c:Prop}(a:n=ai)(b:c):eQ n d c:=by subst a;exact b
theorem fc{b:Prop}{d:Prop}(a:n=X->b)(c:n=ai->d):eQ n b d:=by cases n with
 |true=>exact a O
 |false=>exact c O
theorem nH{a:Prop}{d:Prop}{f:Prop} [zk a](c:a->d)(e:¬a->f):eQ (aI a) d f:=fc (λb=>c<|hW b) λb=>e<|Xx b
theorem sA{c:Prop}(a:n=X)(b:c):bW n c:=by subst a;exact b
theorem Bh{a:Prop}{d:Prop} [zk a](b:a)(c:d):bW (aI a) d:=sA (ck b) c
theorem cz{b:Prop}(a:bW n b):n=X/\b:=by cases n with
 |true=>exact⟨O,a⟩
 |false=>exact a.elim
theorem kQ{a:Prop}{c:Prop} [zk a](b:bW (aI a) c):a/\c:=⟨hW (cz b).1,(cz b).2⟩
theorem uJ{a:Prop}(b:aI (2<=a5/\a5<16)=X)(c:0<=g1)(d:g1.toNat<=200)(e:a):bW (aI (2<=a5/\a5<16)&&aI (0<=g1)&&aI (g1.toNat<=200)) a:=by rw [b,ck c,ck d];exact e
noncomputable def G.ren(a:N->ag R):G->ag G
 | .list b=>(R.rens a b).map .list
 | .dict d b=>(R.rend a b).map<|.dict d
 | .cell c=>(match c with
  |some c=>(R.ren a c).map λe=> .cell<|Q e
  |none=>Q<|.cell U)
 | .ns f=>(R.rend a f).map .ns
 | .liter b=>(R.rens a b).map .liter
 |c=>Q c
noncomputable def cM(b a:N):ag R:=bif aI (a<b) then Q (.loc a) else U
mutual
noncomputable def R.data:R->ag mx
 | .none=>Q .none
 | .bool b=>Q<|.bool b
 | .int c=>Q<|.int c
 | .str d=>Q<|.str d
 | .tup a=>(R.datas a).map .tuple
 | .lst a=>(R.datas a).map .list
 |_=>U
noncomputable def R.datas:M R->ag (M mx)
 |[]=>Q []
 |a::b=>bL (R.data a) λc=>(R.datas b).map (c:: ·)
end
def gJ(a:R)(b:I->Prop):Prop:=match a with
 | .str c=>b c
 |_=>cn
def kT(a:R)(b:H->Prop):Prop:=match a with
 | .int c=>b c
 |_=>cn
def Gk(a:R)(b:ah->Prop):Prop:=match a with
 | .bool c=>b c
 |_=>cn
def pz(a:R)(b:M R->Prop):Prop:=match a with
 | .lst c=>b c
 |_=>cn
def qW(a:R)(b:N->Prop):Prop:=match a with
 | .loc c=>b c
 |_=>cn
def yd(a:M G)(b:N)(c:M R->Prop):Prop:=cm a[b]? λd=>match d with
 | .list e=>c e
 |_=>cn
def Bx(a:M G)(b:N)(c:M (I×R)->Prop):Prop:=cm a[b]? λd=>match d with
 | .dict _ e=>c e
 |_=>cn
def oX(a:M R)(b:R->Prop):Prop:=match a with
 |[]=>cn
 |c::d=>bW d.isEmpty<|b c
def nF(a:M R)(b:R->R->Prop):Prop:=match a with
 |[]=>cn
 |c::d=>oX d<|b c
def uB(a:M R)(b:R->R->R->Prop):Prop:=match a with
 |[]=>cn
 |c::d=>nF d<|b c
def FO(a:M R)(b:R->R->R->R->Prop):Prop:=match a with
 |[]=>cn
 |c::d=>uB d<|b c
noncomputable def vF:G->ag (M R)
 | .list a=>Q a
 |_=>U
noncomputable def GJ:G->ag (M<|I×R)
 | .dict _ a=>Q a
 |_=>U
noncomputable def lf(b:M G):R->ag (M R)
 | .lst a=>Q a
 | .tup a=>Q a
 | .loc c=>bL b[c]? vF
 |_=>U
noncomputable def Cr(a:M G):R->ag (M R)
 | .lst b=>Q b
 | .loc c=>bL a[c]? vF
 |_=>U
noncomputable def xq(a:M G):R->ag (M<|I×R)
 | .dct b=>Q b
 | .loc c=>bL a[c]? GJ
 |_=>U
noncomputable def uM(a:M G):R->ag mx
 | .loc b=>bL a[b]? λc=>bL (vF c) λd=>(R.datas d).map .list
 |e=>R.data e
noncomputable def nN:M R->ag (M H)
 |[]=>Q []
 |a::b=>(match a with
  | .int c=>(nN b).map (c:: ·)
  |_=>U)
noncomputable def mg:M R->ag (M I)
 |[]=>Q []
 |a::b=>(match a with
  | .str c=>(mg b).map (c:: ·)
  |_=>U)
noncomputable def lT(a:M R)(b:H):ag R:=(qB b a.length).bind λc=>a[c]?
abbrev eg:=ag<|N×G
variable{l2:M R->eg->ah->M G->Prop}{e1:eg}
def gk(b:eg)(c:M G):Prop:=∀a,b=Q a->c[a.1]? =Q a.2
noncomputable def Io(a:N):G->ag (M R×eg)
 | .list b=>Q (b,Q (a,.list b))
 | .dict d c=>Q (c.map λe=> .str e.1,Q (a,.dict d c))
 |_=>U
noncomputable def xR(d:M G):R->ag (M R×eg)
 | .lst a=>Q (a,U)
 | .tup a=>Q (a,U)
 | .str e=>Q (e.cps.toList.map λf=> .str ⟨#[f]⟩,U)
 | .rng b g=>Q ((dR (g - b).toNat).map λ(h:N)=> .int<|b+h,U)
 | .loc c=>bL d[c]?<|Io c
 |_=>U
noncomputable def dW(a:M R):M R:=a.mapIdx λb c=> .tup [.int (b:N),c]
noncomputable def jg(a b:M R):M R:=List.zipWith (λc d=> .tup [c,d]) a b
def pO(c:R)(a:ah->Prop):Prop:=match c with
 | .bool d=>a d
 | .int e=>a<|e !=0
 | .none=>a ai
 | .str b=>b.length<=1048576/\a (b.length !=0)
 |_=>cn
noncomputable def Cy:R->ag ah
 | .none=>Q X
 | .raw a=>(match a with
  | .ref _=>Q ai
  |_=>U)
 | .blt _=>U
 |_=>Q ai
noncomputable def vg(a b:R):ag ah:=match b with
 | .none=>Cy a
 | .bool c=>(match a with
  | .bool d=>Q<|d==c
  |_=>U)
 |_=>U
def Br(a:M G)(d e:R)(f:ah->Prop):Prop:=cm (uM a d) λb=>cm (uM a e) λc=>(ip b=X/\ip c=X)/\f (my b c)
def xy(a b:R)(f:M G)(c:ah->Prop):Prop:=match a with
 | .int d=>kT b λe=>c<|d==e
 | .str d=>gJ b λe=>c<|aI (d=e)
 |a=>Br f a b c
def Jg(e c:R)(d:ah->Prop):Prop:=match e with
 | .int a=>kT c λb=>d<|aI (a<b)
 | .str a=>gJ c λb=>d<|aI (a.cps.toList<b.cps.toList)
 | .bool a=>Gk c λb=>d<|!a&&b
 |_=>cn
def rg(a b:R)(c:H->H->Prop):Prop:=kT a λd=>kT b<|c d
def TM(b:R)(f:G)(c:ah->Prop):Prop:=match f with
 | .dict _ a=>gJ b λg=>c (a.lookup g).isSome
 | .list a=>cm (R.data b) λd=>cm (R.datas a) λe=>(ip d=X/\ip (.list e)=X)/\c (e.any λh=>my h d)
 |_=>cn
def xK(a d:R)(e:M G)(b:ah->Prop):Prop:=match d with
 | .str c=>gJ a λf=>b<|!(fj c f 0 c.length 1).isEmpty
 | .loc g=>cm e[g]? λh=>TM a h b
 |_=>cn
def lP(h:lD)(a b:R)(g:M G)(c:ah->Prop):Prop:=match h with
 | .Lt=>Jg a b c
 | .LtE=>rg a b λd e=>c<|aI (d<=e)
 | .Gt=>rg a b λd e=>c<|aI (d>e)
 | .GtE=>rg a b λd e=>c<|aI (d>=e)
 | .Eq=>xy a b g c
 | .NotEq=>xy a b g λf=>c !f
 | .Is=>cm (vg a b) c
 | .IsNot=>cm (vg a b) λf=>c !f
 | .In=>xK a b g c
 | .NotIn=>xK a b g λf=>c !f
def xd(e:kE)(b a:H)(c:M G)(d:aQ):Prop:=match e with
 | .Add=>d (.int<|b+a) c
 | .Sub=>d (.int<|b - a) c
 | .Mult=>bW (aI (a.natAbs<18446744073709551616)||decide (b.natAbs<18446744073709551616))<|d (.int<|b*a) c
 | .FloorDiv=>bW (aI (a≠0)&&aI (a.natAbs<1073741824))<|d (.int<|b.fdiv a) c
 | .Mod=>bW (aI<|a≠0)<|d (.int<|b.fmod a) c
 | .Pow=>bW (aI (2<=b/\b<16)&&aI (0<=a)&&aI (a.toNat<=200))<|d (.int<|b^a.toNat) c
 | .LShift=>bW (aI<|0<=a/\a<=64)<|b.natAbs<18446744073709551616/\d (.int<|b*2^a.toNat) c
 | .RShift=>bW (aI<|0<=a)<|d (.int<|b.fdiv (2^a.toNat)) c
 | .BitAnd=>d (.int<|nn b a) c
 | .BitOr=>d (.int<|EX b a) c
 |_=>cn
noncomputable def BU:kE->ah
 | .Add=>X
 |_=>ai
noncomputable def Ii:kE->ah
 | .Mult=>X
 |_=>ai
def AW(c:kE)(h d:R)(e:M G)(f:aQ):Prop:=match h with
 | .int a=>kT d λb=>xd c a b e f
 | .str a=>bW (BU c)<|gJ d λb=>a.length+b.length<=1048576/\f (.str<|a++b) e
 | .lst a=>eQ (BU c) (pz d λb=>a.length+b.length<=1048576/\f (.lst<|a++b) e)<|bW (Ii c)<|kT d λg=>(0<=g/\g<1048577/\a.length*g.toNat<=1048576)/\f (.lst<|(cP g.toNat a).flatten) e
 |_=>cn
noncomputable def gd(a:M R)(b c d:ag H):M R:= (nB (lG b c d a.length).1 (lG b c d a.length).2.1 (lG b c d a.length).2.2).filterMap (a[·]?)
noncomputable def yq:R->ag (ag H)
 | .none=>Q U
 | .int a=>Q<|Q a
 |_=>U
def Dk(d b c a:R)(e:M G)(f:aQ):Prop:=
 cm (yq b) λb=>cm (yq c) λc=>cm (yq a) λa=>match d with
  | .str g=>bW a.isNone<|g.length<=1048576/\f (.str<|fV g b c) e
  |d=>bW (a !=Q 0)<|cm (Cr e d) λh=>h.length<=1048576/\f (.lst<|gd h b c a) e
def vh(a:R)(c:H)(b:M G)(d:aQ):Prop:=match a with
 | .str f=>cm (Ff f c) λg=>d (.str ⟨#[g]⟩) b
 |a=>cm (lf b a) λe=>bW (aI<|e.length<4611686018427387904)<|cm (lT e c) λh=>d h b
def xP(c a:R)(b:M G)(d:aQ):Prop:=match a with
 | .str e=>cm (xq b c) λf=>cm (f.lookup e) λg=>d g b
 | .int a=>bW (aI<|a.natAbs<9223372036854775808)<|vh c a b d
 |_=>cn
noncomputable def gK(e:M (I×R))(a:I)(b:R):M (I×R):=match e with
 |[]=> [(a,b)]
 |c::d=>bif aI (c.1=a) then(c.1,b)::d else c::gK d a b
def KL(d e f:R)(a:M G)(g:M G->Prop):Prop:=qW d λb=>gJ e λh=>Bx a b λc=>c.length<1048576/\∀i,g (a.set b<|.dict i (gK c h f))
def Bw(f g:R)(b:M G)(d:M G->Prop):Prop:=qW f λc=>kT g λe=>yd b c λa=>(a≠[]/\a.length<=1048576)/\ eQ (e==0) (d<|b.set c (.list a.tail)) (bW (e== -1)<|d (b.set c<|.list a.dropLast))
noncomputable def aD6(a:M (I×R))(b:I)(c:R):M (I×R):=gK a b c
noncomputable def Gu:G->ag R
 | .cell a=>a
 |_=>U
noncomputable def yi:G->ag (M<|I×R)
 | .ns a=>Q a
 |_=>U
noncomputable def Ig:G->ag ek
 | .cell _=>Q ()
 |_=>U
noncomputable def Be(a:M G)(b:M (I×N))(c:I):ag R:=bL (b.lookup c) λd=>bL a[d]? Gu
noncomputable def mO(d:I->ag R)(b:bf)(c:M G)(a:I):ag R:=bL (b.scope.names.lookup a) λe=>match e with
 | .local =>bL c[b.ns]? λf=>bL (yi f) λg=>g.lookup a
 | .cell=>Be c b.cells a
 | .free=>Be c b.cells a
 | .globalImplicit=>d a
 |_=>U
noncomputable def mT(a:bf)(b:M G)(c:I)(e:R):ag (M G):=bL (a.scope.names.lookup c) λg=>match g with
 | .local =>bL b[a.ns]? λd=>bL (yi d) λh=>Q<|b.set a.ns (.ns<|gK h c e)
 | .cell=>bL (a.cells.lookup c) λf=>bL b[f]? λd=>bL (Ig d) λ_=>Q<|b.set f (.cell<|Q e)
 |_=>U
noncomputable def DB:aC->ag I
 | .Name a _=>Q a
 |_=>U
def qH(d:bf):M aC->M R->M G->(M G->Prop)->Prop
 |[],a,b,c=>bW a.isEmpty<|c b
 |e::f,a,b,c=>cm (DB e) λg=>(match a with
  |[]=>cn
  |h::a=>cm (mT d b g h) λi=>qH d f a i c)
def xc(d:bf):M I->M R->M G->(M G->Prop)->Prop
 |[],a,b,c=>bW a.isEmpty<|c b
 |e::f,a,b,c=>(match a with
  |[]=>cn
  |g::a=>cm (mT d b e g) λh=>xc d f a h c)
noncomputable def IZ:G->ag N
 | .list a=>Q a.length
 | .dict _ a=>Q a.length
 |_=>U
noncomputable def Cq(a:M G):R->ag N
 | .str b=>Q b.length
 | .loc c=>bL a[c]? IZ
 | .lst d=>Q d.length
 |_=>U
def yM(a:M H):Prop:=∀b,b<=a.length-> -(2^62)<=(a.take b).sum/\(a.take b).sum<2^62
noncomputable def ph(a b:I)(c d:N):H:=match fj a b c d 1 with
 |e::_=>(e:H)
 |[]=> -1
def FW(f:R)(b:M G)(d:aQ):Prop:=match f with
 | .rng a c=>((c - a).toNat<=1048576/\ -4611686018427387904<=a/\a<4611686018427387904/\ -4611686018427387904<=c/\c<4611686018427387904)/\d (.loc b.length) (b++ [.list ((dR (c - a).toNat).map λ(g:N)=> .int<|a+g)])
 | .lst e=>e.length<=1048576/\d (.loc b.length) (b++ [.list e])
 |_=>cn
def FX(b:M G)(c:N)(d:aQ)(e:G):Prop:=match e with
 | .liter a=>(match a with
  |[]=>cn
  |f::a=>d f<|b.set c (.liter a))
 |_=>cn
def AU(k:B)(g:M R)(a:M G)(e:aQ):Prop:=match k with
 | .len=>oX g λc=>cm (Cq a c) λl=>l<4611686018427387904/\e (.int l) a
 | .sum=>oX g λc=>pz c λd=>cm (nN d) λq=>yM q/\e (.int q.sum) a
 | .max=>nF g λp k=>rg p k λp k=>e (.int<|if k>p then k else p) a
 | .range=>oX g λc=>kT c λl=>(-4611686018427387904<=l/\l<4611686018427387904)/\e (.rng 0 l) a
 | .list=>oX g λc=>FW c a e
 | .iter=>oX g λc=>pz c λd=>e (.loc a.length)<|a++ [.liter d]
 | .next=>oX g λc=>qW c λi=>cm a[i]?<|FX a i e
 | .lAppend=>nF g λj c=>qW j λi=>yd a i λd=>d.length<1048576/\e .none (a.set i<|.list (d++ [c]))
 | .lInsert=>uB g λj h c=>qW j λi=>kT h λh=>yd a i λd=>(0<=h/\h<=(d.length:N)/\d.length<1048576)/\e .none (a.set i<|.list (d.insertIdx h.toNat c))
 | .lIndex=>nF g λj b=>pz j λd=>gJ b λb=>cm (mg d) λm=>(b∈m/\m.length<1048576)/\e (.int (m.idxOf b:N)) a
 | .sSplit=>nF g λb f=>gJ b λb=>gJ f λf=>(f.length≠0/\b.length<=1048576)/\e (.loc a.length) (a++ [.list ((hI b f).map .str)])
 | .sJoin=>nF g λb f=>gJ b λr=>pz f λd=>cm (mg d) λm=>m.foldl (· + ·.length+r.length) 0<=1048576/\e (.str<|oG r m) a
 | .sStarts=>nF g λb f=>gJ b λb=>gJ f λf=>e (.bool<|qt b f) a
 | .sEnds=>nF g λb f=>gJ b λb=>gJ f λf=>e (.bool<|qs b f) a
 | .sFind=>FO g λb f n o=>gJ b λb=>gJ f λf=>rg n o λn o=>(0<=n/\0<=o/\n<=b.length/\o<=b.length)/\e (.int<|ph b f n.toNat o.toNat) a
 | .dGet=>uB g λj h c=>gJ h λh=>cm (xq a j) λd=>e ((d.lookup h).getD c) a
 | .dSetdef=>uB g λj h c=>qW j λi=>gJ h λh=>Bx a i λd=>d.length<1048576/\(match d.lookup h with
  |some s=>e s a
  |none=>∀t,e c (a.set i<|.dict t (d++ [(h,c)])))
 |_=>cn
noncomputable def vG:M (I×B):=[("split",.sSplit),("join",.sJoin),("startswith",.sStarts),("endswith",.sEnds),("find",.sFind)]
noncomputable def sU:M (I×B):=[("append",.lAppend),("insert",.lInsert),("index",.lIndex)]
noncomputable def sD:M (I×B):=[("get",.dGet),("setdefault",.dSetdef)]
noncomputable def WL:G->ag (M<|I×B)
 | .list _=>Q sU
 | .dict _ _=>Q sD
 |_=>U
noncomputable def WM(a:M G)(b:R):ag (M<|I×B):=match b with
 | .str _=>Q vG
 | .lst _=>Q sU
 | .dct _=>Q sD
 | .loc c=>bL a[c]? WL
 |_=>U
noncomputable def Jm(a:M G)(b:R)(c:I):ag B:=bL (WM a b) λd=>d.lookup c
structure bG where
 E:aC->bf->M G->aQ->Prop
 T:aC->bf->M G->(ah->M G->Prop)->Prop
 S:cD->bf->M G->(aY->M G->Prop)->Prop
variable{u:bG}
instance:fx bG:=⟨by constructor<;>first|exact kv|exact Classical.choice inferInstance|exact λ_ _ _ _=>True⟩
abbrev gx:=R->M R->M (I×R)->M G->aQ->Prop
variable{e6:gx}
instance:fx gx:=⟨λ_ _ _ _ _=>kc⟩
def gD(b:N)(d e:M G):Prop:=∀a c,b<=a.l.length->am a d c->am ⟨a.l.take b,a.p⟩ e c
noncomputable def gn(a:dJ):bH:={scope:=a,locals:=0,globals:=0,cells:=[]}
def kt(d:bG):M aC->M R->bf->M G->(M R->M G->Prop)->Prop
 |[],a,_,b,c=>c a b
 |f::g,a,e,b,c=>d.E f e b λh i=>kt d g (a++ [h]) e i c
def DI(d:bG):M oI->M (I×R)->bf->M G->(M (I×R)->M G->Prop)->Prop
 |[],a,_,b,c=>c a b
 |e::g,a,f,b,c=>cm e.arg λh=>d.E e.value f b λi j=>DI d g (a++ [(h,i)]) f j c
def md(d:bf->M G->(aY->M G->Prop)->Prop)(e:bf)(b:aY->M G->Prop)(a:aY)(c:M G):Prop:=match a with
 | .next=>d e c b
 |a=>b a c
def bz(c:bG):M cD->bf->M G->(aY->M G->Prop)->Prop
 |[],_,a,b=>b .next a
 |e::f,d,a,b=>c.S e d a<|md (bz c f) d b
noncomputable def ve(b:ui)(a:ah):ah:=match b with
 | .And=>a
 | .Or=> !a
def uE(a:bG)(d:ui):M aC->bf->M G->aQ->Prop
 |[],_,_,_=>cn
 |e::f,b,g,c=>(match f with
  |[]=>a.E e b g c
  |_::_=>a.E e b g λh i=>pO h λj=>eQ (ve d j) (uE a d f b i c)<|c h i)
noncomputable def Ib:ui->ah
 | .And=>X
 | .Or=>ai
def AQ(d:bG)(a:ui):M aC->bf->M G->(ah->M G->Prop)->Prop
 |[],_,c,b=>b (Ib a) c
 |g::h,e,c,b=>d.T g e c λi f=>eQ (ve a i) (AQ d a h e f b)<|b (!Ib a) f
noncomputable def Cm:M oI->ah
 |[]=>X
 |a::b=>a.arg.isSome&&Cm b
noncomputable def fQ:aC->ah
 | .Set .. =>ai
 | .Starred .. =>ai
 |_=>X
def lO(f:bG):R->M lD->M aC->bf->M G->(ah->M G->Prop)->Prop
 |g,[],a,d,h,b=>cn
 |g,k::e,a,d,h,b=>(match a with
  |[]=>cn
  |l::a=>bW (a.isEmpty==e.isEmpty)<|f.E l d h λi c=>lP k g i c λj=>(match e with
   |[]=>b j c
   |_::_=>eQ j (lO f i e a d c b)<|b ai c))
def DA(c:bG):M aC->bf->M G->(ah->M G->Prop)->Prop
 |[],_,b,a=>a X b
 |f::g,d,b,a=>c.T f d b λh e=>eQ h (DA c g d e a)<|a ai e
def Im(d:R)(a:Prop):Prop:=match d with
 | .rng b c=>(-4611686018427387904<=b/\b<4611686018427387904/\ -4611686018427387904<=c/\c<4611686018427387904)/\a
 |_=>a
noncomputable def Bz:R->ah
 | .rng _ _=>ai
 |_=>X
noncomputable def mh:ah->aC->ah
 |false,.Name _ _=>X
 |true,.Tuple _ _ _=>X
 |_,_=>ai
noncomputable def Ic(a:ag R):ag B:=bL a λb=>match b with
 | .blt a=>Q a
 |_=>U
inductive iu where
 |enum (a:aC)
 |zip (a b:aC)
 |plain
instance:fx iu:=⟨.plain⟩
noncomputable def iu.ctorIdx(a:iu):N:=iu.casesOn a (λ_=>0) (λ_ _=>1) 2
noncomputable def kU(b:B)(a:ag B):ah:=match a with
 |some a=>cU a.ctorIdx b.ctorIdx
 |none=>ai
noncomputable def DM(b:ag B)(d:M aC):M oI->iu
 |[]=>(match d with
  |[]=> .plain
  |c::a=>(match a with
   |[]=>bif kU .enumerate b then .enum c else .plain
   |e::a=>(match a with
    |[]=>bif kU .zip b then .zip c e else .plain
    |_::_=> .plain)))
 |_::_=> .plain
noncomputable def tH(b:bf)(c:M G):aC->iu
 | .Call a d e _=>(match a with
  | .Name a _=>DM (Ic<|mO gl b c a) d e
  |_=> .plain)
 |_=> .plain
def iY(f:bG)(h:aC)(c:bf)(g:M G)(i:M R->eg->ah->M G->Prop):Prop:=match tH c g h with
 | .enum d=>bW (fQ d)<|f.E d c g λa b=>bW (Bz a)<|cm (xR b a) λe=>i (dW e.1) e.2 X b
 | .zip d j=>bW (fQ d&&fQ j)<|f.E d c g λa b=>f.E j c b λk l=>pz a λm=>pz k λn=>i (jg m n) U X l
 | .plain=>bW (fQ h)<|f.E h c g λa b=>Im a<|cm (xR b a) λe=>i e.1 e.2 ai b
def kN(e:bG)(f:aC)(c:R)(a:bf)(b:M G)(d:M G->Prop):Prop:=match f with
 | .Name g _=>cm (mT a b g c) d
 | .Tuple h _ _=>cm (lf b c) λi=>qH a h i b d
 | .Subscript j k _=>e.E j a b λl m=>e.E k a m λn o=>KL l n c o d
 |_=>cn
noncomputable def kj(a:M G)(b:N):ah:=(bL a[b]? yi).isSome
def oi(a:bG)(b:cK)(e:R)(c:bf)(f:M G)(g:M G->Prop)(h:M G->Prop):Prop:= kN a b.target e c f λi=>DA a b.ifs c i λj d=>eQ j (g d)<|h d
def hj(b:N)(c:M G->Prop)(d:M G):Prop:=∃a,gD b d a/\c a
def Jd{d:Type}(j:bG)(g:cK)(h:bf)(k:d->(d->M G->Prop)->M G->Prop)(l:M R)(m:eg)(n:ah)(o:d)(f:M G)(p:d->M G->Prop):Prop:=
 bW (mh n g.target)<|∃c:M R->d->M G->Prop,c l o f/\
  (∀e b a,c e b a->gk m a/\a.length=f.length/\kj a h.ns=X)/\
  (∀i e b a,c (i::e) b a->oi j g i h a (k b λq=>hj f.length<|c e q) (hj f.length<|c e b))/\
  (∀b a,c [] b a->p b a)
def uQ(c:bG)(d:aC)(e:bf)(a:M R)(f:M R->M G->Prop)(g:M G):Prop:= c.E d e g λb h=>bW b.flat<|a.length<1048576/\f (a++ [b]) h
def CM(a:bG)(e f:aC)(b:bf)(c:M (I×R))(g:M (I×R)->M G->Prop)(h:M G):Prop:= a.E e b h λi j=>a.E f b j λd k=>gJ i λl=>bW d.flat<|c.length<1048576/\g (gK c l d) k
def kR{b:Type}(c:bG)(d:bf)(k:b->(b->M G->Prop)->M G->Prop):M cK->cK->M R->eg->ah->b->M G->(b->M G->Prop)->Prop
 |[],e,f,g,h,i,j,a=>Jd c e d k f g h i j a
 |l::m,e,f,g,h,i,j,a=>Jd c e d (λn a o=>iY c l.iter d o λp q r s=>kR c d k m l p q r n s a) f g h i j a
noncomputable def mH(c:M (I×N)):M (I×lE)->ag (M<|I×N)->ag (M<|I×N)
 |[],a=>a
 |b::d,a=>mH c d (bif b.2== .free then bL a λe=>(c.lookup b.1).map λf=>(b.1,f)::e else a)
noncomputable def YF(a:dJ)(b:dJ):dJ:=jv a<|gn b
noncomputable def GB(a:bf)(b:dJ)(c:N)(d:M (I×N)):bf:=⟨YF b a.scope,c,d,a.qual,a.ct⟩
noncomputable def gH:M (I×lE)->N->M (I×N)->M (I×N)
 |[],_,a=>a
 |c::d,b,a=>bif c.2== .cell then gH d (b+1) ((c.1,b)::a) else gH d b a
noncomputable def ho:M (I×lE)->M G
 |[]=> []
 |b::a=>bif b.2== .cell then .cell U::ho a else ho a
noncomputable def Db(a:dJ):ah:=a.kind== .function&&a.names.all (λb=>b.2 != .local ||a.names.lookup b.1==Q .local)&& (a.names.lookup ("__debug__":I)).isNone&&(a.names.lookup ("__classdict__":I)).isNone
def xl{e:Type}(g:bG)(h:M cK)(a:dJ)(d:bf)(i:M G)(j:bf->M cK->cK->M R->eg->ah->M G->(e->M G->Prop)->Prop)(k:N->e->M G->Prop):Prop:=match h with
 |[]=>cn
 |b::f=>bW (Db a&&b.is_async==0&&f.all (λb=>b.is_async==0))<|cm (mH d.cells a.names<|Q []) λl=>iY g b.iter d i λm n o c=>j (GB d a c.length<|gH a.names (c.length+1) l) f b m n o (c++ .ns []::ho a.names)<|k c.length
def To(a:bG)(c:aC)(b:bf)(d:M cK)(e:cK)(f:M R)(g:eg)(h:ah)(i:M G)(j:M R->M G->Prop):Prop:=kR a b (uQ a c b) d e f g h [] i j
def Tn(a:bG)(c d:aC)(b:bf)(e:M cK)(f:cK)(g:M R)(h:eg)(i:ah)(j:M G)(k:M (I×R)->M G->Prop):Prop:=kR a b (CM a c d b) e f g h i [] j k
def sB(a:bG)(b:aC)(c:M cK)(d:dJ)(e:bf)(f:M G)(g:N->M R->M G->Prop):Prop:=xl a c d e f (To a b) g
def uL(a:bG)(b c:aC)(d:M cK)(e:dJ)(f:bf)(g:M G)(h:N->M (I×R)->M G->Prop):Prop:=xl a d e f g (Tn a b c) h
noncomputable def JJ:se->ag Arg
 |⟨[],[a],U,[],[],U,[]⟩=>Q a
 |_=>U
noncomputable def Bi(b:Arg)(a:dJ):ah:=a.kind== .function&& !a.isGenerator&& !a.isCoroutine&&a.names.all (λb=>b.2 != .cell)&&a.names.lookup b.arg==Q .local && (a.names.lookup ("__debug__":I)).isNone&&(a.names.lookup ("__classdict__":I)).isNone
def Bc(g:gx)(a:R)(b:M R)(c:M (I×R))(d:M G)(e:aQ):Prop:=match a with
 | .blt f=>eQ c.isEmpty (AU f b d e)<|g a b c d e
 |a=>g a b c d e
def rB(d:bG)(e f:R)(a:M G)(g:aQ):Prop:=match e with
 | .clo h i b j k=>cm (JJ h) λc=>bW (Bi c b)<|d.E i ⟨b,a.length,k,j++bC ".<locals>.",U⟩ (a++ [.ns [(c.arg,f)]]) g
 |_=>cn
noncomputable def JR:aC->ah
 | .Call a b c _=>(match a with
  | .Name .. => !(b.isEmpty&&c.isEmpty)
  |_=>X)
 |_=>X
noncomputable def Dx(a:I):G->ag ek
 | .ctab b=>bif aI (b=a) then Q () else U
 |_=>U
def RK(c:Const)(a:M G)(b:aQ):Prop:=match c with
 | .none=>b .none a
 | .bool d=>b (.bool d) a
 | .int e=>b (.int e) a
 | .str f=>b (.str f) a
 |_=>cn
def aj2(c:bG)(h:UnaryOp)(d:aC)(e:bf)(f:M G)(g:aQ):Prop:=match h with
 | .Not=>c.E d e f λa b=>pO a λi=>g (.bool !i) b
 | .USub=>c.E d e f λa b=>kT a λj=>g (.int<|-j) b
 |_=>cn
noncomputable def IU(a:bf):I:=a.qual++bC "<lambda>"
def IT(a:se)(e:aC)(c:dJ)(b:bf)(d:M G)(f:aQ):Prop:= bW (a.defaults.isEmpty&&a.kw_defaults.isEmpty&&a.kwonlyargs.isEmpty)<|cm (bL b.ct λg=>bL d[g]?<|Dx (IU b)) λ_=>cm (mH b.cells c.names<|Q []) λh=>f (.clo a e c (IU b) h) d
def sX(d:ah)(b:M R)(a:M G)(c:aQ):Prop:=eQ d (c (.loc a.length)<|a++ [.list b])<|c (.lst b) a
def Bt(d:ah)(b:M (I×R))(a:M G)(c:aQ):Prop:=eQ d (∀e,c (.loc a.length) (a++ [.dict e b]))<|c (.dct b) a
noncomputable def Bn:aC->ag I
 | .Constant a _ _=>(match a with
  | .str b=>Q b
  |_=>U)
 |_=>U
noncomputable def yp:M aC->ag aC
 |[]=>U
 |a::b=>bif b.isEmpty then Q a else U
def Kk(d:R)(e:M aC)(f:M G)(g:aQ):Prop:=match e with
 |[]=>cn
 |h::i=>cm (Bn h) λc=>cm (bL (yp i) Bn) λa=>gJ d λb=>bW (!aI (c=a))<|b.length+(b.length+1)*a.length<=16777216/\g (.str<|fU b c a) f
def Jl(d:bG)(e:aC)(f:I)(i:bV)(a:M aC)(j:bV)(g:bf)(k:M G)(h:aQ):Prop:= bW (a.all fQ&&JR e&&(i.endLine==j.line)&&aI (a.length<20))<|d.E e g k λb c=>eQ (aI<|f=bC "replace") (Kk b a c h) (cm (Jm c b f) λl=>kt d a [b] g c (AU l · · h))
def Gs(n:gx)(a:bG)(e:aC)(b:M aC)(c:M oI)(d:bf)(f:M G)(g:aQ):Prop:= bW (b.all fQ&&Cm c&&aI (b.length+2*c.length<20))<|a.E e d f λh i=>kt a b [] d i λj k=>DI a c [] d k λl m=>Bc n h j l m g
def Rt(l:gx)(b:bG)(a:aC)(c:M aC)(d:M oI)(h:bV)(e:bf)(f:M G)(g:aQ):Prop:=match a with
 | .Attribute i j k=>bW d.isEmpty<|Jl b i j k c h e f g
 |a=>Gs l b a c d e f g
def re(d:bG)(a:ag aC)(e:bf)(b:M G)(c:aQ):Prop:=match a with
 |some a=>d.E a e b c
 |none=>c .none b
def ag0(a:bG)(g c:aC)(b:bf)(h:M G)(i:aQ):Prop:=match c with
 | .Slice j k l _=>a.E g b h λd e=>re a j b e λm f=>re a k b f λn o=>re a l b o λp q=>Dk d m n p q i
 |c=>a.E g b h λd e=>a.E c b e λr f=>xP d r f i
noncomputable def mR(a:M G)(b:N):M G:=a.set b<|.ns []
def LO(L:gx)(d:bG)(i:aC)(a:bf)(b:M G)(c:aQ):Prop:=match i with
 | .Constant j _ _=>RK j b c
 | .Name u _=>cm (mO gl a b u) λn=>c n b
 | .BoolOp k e _=>uE d k e a b c
 | .BinOp o k i _=>d.E o a b λl g=>d.E i a g λp v=>AW k l p v c
 | .UnaryOp k i _=>aj2 d k i a b c
 | .Lambda w x m _=>IT w x m a b c
 | .IfExp y l p _=>d.T y a b λj g=>eQ j (d.E l a g c)<|d.E p a g c
 | .Dict q f h=>bW (q.isEmpty&&f.isEmpty)<|Bt X [] b c
 | .List e h=>bW (e.all fQ)<|kt d e [] a b λf g=>bW (aI<|f.length<=1048576)<|sX (Cw h) f g c
 | .Tuple e _ _=>bW (e.all fQ)<|kt d e [] a b λf g=>bW (aI<|f.length<=1048576)<|c (.tup f) g
 | .ListComp z r m h=>sB d z r m a b λs f t=>sX (Cw h) f (mR t s) c
 | .DictComp A B r m h=>uL d A B r m a b λs f t=>Bt (Cw h) f (mR t s) c
 | .Compare o D e _=>bW (e.all fQ)<|d.E o a b λl g=>lO d l D e a g λj=>c<|.bool j
 | .Call E e q h=>Rt L d E e q h a b c
 | .Subscript n K _=>ag0 d n K a b c
 |_=>cn
def LC(a:bG)(b:aC)(c:bf)(d:M G)(e:ah->M G->Prop):Prop:=a.E b c d λf g=>pO f λh=>e h g
def Xf(a:bG)(e:UnaryOp)(f g:aC)(b:bf)(c:M G)(d:ah->M G->Prop):Prop:=match e with
 | .Not=>a.T g b c λh=>d<|!h
 |_=>LC a f b c d
def LQ(a:bG)(h:aC)(b:bf)(c:M G)(d:ah->M G->Prop):Prop:=match h with
 | .UnaryOp e f i=>Xf a e (.UnaryOp e f i) f b c d
 | .BoolOp e g _=>AQ a e g b c d
 | .IfExp _ _ _ _=>cn
 | .Compare j k g _=>bW (g.all fQ)<|a.E j b c λf l=>lO a f k g b l d
 |h=>LC a h b c d
noncomputable def FU:kE->ah
 | .Add=>X
 | .Sub=>X
 | .LShift=>X
 | .BitOr=>X
 |_=>ai
noncomputable def AT(a:bf)(b:I):ah:=match a.scope.names.lookup b with
 |some .local =>X
 |some .cell=>X
 |_=>ai
def rn{a:Type}(b:cC a)(c:a->Prop):Prop:=match b with
 | .pure d=>c d
 |_=>cn
def Jv(a:Prop)(b:R):Prop:=match b with
 | .none=>a
 |_=>cn
def Dq(g:bG)(h:aC)(c:R)(d:bf)(b:M G)(e:M G->Prop)(a:ag (M I)):Prop:=match a with
 |none=>kN g h c d b e
 |some a=>cm (lf b c) λf=>bW (f.length==a.length)<|xc d a.reverse f.reverse b e
def rI(c:aY->M G->Prop)(a:N)(b:M G):Prop:=bW (kj b a)<|c .next<|mR b a
def ak7(a:bG)(i d:aC)(b:bf)(j:M G)(k:aY->M G->Prop):Prop:=match d with
 | .ListComp l e f _=>sB a l e f b j λg h c=>kN a i (.lst h) b c<|rI k g
 | .DictComp m n e f _=>uL a m n e f b j λg h c=>∀d,kN a i (.loc c.length) b (c++ [.dict d h]) (rI k g)
 |_=>cn
def xb(d:bG)(b c:aC)(g:bV)(a:bf)(e:M G)(f:aY->M G->Prop):Prop:=rn (ka c (Q b) g.line<|gn a.scope) λh=>eQ h (ak7 d b c a e f)<|d.E c a e λi j=>rn (mB [b] c<|gn a.scope)<|Dq d b i a j (f .next)
def FT(g:bG)(b:I)(e:kE)(h:aC)(a:bf)(f:M G)(i:aY->M G->Prop):Prop:=bW (FU e&&AT a b)<|cm (mO gl a f b) λc=>g.E h a f λd j=>rg c d λc d=>xd e c d j λk l=>cm (mT a l b k)<|i .next
def qO(b:M G->Prop)(c:aY->M G->Prop)(d:aY)(a:M G):Prop:=match d with
 | .next=>b a
 | .cont=>b a
 | .brk=>c .next a
 | .ret e=>c (.ret e) a
def LW(e:bG)(k:aC)(l:M cD)(f:bf)(b:M G)(g:aY->M G->Prop):Prop:=∃c:N->M G->Prop,(∃a,c a b)/\(∀a d,c a d->d.length=b.length/\e.T k f d λm h=>eQ m (bz e l f h<|qO (λn=>∃i j,i<a/\gD b.length n j/\c i j) g)<|g .next h)
def HA(e:bG)(g j:aC)(k:M cD)(f:bf)(l:M G)(h:aY->M G->Prop):Prop:=iY e j f l λm n o c=>bW (mh o g)<|∃b:M R->M G->Prop,hj c.length (b m) c/\
 (∀d a,b d a->gk n a/\a.length=c.length)/\
 (∀i d a,b (i::d) a->kN e g i f a λp=>bz e k f p<|qO (hj c.length<|b d) h)/\
 (∀a,b [] a->h .next a)
def RW(a:bG)(c:aC)(b:bf)(d:M G)(e:aY->M G->Prop):Prop:=match c with
 | .Subscript f g _=>a.E f b d λh i=>a.E g b i λj k=>Bw h j k<|e .next
 |_=>cn
def LP(d:bG)(a:cD)(b:bf)(f:M G)(e:aY->M G->Prop):Prop:=match a with
 | .Pass _=>e .next f
 | .Expr c j=>rn (ka c U j.line<|gn b.scope) λg=>bW (!g)<|d.E c b f λk h=>Jv (e .next h) k
 | .Return c _=>cm c λc=>d.E c b f λk=>e<|.ret k
 | .Assign l c j=>cm (yp l) λa=>xb d a c j b f e
 | .AugAssign a n c _=>cm (DB a) λo=>FT d o n c b f e
 | .If a i g _=>d.T a b f λm h=>eQ m (bz d i b h e)<|bz d g b h e
 | .Assert a p _=>bW p.isNone<|d.T a b f λm h=>bW m<|e .next h
 | .Delete l _=>cm (yp l) λa=>RW d a b f e
 | .While a i g _=>bW g.isEmpty<|LW d a i b f e
 | .For a c i g _=>bW g.isEmpty<|HA d a c i b f e
 |_=>cn
noncomputable def bt(a:gx):N->bG
 |0=>⟨λ_ _ _ _=>cn,λ_ _ _ _=>cn,λ_ _ _ _=>cn⟩
 |b+1=>⟨LO a<|bt a b,LQ<|bt a b,LP<|bt a b⟩
theorem cW:gk U c:=λ_ a=>(by exact aU a)
theorem pL(a:M G):gD a.length a a:=λc d e b=>by rw [ly (dM b.len)];exact b
class inductive el:M G->M G->Prop
 |nil {a:M G}:el a []
 |same {a b c:M G} {d:G}:a=d::b->el b c->el a (d::c)
 |ns {a b c:M G} {v extra:M (I×R)}:a= .ns (v++extra)::b->el b c->el a (.ns v::c)
theorem el.at(h:el c V):∀{a:N} {d:G},V[a]? =Q d->c[a]? =Q d\/∃g i,d= .ns g/\c[a]? =Q (.ns<|g++i):=by
 induction h with
 |nil=>intro a d b;cases zy.symm.trans b
 |same e _ f=>subst e;intro a d b;cases a with
  |zero=>exact .inl b
  |succ a=>exact f (a:=a) b
 |ns e _ f=>subst e;intro a d b;cases a with
  |zero=>(revert b;refine aL λj=> ?_;subst j);exact .inr ⟨_,_,O,O⟩
  |succ a=>exact f (a:=a) b
theorem Ja(a:D.lookup g=Q h):(D++d8).lookup g=Q h:=by
 induction D with
 |nil=>exact aU a
 |cons c f d=>
  obtain⟨e,i⟩:=c
  rw [ee] at a;rw [tU,ee]
  cases b:g==e with
  |true=>rw [b] at a;exact a
  |false=>rw [b] at a;exact d a
theorem Xg(a:ew i b j (.ns<|D++d8)):ew i b j (.ns D):= (by(revert a;refine ac λc d e=> ?_);exact⟨c,d,λa f g=>e a f<|Ja g⟩)
theorem cG(i:a=V.length)(e:c.length=a)(j:el c V):gD a c V:=λm n o b=>by
 rw [ly (by rw [b.len,e];exact ba _)]
 exact⟨by rw [<-i,<-e];exact b.len,b.inj,λf g k h l=>by
  obtain d|⟨p,q,rfl,d⟩:=j.at l
  .exact b.mo f g k h d
  .exact Xg<|b.mo f g _ h d,b.base,b.out,b.ex,b.prv,b.tk⟩
theorem gD.trans(f:gD a c V)(g:gD a V l4):gD a c l4:=λb d e h=>by have i:=f b d e h;have:=g ⟨b.l.take a,b.p⟩ d (by rw [qh];exact an0 _ _ e) i;rw [Ny,Nat.min_self] at this;exact this
def Mo(b:N)(f:M G)(a:N)(c:R):Prop:=(a<b/\c= .loc a)\/(∃g d,b<=a/\f[a]? =Q (.dict g d)/\R.flatd d=X/\c= .dct d)\/(∃e,b≤a/\f[a]? =Q (.list e)/\R.flats e=X/\c= .lst e)
class inductive gy(a:N->ag R):M G->M G->Prop
 |nil {b:M G}:gy a b []
 |same {b c d:M G} {e f:G}:b=e::c->G.ren a e=Q f->gy a c d->gy a b (f::d)
 |ns {b c d:M G} {v g extra:M (I×R)}:b= .ns (v++extra)::c->R.rend a v=Q g->gy a c d->gy a b (.ns g::d)
structure iU(v:aT)(h i:ar)(x:N->ag R):Prop where
 at_:∀j o c,x j=Q o->h.l[j]? =Q (Q c)->aR v i (.ref c) o
 fz:∀c,bh h c->bh i c
theorem iU.go(a:iU i b x a1):lw (bh b) (bh x) i i b x a1:=⟨a.at_,λc _ d _=>a.fz c d,λ_ _ _ e=>e⟩
theorem bi.ren(a:iU i b x a1)(c:bi (bh b) i b k h)(d:R.ren a1 h=Q L):bi (bh x) i x k L:=c.go a.go _ d
theorem cJ.ren(a:iU i b x a1)(c:cb (bh b) i b K q)(d:R.rens a1 q=Q d5):cb (bh x) i x K d5:=c.go a.go _ _ _ d
theorem eI.ren(a:iU i b x a1)(c:eA (bh b) i b b5 D)(d:R.rend a1 D=Q d8):eA (bh x) i x b5 d8:=c.go a.go _ _ _ d
theorem YN:∀{c d:M (I×R)},R.rend a1 c=Q d->d.lookup g=Q h->∃e,c.lookup g=Q e/\R.ren a1 e=Q h:=by
 intro c
 induction c with
 |nil=>exact @λ_ b a=>by(revert b;refine aL λf=> ?_;subst f);exact aU a
 |cons j q k=>
  obtain⟨l,m⟩:=j
  exact @λd b a=>by
   refine ac (λe n b=> ?_)<|nU b;refine ac (λr o p=> ?_)<|zX.mp b;obtain rfl:=p;rw [ee] at a ⊢
   cases i:g==l with
   |true=>rw [i] at a;(revert a;refine aL λf=> ?_;subst f);exact⟨m,O,n⟩
   |false=>rw [i] at a;exact k o a
theorem ew.ns_ren{d:M (I×R)}(c:iU i b x a1)(a:ew i b j (.ns<|D++d))(e:R.rend a1 D=Q d8):ew i x j (.ns d8):= let⟨f,g,h⟩:=a;⟨f,g,λa q k=>by refine ac (λl m n=> ?_)<|YN e k;refine ac (λD o p=> ?_)<|h a l (Ja m);exact⟨D,o,p.ren c n⟩⟩
theorem ew.ren(e:iU i b x a1)(f:ew i b j b9)(d:G.ren a1 b9=Q i2):ew i x j i2:=by
 cases b9 with
 |list m=>(revert f;refine ac λn a g=> ?_);exact gU d λk c=>⟨n,a,g.ren e c⟩
 |dict B m=>(revert f;refine ac λp a g=> ?_);exact gU d λk c=>⟨p,a,g.ren e c⟩
 |cell l=>cases l with
  |none=>(revert d;refine aL λh=> ?_;subst h);exact f
  |some l=>(revert f;refine ac λl a g=> ?_);exact gU d λk c=>⟨l,a,g.ren e c⟩
 |ns m=>exact gU d λk c=>ew.ns_ren e (d:=[]) (by rw [cZ];exact f) c
 |liter m=>(revert f;refine vt λq r n a c s t g=> ?_);exact gU d λk u=>⟨q,r,n,a,e.fz _ c,s,t,g.ren e u⟩
 |ctab o=>(revert d;refine aL λh=> ?_;subst h);(revert f;refine dt λv a w o=> ?_);exact⟨v,a,w,λy z A=>(o y z A).imp λD i=>⟨i.1,e.fz _ i.2.1,i.2.2⟩⟩
 |any=>(revert d;refine aL λh=> ?_;subst h);trivial
theorem gy.at{μ:ar}{m:ar}(k:iU i μ m a1)(n:gy a1 c V):∀{a:N} {d:ao} {e:G},V[a]? =Q e->(∀l,c[a]? =Q l->ew i μ d l)->ew i m d e:=by
 induction n with
 |nil=>intro a d e b;cases zy.symm.trans b
 |same i g _ h=>subst i;intro a d e b f;cases a with
  |zero=>(revert b;refine aL λj=> ?_;subst j);exact(f _ O).ren k g
  |succ a=>exact h (a:=a) b f
 |ns i g _ h=>subst i;intro a d e b f;cases a with
  |zero=>(revert b;refine aL λj=> ?_;subst j);exact ew.ns_ren k (f _ O) g
  |succ a=>exact h (a:=a) b f
theorem bi.flat_to(c:∀a,bh b a->bh x a)(d:aR i b k h)(e:h.flat=X):aR i x k h:=d.cut c e
theorem cJ.flat_to(c:∀a,bh b a->bh x a)(d:dN i b K q)(e:R.flats q=X):dN i x K q:=d.cut c e
theorem eI.flat_to(c:∀a,bh b a->bh x a)(d:iq i b b5 D)(e:R.flatd D=X):iq i x b5 D:=d.cut c e
theorem KU(p:∀e i,a<=e.l.length->am e c i->∀d h b,a1 d=Q h->e.l[d]? =Q (Q b)->aR i.heap ⟨e.l.take a,e.p⟩ (.ref b) h)(q:a=V.length)(r:gy a1 c V):gD a c V:=λe i n g=>by
 have j:∀(d:N) (b:ao),(e.l.take a)[d]? =Q (Q b)->e.l[d]? =Q (Q b):=λd b f=>by
  rw [qg] at f;by_cases k:d<a
  .rw [bK k] at f;exact f
  .rw [bF k] at f;exact aU f
 have s:iU i.heap e ⟨e.l.take a,e.p⟩ a1:=⟨p e i n g,λb k=>⟨λh=>k.1<|ql h,k.2⟩⟩
 exact⟨by refine(?_:(e.l.take a).length=_);rw [qh,lB n];exact q,λd o b l m=>g.inj d o b (j d b l)<|j o b m,λd b z l m=>r.at s m λt u=>g.mo d b t (j d b l) u, g.base,λd b f=>g.out d b<|j d b f,λd b f=>g.ex d b<|j d b f,λb v=>(by refine dH (λw x y=> ?_)<|g.prv b v;exact⟨w,λh=>x<|ql h,y⟩),g.tk⟩
theorem Dy(c:d<a)(e:b.l[d]? =Q (Q j)):(b.l.take a)[d]? =Q (Q j):=by rw [qg,bK c];exact e
class inductive eL(a:N):M G->M G->Prop
 |nil {b:M G}:eL a b []
 |same {b c d:M G} {e:G}:b=e::c->G.ren (cM a) e=Q e->eL a c d->eL a b (e::d)
 |ns {b c d:M G} {v extra:M (I×R)}:b= .ns (v++extra)::c->R.rend (cM a) v=Q v->eL a c d->eL a b (.ns v::d)
theorem RP(f:eL a c V):gy (cM a) c V:=by
 induction f with
 |nil=>exact .nil
 |same b d _ e=>exact .same b d e
 |ns b d _ e=>exact .ns b d e
theorem Gb(b:cM a d=Q h):d<a/\h= .loc d:=by
 unfold cM at b;by_cases c:d<a
 .rw [ck c] at b;(revert b;refine aL λe=> ?_;subst e);exact⟨c,O⟩
 .rw [cN c] at b;exact aU b
theorem rF(b:a=V.length)(d:eL a c V):gD a c V:= KU (λi j _ _ k l m e f=>by(refine aA (λg h=> ?_)<|Gb e;obtain rfl:=h);exact .loc<|Dy g f) b<|RP d
theorem KS(u:∀b,bM.get? b=U->(b==cR)=ai)(q:N->ag R)(v:∀e d,q e=Q d->Mo a c e d)(w:a=V.length)(x:gy q c V):gD a c V:=
 KU (λg A B j e d b y h=>by
  have r:∀f,bh g f->bh ⟨g.l.take a,g.p⟩ f:=λf s=>⟨λd=>s.1<|ql d,s.2⟩
  have z:b∉g.p:=λd=>(j.prv b d).2.1<|iZ h
  have k:a<=e->bh ⟨g.l.take a,g.p⟩ b:=λk=>⟨λd=>by
   refine ay (λt i=> ?_)<|Eo d;rw [qg] at i;by_cases l:t<a
   .rw [bK l] at i;have:=j.inj e t b h i;exact cp (.p 1 C J<|.p 1 (aj+1) C (.q 1 J aj .z)) (bk _ _ _) O k l this
   .rw [bF l] at i;exact((by exact aU i)),z⟩
  obtain⟨f,rfl⟩|⟨i,D,f,m,n,rfl⟩|⟨E,f,m,n,rfl⟩:=v e d y
  .exact .loc<|Dy f h
  .refine ac (λK o p=> ?_)<|j.mo e b _ h m;exact .dct (k f) (u b<|j.out e b h) (qM o)<|p.flat_to r n
  .refine ac (λL o p=> ?_)<|j.mo e b _ h m;exact .lst (k f) o<|p.flat_to r n) w x
def FH(c:bG)(g:cK)(d:bf)(h:aC)(a:M G)(i:R->ag R)(e:R):Prop:= ∀b:ag R->M G->Prop,(∀f,gD a.length f a->b (i e) f)->oi c g e d a (λj=>c.E h d j λk=>b<|Q k) (b U)
theorem kW(g:R->ag R)(m:gk e1 c)(n:kj c o.ns=X)(p:q.length<1048576)
 (r:∀e∈q,FH u f7 o v c g e) (s:∀e∈q,∀i,g e=Q i->i.flat=X) (t:h6 (q.filterMap g) c):
 ∃j:M R->M R->M G->Prop,j q [] c/\
 (∀f b a,j f b a->gk e1 a/\a.length=c.length/\kj a o.ns=X)/\
 (∀e f b a,j (e::f) b a->oi u f7 e o a (uQ u v o b λB=>hj c.length<|j f B) (hj c.length<|j f b))/\
 (∀b a,j [] b a->h6 b a):=by
 revert u f7 o v q e1 c h6 g m n p r s t
 apply U9
 generalize P8 _=f7,Q8 _=v,Q7 _=q,Q6 _=h6,Q5 _=c,Q4 _=o,Q3 _=e1,Q2 _=u,Q1 _=g
 intro m n p r s t
 refine⟨λf b a=>∃d,q=d++f/\b=d.filterMap g/\a=c,⟨[],O,O,O⟩,?_,?_,?_⟩
 .intro f b a D;(revert D;refine dt λd h k l=> ?_;obtain rfl:=l);exact⟨m,O,n⟩
 .intro e f b a E;(revert E;refine dt λd h k l=> ?_;obtain rfl:=l)
  have z:e∈q:=by rw [h];simp
  have K:b.length<1048576:=by
   have:=zB g d;have L:q.length=d.length+(f.length+1):=by rw [h];simp
   rw [k];exact af 0 (C+1) 1048576 (.p 1 (J+1) 1048576<|.p 1 C aj (.f 1 J (aj+(bo+1)) .z)) (di _ _ _ _) O p this L
  refine r e z (λP w=>match P with
   |some i=>bW i.flat<|b.length<1048576/\hj a.length (λx=>∃d,q=d++f/\b++ [i]=d.filterMap g/\x=a) w
   |none=>hj a.length (λx=>∃d,q=d++f/\b=d.filterMap g/\x=a) w) λw A=> ?_
  cases y:g e with
  |none=>exact⟨a,A,d++ [e],by simp [h],by simp [k,y],O⟩
  |some i=>exact sA (s e z i y) ⟨K,a,A,d++ [e],by simp [h],by simp [k,y],O⟩
 .intro b a S;(revert S;refine dt λd h k l=> ?_;obtain rfl:=l)
  rw [cZ] at h
  subst h;rw [k];exact t
abbrev bY:=gx
variable{w h3:bY}
theorem hO{a:H->Prop}(b:kT h a):∃c,h= .int c/\a c:=by cases h<;>first|exact⟨_,O,b⟩|exact b.elim
theorem gf(a:gJ h m8):∃b,h= .str b/\m8 b:=by cases h<;>first|exact⟨_,O,a⟩|exact a.elim
theorem Qh(a:Gk h d7):∃b,h= .bool b/\d7 b:=by cases h<;>first|exact⟨_,O,a⟩|exact a.elim
theorem qX{a:M R->Prop}(b:pz h a):∃c,h= .lst c/\a c:=by cases h<;>first|exact⟨_,O,b⟩|exact b.elim
theorem sW(a:qW h h1):∃b,h= .loc b/\h1 b:=by cases h<;>first|exact⟨_,O,a⟩|exact a.elim
theorem Cs{d:M R->Prop}(b:yd c a d):∃e,c[a]? =Q (.list e)/\d e:=by refine ac (λf g b=> ?_)<|cF b;cases f<;>first|exact⟨_,g,b⟩|exact b.elim
theorem GI{e:M (I×R)->Prop}(b:Bx c a e):∃d f,c[a]? =Q (.dict d f)/\e f:=by refine ac (λg d b=> ?_)<|cF b;cases g<;>first|exact⟨_,_,d,b⟩|exact b.elim
theorem qG{b:R->Prop}(c:oX q b):∃a,q=[a]/\b a:=by
 cases q with
 |nil=>exact c.elim
 |cons a f=>refine aA (λd e=> ?_)<|cz c;exact⟨a,bq (a:: ·)<|jN.mp d,e⟩
theorem oY{b:R->R->Prop}(c:nF q b):∃d a,q=[d,a]/\b d a:=by
 cases q with
 |nil=>exact c.elim
 |cons e h=>refine ac (λa f g=> ?_)<|qG c;exact⟨e,a,bq (e:: ·) f,g⟩
theorem xa{c:R->R->R->Prop}(d:uB q c):∃e a b,q=[e,a,b]/\c e a b:=by
 cases q with
 |nil=>exact d.elim
 |cons f i=>refine dw (λa b g h=> ?_)<|oY d;exact⟨f,a,b,bq (f:: ·) g,h⟩
theorem Pv{d:R->R->R->R->Prop}(e:FO q d):∃f a b c,q=[f,a,b,c]/\d f a b c:=by
 cases q with
 |nil=>exact e.elim
 |cons g j=>refine iC (λa b c h i=> ?_)<|xa e;exact⟨g,a,b,c,bq (g:: ·) h,i⟩
theorem uF{a:Prop}{b:Prop}(c:eQ n a b):(n=X/\a)\/(n=ai/\b):=by
 cases n with
 |true=>exact .inl ⟨O,c⟩
 |false=>exact .inr ⟨O,c⟩
theorem eY{b:ag E}{c:E->ag f5}{d:f5}(e:bL b c=Q d):∃a,b=Q a/\c a=Q d:=by
 cases b with
 |none=>exact aU e
 |some a=>exact⟨a,O,e⟩
theorem Dc(a:vF b9=Q q):b9= .list q:=by cases b9<;>first|(cases a;rfl)|exact aU a
theorem Sb(a:GJ b9=Q D):∃b,b9= .dict b D:=by cases b9<;>first|(cases a;exact⟨_,O⟩)|exact aU a
theorem yj(a:yi b9=Q D):b9= .ns D:=by cases b9<;>first|(cases a;rfl)|exact aU a
theorem Rx(a:Gu b9=Q h):b9= .cell (Q h):=by
 cases b9 with
 |cell b=>cases b<;>first|(cases a;rfl)|exact aU a
 |_=>exact aU a
theorem bi.int_inv(a:bi y i b k (.int a5)):∃c,k= .int a5 c:=a.inv
theorem bi.str_inv(a:bi y i b k (.str g)):∃c,k= .str g c:=a.inv
theorem bi.bool_inv(a:bi y i b k (.bool n)):k= .bool n:=a.inv
theorem bi.none_inv(a:bi y i b k .none):k= .none:=a.inv
theorem hX(a:am b c e)(d:s (.int a5) c):0<e.toks+1->bg b e s (.int a5 e.toks) {e with toks:=e.toks+1}:=λf=>bg.of a f (.int _ _) d
theorem Zv(d:am b c e)(l:g.length+T.length<=wU)(a:s (.str<|g++T) c):
 an (az aq ap) f (ur .Add (.str g c1)<|.str T i5) (bg b e s) aB e:=by
 refine dC d.tk<|P.add_str ?_
 by_cases h:(g.length==0)=X
 .rw [bK h]
  have i:g++T=T:=by have:g.cps= #[]:=DR.mp (by simpa [OH] using h);exact An<|by rw [Fe,this];simp
  rw [i] at a
  exact λj=>bg.here d (.str _ _) a
 .rw [bF h]
  by_cases k:(T.length==0)=X
  .rw [bK k]
   have i:g++T=g:=by have:T.cps= #[]:=DR.mp (by simpa [OH] using k);exact An<|by rw [Fe,this];simp
   rw [i] at a
   exact λj=>bg.here d (.str _ _) a
  .rw [bF k];exact⟨by rw [Str.length_append];exact l,λj=>bg.of d j (.str _ _) a⟩
theorem aa2(a:am b c e)(d:2<=a5/\a5<16)(i:0<=g1)(k:g1.toNat<=200)(g:s (.int<|a5^g1.toNat) c):
 an (az aq ap) f (ur .Pow (.int a5 c1)<|.int g1 i5) (bg b e s) aB e:=by
 by_cases j:g1=0
 .subst j;rw [Int.toNat_zero,Int.pow_zero] at g;exact dC a.tk<|ax7 (by assumption) (by simp) (hX a g)
 .refine dC a.tk<|ax8 i (by simpa using j) (by simp;exact⟨λh=>aD (.p 1 2 F<|.q 1 F 0 .z) (aG _) O d.1 h,λl=>aD (.p 1 2 F<|.q 1 F 1 .z) (aG _) O d.1 l⟩) (by simp;exact λh=>aD (.p 1 2 F<|.q 1 F (eS<|-1) .z) (aG _) O d.1 h) ?_ (hX a g)
  have o:uj a5<=4:=by
   unfold uj;split
   .exact cy _
   .exact fi<|wo ((NG<|by lia).mpr<|by lia)
  have m:bitsLine=2^27:=O
  have n:((uj a5:N):H)*g1<=4*g1:=Int.mul_le_mul_of_nonneg_right (by exact vV.mpr ‹_›) i
  unfold ay2
  rw [m,cN (by exact an1 _ _ k n)]
  exact jk
theorem AZ(b:a5.natAbs<18446744073709551616):uj a5<=64:=by
 unfold uj;split
 .exact cy _
 .next a=>exact fi<|wo ((NG<|by simp at a;lia).mpr<|by assumption)
theorem Jf(b:g1<=64)(a:a5.natAbs<18446744073709551616):(uj a5:H)+g1<=2^27:=by have c:=AZ a;lia
theorem Zy(d:am b c e)(a:xd h2 a5 g1 c s):
 an (az aq ap) f (ur h2 (.int a5 c1)<|.int g1 i5) (bg b e s) aB e:=by
 cases h2 with
 |Add=>exact dC d.tk<|P.add_int (hX d a)
 |Sub=>exact dC d.tk<|P.sub_int (hX d a)
 |Mult=>
  refine aA (λg a=> ?_)<|cz a
  exact dC d.tk (P.mul_int (hX d a) (by
   obtain a|a:=Bool.or_eq_true_iff.mp g
   .exact .of_right<|AZ (hW a)
   .exact .of_left<|AZ (hW a)))
 |FloorDiv=>
  refine aA (λg a=> ?_)<|cz a
  refine aA (λg h=> ?_)<|fp.mp g
  exact dC d.tk<|av4 (hW g) (hX d a) (.inl<|PyProof.noPylong_small (hW h))
 |Mod=>exact dC d.tk<|ax0 (kQ a).1 (hX d (kQ a).2)
 |Pow=>
  refine aA (λg a=> ?_)<|cz a
  refine aA (λg i=> ?_)<|fp.mp g
  refine aA (λg h=> ?_)<|fp.mp g
  exact aa2 d (hW g) (hW h) (hW i) a
 |LShift=>
  refine dH (λg h a=> ?_)<|kQ a
  exact dC d.tk<|aw9 g.1 (Jf g.2 h) (hX d a)
 |RShift=>exact dC d.tk<|ax3 (kQ a).1 (hX d (kQ a).2)
 |BitAnd=>exact dC d.tk<|av0 (hX d a)
 |BitOr=>exact dC d.tk<|ax2 (hX d a)
 |_=>exact a.elim
theorem cJ.append(a:cb y i b K q)(c:cb y i b h7 d5):cb y i b (K++h7) (q++d5):=a.ind (M:=λK q=>cb y i b (K++h7)<|q++d5) c λ_ _ _ _ d _ e=> .cons d e
theorem cJ.length(a:cb y i b K q):K.length=q.length:=a.ind (M:=λK q=>K.length=q.length) O λ_ _ _ _ _ _ c=>bq (· +1) c
theorem cJ.get(e:cb y i b K q)(c:q[a]? =Q h):∃d,K[a]? =Q d/\bi y i b d h:=
 e.ind (M:=λK q=>∀a,q[a]? =Q h->∃d,K[a]? =Q d/\bi y i b d h) (λ_ c=>nomatch zy.symm.trans c) (λ_ _ _ _ f _ g a c=>by cases a with
  |zero=>(revert c;refine aL λj=> ?_;subst j);exact⟨_,O,f⟩
  |succ a=>exact g a c) a c
theorem eI.length(a:eA y i b b5 D):b5.length=D.length:=a.ind (M:=λb5 D=>b5.length=D.length) O λ_ _ _ _ _ _ _ c=>bq (· +1) c
theorem cJ.flatten(c:cb y i b K q):∀a:N,cb y i b (cP a K).flatten (cP a q).flatten:=by
 intro d
 induction d with
 |zero=>exact .nil
 |succ a e=>exact by rw [uc,El,uc,El];exact c.append<|e
theorem cJ.pick(c:cb y i b K q):∀a:M N,cb y i b (a.filterMap (K[·]?)) (a.filterMap (q[·]?)):=by
 intro f
 induction f with
 |nil=>exact .nil
 |cons g a d=>
  exact by
   rw [ii,ii] at ⊢
   cases e:q[g]? with
   |none=>rw [zx.mpr (by rw [c.length];exact zx.mp e)] at ⊢;exact d
   |some k=>refine ac (λl h j=> ?_)<|c.get e;rw [h] at ⊢;exact .cons j<|d
theorem hp(a:aT)(b:iR):∀c d,a.get? c=Q d->(a.push b).get? c=Q d:=λ_ _ e=>iQ b e
theorem iA(b:a<=2^20):a<=wU:=aK b<|bA O
theorem bg.alloc(d:am b c e)(f:0<a)(g:aR (e.heap.push g3) b (.ref e.heap.objs.size) h)(i:s h c): bg b e s (.ref e.heap.objs.size) {e with heap:=e.heap.push g3,toks:=a}:=⟨b,c,h,aH.grow<|hp _ _,d.grow f<|hp _ _,g,i⟩
theorem yf(d:am b c e)(f:dN e.heap b K q):aR (e.heap.push {cls:= .type "list",data:= .seq K.toArray a}) b (.ref e.heap.objs.size) (.lst q):= .lst (d.fresh<|fD _ (ba _)) ⟨a,gB _ O⟩<|f.car (aH.grow (b:=b) (e:=e) (a:=e.toks)<|hp _ _).car
theorem LF(d:am b c e)(f:dN e.heap b K q):aR (e.heap.push {cls:= .type "tuple",data:= .seq K.toArray a}) b (.ref e.heap.objs.size) (.tup q):= .tup (d.fresh<|fD _ (ba _)) ⟨_,gB _ O,O,a,O⟩<|f.car (aH.grow (b:=b) (e:=e) (a:=e.toks)<|hp _ _).car
theorem bg.led{x:G}(d:am b c e)(f:g3.isFreed=ai)(g:0<a)(h:ew (e.heap.push g3) (b.add e.heap.objs.size) e.heap.objs.size x)(i:s (.loc c.length) (c++ [x])):
 bg b e s (.ref e.heap.objs.size) {e with heap:=e.heap.push g3,toks:=a}:=
 ⟨_,_,_,aH.led (fD _<|ba _)<|hp _ _,d.led g (fD _<|ba _) (hp _ _) h ⟨_,gB _ f⟩,.loc<|d.len▸ar.add_at b _,i⟩
theorem Rw(f:e.heap.get? a=U)(g:∀c d,e.heap.get? c=Q d->i.get? c=Q d):cs (bh b) (bh<|b.add a) e.heap i b (b.add a):=(aH.led (a:=e.toks) f g).car
theorem Wv(c:dN e.heap b K q):ew (e.heap.push {cls:= .type "list",data:= .seq K.toArray a}) (b.add e.heap.objs.size) e.heap.objs.size (.list q):= ⟨K,⟨a,gB _ O⟩,c.car<|Rw (fD _<|ba _) (hp _ _)⟩
theorem Dd(i:am b c e)(a:aR e.heap b k h)(d:lf c h=Q q):
 ∃f,∃g:M aa,k= .ref f/\dN e.heap b g q/\(e.heap.PlainList f g.toArray\/e.heap.IsTuple f g.toArray):=by
 revert b c e k h q i a d
 apply U6
 generalize P5 _=e,Q5 _=k,Q4 _=h,Q3 _=q,Q2 _=c,Q1 _=b
 intro i a d
 cases h with
 |tup l=>obtain⟨_,_,rfl,_,j,a⟩:=a.inv;cases d;exact⟨_,_,O,a,.inr j⟩
 |lst l=>obtain⟨_,_,rfl,_,j,a⟩:=a.inv;cases d;exact⟨_,_,O,a,.inl j⟩
 |loc r=>
  obtain⟨f,rfl,m⟩:=a.inv
  obtain⟨s,n,d⟩:=eY d
  cases Dc d
  obtain⟨g,o,p⟩:=i.mo _ _ _ m n;exact⟨_,_,O,p,.inl o⟩
 |_=>cases d
theorem ZY(d:am b c e)(i:aR e.heap b k (.lst q))(j:0<=a5)(l:a5<1048577)(m:q.length*a5.toNat<=1048576)(n:s (.lst<|(cP a5.toNat q).flatten) c):
 an (az aq ap) f (ur .Mult k<|.int a5 c1) (bg b e s) aB e:=by
 refine gb (λo o p u a g=> ?_)<|i.inv;obtain rfl:=p
 .
   revert a;refine ay λh a=> ?_
   refine dC d.tk (wpAny_binaryOp_repeat_ref (T:= "list") (U:= "int") (by decide) ⟨_,a,O⟩ (λr=>Fz r a5 c1) noFill_list_mul F.fills_int_mul Ov repeat_list F.slot_int_index.lookup
    (qv Ov (Fz e a5 c1) F.entry_int_rmul (F.args_int_rmul_2 _ _) (int___rmul___int_list a5 c1 _ _ h)
     ⟨a,O,⟨_,a,O⟩,qv F.slot_list_mul ⟨_,a,O⟩ F.entry_list_mul (F.args_list_mul_2 _ _)
      (ax9 _ _ h a5 c1 (by simp [ET];exact⟨aw 0 (eS<|-9223372036854775808) F (.p 1 0 F .z) (aG _) O j,aw 0 (F+1) 9223372036854775808 (.p 1 (F+1) 1048577 .z) (aG _) O l⟩) (by simp [g.length];exact aK ‹_› (bA O))<|by simp [ay3,g.length];exact iA m)
      ⟨a,λt=> ?_⟩⟩))
   rw [aw8]
   exact bg.alloc d t (yf d<|g.flatten _) n
theorem Zu(a:am b c e)(m:aR e.heap b k (.lst q))(n:aR e.heap b Y (.lst d5))(o:q.length+d5.length<=1048576)(p:s (.lst<|q++d5) c):
 an (az aq ap) f (ur .Add k Y) (bg b e s) aB e:=by
 refine gb (λd d g t h j=> ?_)<|m.inv;obtain rfl:=g
 refine gb (λd d g u i l=> ?_)<|n.inv;obtain rfl:=g
 .
   (revert h;refine ay λv h=> ?_);(revert i;refine ay λw i=> ?_)
   refine dC a.tk<|P.add_list h i (λr=> ?_) (by simpa [j.length,l.length] using iA o)
   rw [List.append_toArray]
   exact bg.alloc a r (yf a<|j.append l) p
theorem Ia(a:BU h2=X):h2= .Add:=by cases h2<;>first|rfl|exact cY a
theorem TW(a:Ii h2=X):h2= .Mult:=by cases h2<;>first|rfl|exact cY a
theorem Zx(g:am b c e)(i:aR e.heap b k h)(j:aR e.heap b Y L)(a:AW h2 h L c s):
 an (az aq ap) f (ur h2 k Y) (bg b e s) aB e:=by
 revert b c e f h2 h L k Y s g i j a
 apply U10
 generalize P9 _=f,Q9 _=h2,Q8 _=e,Q7 _=k,Q6 _=Y,Q5 _=h,Q4 _=L,Q3 _=c,Q2 _=b,Q1 _=s
 intro g i j a
 cases h with
 |int h=>
  refine ac (λL d a=> ?_)<|hO a;obtain rfl:=d
  (refine ay (λn d=> ?_)<|i.int_inv;obtain rfl:=d);(refine ay (λm d=> ?_)<|j.int_inv;obtain rfl:=d);exact Zy g a
 |str h=>
  refine aA (λl a=> ?_)<|cz a
  refine ac (λL d a=> ?_)<|gf a;obtain rfl:=d
  cases Ia l
  (refine ay (λn d=> ?_)<|i.str_inv;obtain rfl:=d);(refine ay (λm d=> ?_)<|j.str_inv;obtain rfl:=d)
  exact Zv g (iA a.1) a.2
 |lst h=>
  obtain⟨l,a⟩|⟨_,a⟩:=uF a
  .cases Ia l
   refine ac (λL d a=> ?_)<|qX a;obtain rfl:=d
   exact Zu g i j a.1 a.2
  .refine aA (λl a=> ?_)<|cz a
   cases TW l
   refine ac (λL d a=> ?_)<|hO a;obtain rfl:=d
   refine ay (λm d=> ?_)<|j.int_inv;obtain rfl:=d
   exact ZY g i a.1.1 a.1.2.1 a.1.2.2 a.2
 |_=>exact a.elim
theorem XT{a:ag E}{b:E->f5}{c:f5}(e:a.map b=Q c):∃d,a=Q d/\b d=c:=zX.mp e
theorem bi.reads(o:bi y i b k h):∀{c:mx},R.data h=Q c->∃d,um i k c d:=λ{c} a=>
 bi.rec (motive_1:=λk h _=>∀c,R.data h=Q c->∃d,um i k c d) (motive_2:=λp q _=>∀e,R.datas q=Q e->∃d,wJ i p e d) (motive_3:=λ_ _ _=>kc)
  (λc a=>by(revert a;refine aL λf=> ?_;subst f);exact⟨_,.none⟩) (λr c a=>by(revert a;refine aL λf=> ?_;subst f);exact⟨_,.bool r⟩) (λs g c a=>by(revert a;refine aL λf=> ?_;subst f);exact⟨_,.int s g⟩) (λh g c a=>by(revert a;refine aL λf=> ?_;subst f);exact⟨_,.str h g⟩) (λ_ c a=>(by exact aU a))
  (λt g _ m c a=>gU (e:=λc=>∃d,um i _ c d) a λe n=>by(revert g;refine dt λE j u v=> ?_;refine ay (λw x=> ?_)<|v);refine ay (λd l=> ?_)<|m e n;exact⟨_,.tuple j u x l⟩)
  (λt g _ m c a=>gU (e:=λc=>∃d,um i _ c d) a λe n=>by(revert g;refine ay λw j=> ?_);refine ay (λd l=> ?_)<|m e n;exact⟨_,.list j O O l⟩)
  (λ_ _ _ _ _ c a=>(by exact aU a)) (λ_ c a=>(by exact aU a)) (λ_ c a=>(by exact aU a)) (λ_ _ c a=>(by exact aU a)) (λ_ _ _ _ c a=>(by exact aU a))
  (λe a=>by(revert a;refine aL λf=> ?_;subst f);exact⟨_,.nil⟩) (λ_ _ z A e a=>by refine ac (λc j a=> ?_)<|nU a;exact gU (e:=λc=>∃d,wJ i _ c d) a λe B=>by refine ay (λd l=> ?_)<|z c j;refine ay (λK D=> ?_)<|A e B;exact⟨_,.cons l D⟩)
  eG (λ_ _ _ _=>eG) o c a
theorem cJ.reads(f:cb y i b K q):∀{a:M mx},R.datas q=Q a->∃d,wJ i K a d:=λ{a} c=>f.ind (M:=λK q=>∀a,R.datas q=Q a->∃d,wJ i K a d) (λa c=>by(revert c;refine aL λg=> ?_;subst g);exact⟨_,.nil⟩) (λ_ _ _ _ h _ j a c=>by refine ac (λe k c=> ?_)<|nU c;exact gU (e:=λe=>∃d,wJ i _ e d) c λa l=>by refine ay (λd m=> ?_)<|h.reads k;refine ay (λo n=> ?_)<|j a l;exact⟨_,.cons m n⟩) a c
theorem Ct{f:M mx}(h:am b c e)(i:b.l[a]? =Q (Q j))(d:c[a]? =Q (.list q))(k:R.datas q=Q f):∃g,um e.heap (.ref j) (.list f) g:=by refine ac (λo l m=> ?_)<|h.mo _ _ _ i d;refine ay (λp n=> ?_)<|l;refine ay (λg d=> ?_)<|cJ.reads m k;exact⟨_,.list n O O d⟩
theorem yt{f:mx}(l:am b c e)(g:aR e.heap b k h)(a:uM c h=Q f):∃m,um e.heap k f m:=by
 by_cases i:∃j,h= .loc j
 .revert i;refine ay λj d=> ?_;obtain rfl:=d
  refine ac (λs d n=> ?_)<|g.inv;obtain rfl:=d
  .
    refine ac (λt o a=> ?_)<|eY a
    refine ac (λu p a=> ?_)<|eY a
    refine ac (λv q r=> ?_)<|XT a;obtain rfl:=r
    cases Dc p
    exact Ct l n o q
 .refine bi.reads g ?_;cases h<;>first|exact a|exact bD ⟨_,O⟩ i
def fb(c:al)(d:ah->Prop)(e:aa)(f:al):Prop:=∃a b,e= .bool a/\0<b/\f={c with toks:=b}/\d a
theorem fb.here(a:0<e.toks)(b:d7 n):fb e d7 (.bool n) e:=⟨n,e.toks,O,a,O,b⟩
theorem aE0(b:a+100<hJ):a+64<hJ:=cd (by exact af 0 (C+64) (C+100) .z (bj _) O) b
theorem ZG(d:am b c e)(g:f.units+64<hJ)(i:aR e.heap b k h)(j:aR e.heap b Y L)(a:Br c h L d7):
 an (az aq ap) f (kH .Eq k Y) (fb e d7) aB e:=by
 refine ac (λq l a=> ?_)<|cF a
 refine dt (λr m a n=> ?_)<|cF a
 refine ay (λs o=> ?_)<|yt d i l
 refine ay (λt p=> ?_)<|yt d j m
 exact SeqAt.compareEq_shaped o p a.1 a.2 g<|fb.here d.tk n
theorem ZH(d:am b c e)(g:f.units+64<hJ)(i:aR e.heap b k h)(j:aR e.heap b Y L)(a:Br c h L λl=>d7 !l):
 an (az aq ap) f (kH .NotEq k Y) (fb e d7) aB e:=by
 refine ac (λr m a=> ?_)<|cF a
 refine dt (λs n a o=> ?_)<|cF a
 refine ay (λt p=> ?_)<|yt d i m
 refine ay (λu q=> ?_)<|yt d j n
 exact SeqAt.compareNe_shaped p q a.1 a.2 g<|fb.here d.tk o
theorem Lm(a b:I):(a.cps.toList==b.cps.toList)=aI (a=b):=by
 by_cases c:a=b
 .subst c;simp
 .rw [cN c,eP];exact λd=>c<|An (pQ.mp d)
theorem ZJ(g:am b c e)(l:f.units+64<hJ)(i:aR e.heap b k h)(j:aR e.heap b Y L)(d:xy h L c d7):
 an (az aq ap) f (kH .Eq k Y) (fb e d7) aB e:=by
 cases h with
 |int h=>(refine ac (λL a d=> ?_)<|hO d;obtain rfl:=a);(refine ay (λm a=> ?_)<|i.int_inv;obtain rfl:=a);(refine ay (λn a=> ?_)<|j.int_inv;obtain rfl:=a);exact P.eq_int<|fb.here g.tk d
 |str h=>(refine ac (λL a d=> ?_)<|gf d;obtain rfl:=a);(refine ay (λm a=> ?_)<|i.str_inv;obtain rfl:=a);(refine ay (λn a=> ?_)<|j.str_inv;obtain rfl:=a);exact P.eq_str<|fb.here g.tk (by rw [Lm];exact d)
 |_=>exact ZG g l i j d
theorem ZZ(g:am b c e)(l:f.units+64<hJ)(i:aR e.heap b k h)(j:aR e.heap b Y L)(d:xy h L c λm=>d7 !m):
 an (az aq ap) f (kH .NotEq k Y) (fb e d7) aB e:=by
 cases h with
 |int h=>(refine ac (λL a d=> ?_)<|hO d;obtain rfl:=a);(refine ay (λn a=> ?_)<|i.int_inv;obtain rfl:=a);(refine ay (λo a=> ?_)<|j.int_inv;obtain rfl:=a);exact P.ne_int<|fb.here g.tk d
 |str h=>(refine ac (λL a d=> ?_)<|gf d;obtain rfl:=a);(refine ay (λn a=> ?_)<|i.str_inv;obtain rfl:=a);(refine ay (λo a=> ?_)<|j.str_inv;obtain rfl:=a);exact P.ne_str<|fb.here g.tk (by show d7 (!(_==_));rw [Lm];exact d)
 |_=>exact ZH g l i j d
theorem ZW(j:am b c e)(l:aR e.heap b k h)(m:aR e.heap b Y L)(a:Jg h L d7):
 an (az aq ap) f (kH .Lt k Y) (fb e d7) aB e:=by
 cases h with
 |int h=>(refine ac (λL d a=> ?_)<|hO a;obtain rfl:=d);(refine ay (λn d=> ?_)<|l.int_inv;obtain rfl:=d);(refine ay (λo d=> ?_)<|m.int_inv;obtain rfl:=d);exact P.lt_int<|fb.here j.tk a
 |str h=>(refine ac (λL d a=> ?_)<|gf a;obtain rfl:=d);(refine ay (λn d=> ?_)<|l.str_inv;obtain rfl:=d);(refine ay (λo d=> ?_)<|m.str_inv;obtain rfl:=d);exact P.lt_str<|fb.here j.tk a
 |bool g=>
  refine ac (λi d a=> ?_)<|Qh a;obtain rfl:=d
  have p:=l.bool_inv;have q:=m.bool_inv;subst p q
  have r:(!g&&i)=aI ((if g=X then(1:H) else 0)<if i=X then(1:H) else 0):=by cases g<;>cases i<;>rfl
  exact compareOp_gives (op:= .Lt) (T:= "bool") (Og e g) (Og e i) F.slot_bool_lt F.entry_int_lt (F.args_int_lt_2 _ _) (av6 g i) (λh=>(by cases h))<|fb.here j.tk (by have a:d7 (!g&&i):=a;rw [r] at a;exact a)
 |_=>exact a.elim
theorem CZ{j:H->H->ah}(o:am b c e)(p:aR e.heap b k h)(q:aR e.heap b Y L)(a:rg h L λd g=>d7<|j d g)
 (r:∀(d g:H) (l m:cH) (n:aa->al->Prop),n (.bool<|j d g) e->an (az aq ap) f (kH i0 (.int d l)<|.int g m) n aB e):
 an (az aq ap) f (kH i0 k Y) (fb e d7) aB e:=by
 refine ac (λd s a=> ?_)<|hO a
 refine ac (λg t a=> ?_)<|hO a
 subst s t
 (refine ay (λl i=> ?_)<|p.int_inv;obtain rfl:=i);(refine ay (λm i=> ?_)<|q.int_inv;obtain rfl:=i);exact r _ _ _ _ _<|fb.here o.tk a
theorem eI.look{k:I}(e:eA y c0 b b5 D):
 (lI b5 k=U/\D.lookup k=U)\/∃a x,lI b5 k=Q a/\D.lookup k=Q x/\bi y c0 b a x:=
 e.ind (M:=λb5 D=>(lI b5 k=U/\D.lookup k=U)\/∃a x,lI b5 k=Q a/\D.lookup k=Q x/\bi y c0 b a x) (.inl ⟨O,O⟩) λc a x b5 D f _ g=>by
  by_cases d:c=k
  .subst d;exact .inr ⟨a,x,by simp [lI],by simp [fa],f⟩
  .have h:lI ((c,a)::b5) k=lI b5 k:=by simp [lI,d]
   have j:fa k ((c,x)::D)=fa k D:=by simp [fa,eP.mpr (jr d)]
   rw [h,j];exact g
theorem al5(d:eA y i b b5 D):(lI b5 g).isSome=(D.lookup g).isSome:=by obtain⟨a,c⟩|⟨_,_,a,c,_⟩:=d.look (k:=g)<;>rw [a,c]<;>rfl
theorem HZ(c:aR e.heap b k h)(d:aR e.heap b Y L)(a:vg h L=Q n):plainIs k Y=X/\(k==Y)=n:=by
 revert b e h L k Y n c d a;apply U7;generalize P6 _=n,Q6 _=e,Q5 _=k,Q4 _=Y,Q3 _=h,Q2 _=L,Q1 _=b;intro c d a
 cases L with
 |none=>
  cases d.none_inv
  cases h with
  |none=>cases c.inv;cases a;exact⟨O,O⟩
  |bool _=>cases c.inv;cases a;exact⟨O,O⟩
  |int _=>obtain⟨_,rfl⟩:=c.inv;cases a;exact⟨O,O⟩
  |str _=>obtain⟨_,rfl⟩:=c.inv;cases a;exact⟨O,O⟩
  |loc _=>obtain⟨_,rfl,_⟩:=c.inv;cases a;exact⟨O,O⟩
  |tup _=>obtain⟨_,_,rfl,_⟩:=c.inv;cases a;exact⟨O,O⟩
  |lst _=>obtain⟨_,_,rfl,_⟩:=c.inv;cases a;exact⟨O,O⟩
  |dct _=>obtain⟨_,_,rfl,_⟩:=c.inv;cases a;exact⟨O,O⟩
  |raw k=>cases c.inv;cases k<;>first|(cases a;exact⟨O,O⟩)|cases a
  |blt n=>cases c.inv;cases a
  |rng _ _=>obtain⟨_,_,_,_,rfl,_⟩:=c.inv;cases a;exact⟨O,O⟩
  |clo _ _ _ _ _=>obtain⟨_,_,_,rfl,_⟩:=c.inv;cases a;exact⟨O,O⟩
 |bool f=>
  cases d.bool_inv
  cases h with
  |bool g=>cases c.bool_inv;cases a;exact⟨O,by cases g<;>cases f<;>rfl⟩
  |_=>cases a
 |_=>cases a
theorem HW(k:∀j,bM.get? j=U->(j==cR)=ai)(h:am b c e)(i:b.l[a]? =Q (Q j))(l:c[a]? =Q (.dict d D)):
 (j==cR)=ai/\∃f,e.heap.DictOf (fB aq ap) j f/\∀g,(lI f g).isSome=(D.lookup g).isSome:=by
 refine ac (λf m n=> ?_)<|h.mo _ _ _ i l
 exact⟨k _<|h.out _ _ i,f,qM m,λg=>al5 n⟩
theorem ZN(g:am b c e)(l:f.units+70<hJ)(i:aR e.heap b k h)(j:aR e.heap b Y L)(a:xK h L c d7)(m:∀n,bM.get? n=U->(n==cR)=ai):an (az aq ap) f (kH .In k Y) (fb e d7) aB e:=by
 revert b c e f h L k Y d7 g l i j a m;apply U9;generalize P8 _=f,Q8 _=d7,Q7 _=e,Q6 _=k,Q5 _=Y,Q4 _=h,Q3 _=L,Q2 _=c,Q1 _=b;intro g l i j a m
 cases L with
 |str L=>(refine ac (λh d a=> ?_)<|gf a;obtain rfl:=d);(refine ay (λp d=> ?_)<|i.str_inv;obtain rfl:=d);(refine ay (λE d=> ?_)<|j.str_inv;obtain rfl:=d);exact P.in_str<|fb.here g.tk a
 |loc K=>
  refine ac (λs q a=> ?_)<|cF a;refine ac (λn d r=> ?_)<|j.inv;obtain rfl:=d
  .
    cases s with
    |dict S t=>
     refine ac (λh d a=> ?_)<|gf a;obtain rfl:=d
     refine ay (λp d=> ?_)<|i.str_inv;obtain rfl:=d
     refine aA (λo u=> ?_)<|HW m g r q;refine ac (λT v w=> ?_)<|u
     exact dC g.tk<|wpAny_in_of (knd:=fB aq ap) (k:=_) (sp aq ap _ p) o v.mapOf λx=>⟨_,_,O,x,O,by rw [w];exact a⟩
    |list t=>
     refine ac (λV o a=> ?_)<|cF a
     refine dt (λZ y a z=> ?_)<|cF a
     refine ay (λa0 A=> ?_)<|i.reads o
     refine ay (λa1 B=> ?_)<|Ct g r q y
     refine SeqAt.in_list_reads B A ?_ (lF a.1) ?_<|fb.here g.tk z
     .have:=lF a.2;simpa [oK] using this
     .have D:=OF a.1;exact af 0 (C+1+J+1) aj (.p 1 (C+70+1) aj<|.p 1 bo 64 (.p 1 J bo .z)) (di _ _ _ _) O l D<|wt _ _
    |_=>exact a.elim
 |_=>exact a.elim
theorem aa1(g:am b c e)(l:f.units+70<hJ)(i:aR e.heap b k h)(j:aR e.heap b Y L)(a:xK h L c λs=>d7 !s)(m:∀n,bM.get? n=U->(n==cR)=ai):an (az aq ap) f (kH .NotIn k Y) (fb e d7) aB e:=by
 revert b c e f h L k Y d7 g l i j a m;apply U9;generalize P8 _=f,Q8 _=d7,Q7 _=e,Q6 _=k,Q5 _=Y,Q4 _=h,Q3 _=L,Q2 _=c,Q1 _=b;intro g l i j a m
 cases L with
 |str L=>(refine ac (λh d a=> ?_)<|gf a;obtain rfl:=d);(refine ay (λp d=> ?_)<|i.str_inv;obtain rfl:=d);(refine ay (λK d=> ?_)<|j.str_inv;obtain rfl:=d);exact P.notIn_str<|fb.here g.tk a
 |loc S=>
  refine ac (λt q a=> ?_)<|cF a;refine ac (λn d r=> ?_)<|j.inv;obtain rfl:=d
  .
    cases t with
    |dict T u=>
     refine ac (λh d a=> ?_)<|gf a;obtain rfl:=d
     refine ay (λp d=> ?_)<|i.str_inv;obtain rfl:=d
     refine aA (λo v=> ?_)<|HW m g r q;refine ac (λV w x=> ?_)<|v
     exact dC g.tk<|wpAny_notIn_of (knd:=fB aq ap) (k:=_) (sp aq ap _ p) o w.mapOf λy=>⟨_,_,O,y,O,by rw [x];exact a⟩
    |list u=>
     refine ac (λZ o a=> ?_)<|cF a
     refine dt (λa0 z a A=> ?_)<|cF a
     refine ay (λa1 B=> ?_)<|i.reads o
     refine ay (λa2 D=> ?_)<|Ct g r q z
     refine SeqAt.notIn_list_reads D B ?_ (lF a.1) ?_<|fb.here g.tk A
     .have:=lF a.2;simpa [oK] using this
     .have E:=OF a.1;exact af 0 (C+1+J+1) aj (.p 1 (C+70+1) aj<|.p 1 bo 64 (.p 1 J bo .z)) (di _ _ _ _) O l E<|wt _ _
    |_=>exact a.elim
 |_=>exact a.elim
theorem ZF(d:am b c e)(n:f.units+70<hJ)(g:aR e.heap b k h)(i:aR e.heap b Y L)(a:lP i0 h L c d7)
 (r:∀j,bM.get? j=U->(j==cR)=ai):an (az aq ap) f (kH i0 k Y) (fb e d7) aB e:=by
 have s:f.units+64<hJ:=by exact af 0 (C+64+1) J (.p 1 (C+70+1) J .z) (aN _ _) O n
 cases i0 with
 |Lt=>exact ZW d g i a
 |LtE=>exact CZ d (j:=λj l=>aI<|j<=l) g i a λ_ _ _ _ _ m=>P.le_int m
 |Gt=>exact CZ d (j:=λj l=>aI<|j>l) g i a λ_ _ _ _ _ m=>P.gt_int m
 |GtE=>exact CZ d (j:=λj l=>aI<|j>=l) g i a λ_ _ _ _ _ m=>P.ge_int m
 |Eq=>exact ZJ d s g i a
 |NotEq=>exact ZZ d s g i a
 |Is=>
  refine ac (λl o a=> ?_)<|cF (a:cm (vg h L) d7)
  refine aA (λp q=> ?_)<|HZ g i o;exact wpAny_is_plain p<|fb.here d.tk (by rw [q];exact a)
 |IsNot=>
  refine ac (λl o a=> ?_)<|cF (a:cm (vg h L) λt=>d7 !t)
  refine aA (λp q=> ?_)<|HZ g i o;exact wpAny_isNot_plain p<|fb.here d.tk (by rw [q];exact a)
 |In=>exact ZN d n g i a r
 |NotIn=>exact aa1 d n g i a r
def NX(b:al)(c:ah->Prop)(d:ah)(e:al):Prop:=∃a,0<a/\e={b with toks:=a}/\c d
theorem aa9(d:am b c e)(g:aR e.heap b k h)(a:pO h d7):an (az aq ap) f (uw k) (NX e d7) aB e:=by
 cases h with
 |bool p=>have j:=g.bool_inv;subst j;exact AI ⟨e.toks,d.tk,O,a⟩
 |int q=>(refine ay (λl i=> ?_)<|g.int_inv;obtain rfl:=i);exact P.truthy_int ⟨e.toks,d.tk,O,a⟩
 |none=>cases g.none_inv;exact ax5 ⟨e.toks,d.tk,O,a⟩
 |str h=>
  refine ay (λl i=> ?_)<|g.str_inv;obtain rfl:=i;have m:(((h.length:N):H) !=0)=(h.length !=0):=by cases h.length<;>rfl
  exact dC d.tk<|P.truthy_str (by have:=a.1;exact λn=>aD (.p 1 F 1048576<|.p 1 9223372036854775808 F .z) (aG _) O (ak this) n) λo=>⟨_,o,O,by rw [m];exact a.2⟩
 |_=>exact a.elim
theorem aa0(a:am b c e)(d:aR e.heap b k (.int a5))(g:s (.int<|-a5) c):an (az aq ap) f (unaryOp .USub k) (bg b e s) aB e:=by refine ay (λi h=> ?_)<|d.int_inv;obtain rfl:=h;exact dC a.tk<|P.neg_int (hX a g)
theorem By(g:am b c e)(f:aR e.heap b k h)(a:xq c h=Q D)(i:∀d,bM.get? d=U->(d==cR)=ai):
 ∃d,∃j:M (I×aa),k= .ref d/\iq e.heap b j D/\e.heap.DictOf (fB aq ap) d j/\(d==cR)=ai:=by
 revert b c e k h D g f a i
 apply U6
 generalize P5 _=e,Q5 _=k,Q4 _=h,Q3 _=D,Q2 _=c,Q1 _=b
 intro g f a i
 cases h with
 |dct r=>obtain⟨_,_,rfl,_,m,n,f⟩:=f.inv;cases a;exact⟨_,_,O,f,n,m⟩
 |loc s=>
  obtain⟨d,rfl,l⟩:=f.inv
  obtain⟨t,o,a⟩:=eY a
  obtain⟨_,rfl⟩:=Sb a
  obtain⟨u,p,q⟩:=g.mo _ _ _ l o;exact⟨_,_,O,q,qM p,i _<|g.out _ _ l⟩
 |_=>cases a
theorem pm:K.toArray[a]? =K[a]? :=by simp
theorem ab4(b:qB a5 a=Q d):(0<=a5/\a5<a/\d=a5.toNat)\/(a5<0/\ -(a:H)<=a5/\d=(a5+a).toNat):=by
 unfold qB at b;dsimp only at b;by_cases e:a5<0
 .rw [bK e] at b
  by_cases c:(aI (0<=a5+(a:H))&&aI (a5+(a:H)<(a:H)))=X
  .rw [bK c] at b;(revert b;refine aL λf=> ?_;subst f)
   simp only [eJ,Bv] at c
   exact .inr ⟨e,by exact aw 0 (iL F) W (.p 1 0 (W+F) .z) (aP _ _) O c.1,O⟩
  .rw [bF c] at b;exact aU b
 .rw [bF e] at b
  by_cases c:(aI (0<=a5)&&aI (a5<(a:H)))=X
  .rw [bK c] at b;(revert b;refine aL λf=> ?_;subst f)
   simp only [eJ,Bv] at c
   exact .inl ⟨c.1,c.2,O⟩
  .rw [bF c] at b;exact aU b
theorem ZS(d:am b c e)(i:aR e.heap b k h)(v:a5.natAbs<9223372036854775808)(a:vh h a5 c s):
 an (az aq ap) f (wQ k<|.int a5 c1) (bg b e s) aB e:=by
 revert b c e f h a5 c1 k s d i v a
 apply U9
 generalize P8 _=f,Q8 _=a5,Q7 _=e,Q6 _=c1,Q5 _=k,Q4 _=h,Q3 _=c,Q2 _=b,Q1 _=s
 intro d i v a
 by_cases j:∃l,h= .str l
 .revert j;refine ay λl m=> ?_;obtain rfl:=m
  refine ay (λE m=> ?_)<|i.str_inv;obtain rfl:=m
  refine ac (λK n a=> ?_)<|cF a
  exact dC d.tk<|P.getItem_str (by rw [cN (by lia),cN (by lia)] at ⊢;rfl) n λy=>bg.of d y (.str _ _) a
 .have a:cm (lf c h) λo=>bW (aI<|o.length<4611686018427387904) (cm (lT o a5) λk=>s k c):=by
   cases h<;>first|exact a|exact bD ⟨_,O⟩ j
  refine ac (λo n a=> ?_)<|cF a;refine aA (λz a=> ?_)<|kQ a;refine ac (λl w a=> ?_)<|cF a;refine dd (λL A B p g=> ?_)<|Dd d i n;obtain rfl:=B;unfold lT at w;refine ac (λS D j=> ?_)<|Option.bind_eq_some_iff.mp w;refine ac (λT q r=> ?_)<|p.get j;have t:=D;rw [<-p.length] at t;have V:A.length<4611686018427387904:=by rw [p.length] at ⊢;exact z
  obtain g|g:=g
  .obtain⟨u,x,rfl⟩|⟨u,x,rfl⟩:=ab4 t
   .exact wpAny_getItem_list g.isList u (by lia) (by rw [pm] at ⊢;exact q)<|bg.here d r a
   .exact wpAny_getItem_list_neg g.isList u (by simpa using x) (by lia) (by rw [pm,fv] at ⊢;exact q)<|bg.here d r a
  .exact av5 g (by lia) (by lia) (by rw [fv] at ⊢;exact t) (by rw [pm] at ⊢;exact q)<|bg.here d r a
theorem ZR(d:am b c e)(i:aR e.heap b k h)(j:aR e.heap b Y L)(a:xP h L c s)(l:∀m,bM.get? m=U->(m==cR)=ai):
 an (az aq ap) f (wQ k Y) (bg b e s) aB e:=by
 revert b c e f h L k Y s d i j a l
 apply U9
 generalize P8 _=f,Q8 _=e,Q7 _=k,Q6 _=Y,Q5 _=h,Q4 _=L,Q3 _=c,Q2 _=b,Q1 _=s
 intro d i j a l
 cases L with
 |str q=>
  refine ay (λo n=> ?_)<|j.str_inv;obtain rfl:=n
  refine ac (λA r a=> ?_)<|cF a
  refine ac (λB p a=> ?_)<|cF a
  refine gb (λm D t u v E=> ?_)<|By d i r l;obtain rfl:=t
  obtain⟨_,g⟩|⟨K,P,w,g,x⟩:=u.look (k:=q)
  .rw [p] at g;exact rr g
  .rw [p] at g;(revert g;refine aL λy=> ?_;subst y);exact dC d.tk<|wpAny_getItem_of (sp aq ap _ o) v.mapOf w λz=>bg.of d z x a
 |int S=>
  refine ay (λo n=> ?_)<|j.int_inv;obtain rfl:=n
  exact ZS d i (kQ a).1 (kQ a).2
 |_=>exact a.elim
theorem iF(c:kC j i c0):∀a b,a≠j->i.get? a=Q b->c0.get? a=Q b:=λa _ d e=>(c.2 a d).trans e
theorem oj(c:b.l[a]? =Q (Q j))(d:kC j e.heap i)(f:∃g,i.get? j=Q g):cs (bh b) (bh b) e.heap i b b:=(aH.upd (n:=e.toks) c (iF d) f).car
theorem fy.upd{n:N}{x:G}(l:am b c e){d:E->M G->Prop}{f:E}(g:b.l[a]? =Q (Q j))(h:kC j e.heap i)(m:0<n)(o:ew i b j x)(k:∃p,i.get? j=Q p) (q:d f (c.set a x)):fy b e d f {e with heap:=i,toks:=n}:=⟨b,_,aH.upd g (iF h) k,l.upd m g (iF h) o k,q⟩
theorem af6(a:g∉b5.map (·.1)):b5.map (λb=>if b.1=g then(b.1,k) else b)=b5:=by
 induction b5 with
 |nil=>rfl
 |cons d e c=>rw [da,bO,not_or] at a;rw [da,bF (jr a.1),c a.2]
theorem af7{a:I×aa}(c:((a::b5).map (·.1)).Nodup):so (a::b5) g k=if a.1=g then(a.1,k)::b5 else a::so b5 g k:=by
 rw [da,lx] at c;unfold so;by_cases b:a.1=g
 .subst b;simp only [Eg,decide_true,Bool.true_or,pp,da];rw [af6 c.1]
 .simp only [Eg,cN b,Bool.false_or,da,bF b];split<;>rfl
theorem DG(a:I×R)(c:M (I×R))(b:I)(d:R):gK (a::c) b d=if a.1=b then(a.1,d)::c else a::gK c b d:=by
 refine(?_:(bif aI (a.1=b) then(a.1,d)::c else a::gK c b d)=_);by_cases e:a.1=b
 .rw [ck e,bK e];rfl
 .rw [cN e,bF e];rfl
theorem eI.stored(c:bi y i b k h)(a:eA y i b b5 D):(b5.map (·.1)).Nodup->eA y i b (so b5 g k) (gK D g h):=
 a.ind (M:=λb5 D=>(b5.map (·.1)).Nodup->eA y i b (so b5 g k) (gK D g h)) (λ_=> .cons c .nil) λ_ _ _ _ _ e a f d=>by
  rw [af7 d,DG];split
  .exact .cons c a
  .exact .cons e<|f (lx.mp d).2
theorem GL(b:i.DictOf (fB aq ap) j b5):(b5.map (·.1)).Nodup:=(by(revert b;refine CE λa a a a a a a a c=> ?_);exact c)
theorem qN(c:i.DictOf (fB aq ap) j b5):∃a,i.get? j=Q a:=(by(revert c;refine iC λa b b d b=> ?_);exact⟨a,d⟩)
theorem aa5(i:am b c e)(q:aR e.heap b k h)(r:aR e.heap b Y L)(s:aR e.heap b f0 d2)(d:KL h L d2 c e0):
 an (az aq ap) f (setItem k Y f0) (fy b e λ(_:ek) t=>e0 t) aB e:=by
 refine ac (λA a u=> ?_)<|sW d;obtain rfl:=a
 refine ac (λB a v=> ?_)<|gf u;obtain rfl:=a
 refine dw (λj D w d=> ?_)<|GI v
 refine ay (λx a=> ?_)<|r.str_inv;obtain rfl:=a
 refine ac (λE a l=> ?_)<|q.inv;obtain rfl:=a
 .
   refine ac (λK g n=> ?_)<|i.mo _ _ _ l w
   have g:=qM g
   refine dC i.tk<|wpAny_setItem_pairs (sp aq ap _ x) g (λP m o y=> ?_) (by rw [n.length];exact iA<|dx d.1)
   have p:=oj (e:=e) l o<|qN m
   refine ay (λj z=> ?_)<|xr m
   exact fy.upd (x:= .dict j _) i l o y ⟨_,z,eI.stored (s.car p) (n.car p)<|GL g⟩ (qN m)<|d.2 j
theorem cJ.tail(a:cb y i b K q):cb y i b K.tail q.tail:=by
 cases a with
 |nil=>exact .nil
 |cons _ c=>exact c
theorem cJ.dropLast(a:cb y i b K q):cb y i b K.dropLast q.dropLast:=
 a.ind (M:=λK q=>cb y i b K.dropLast q.dropLast) .nil λ_ _ K q c a d=>by cases a with
  |nil=>exact .nil
  |cons e f=>exact .cons c d
theorem rj(a:i.PlainList j f6):∃b,i.get? j=Q b:=(by(revert a;refine ay λd c=> ?_);exact⟨_,c⟩)
theorem Kz(i:am b c e)(k:b.l[a]? =Q (Q j))(r:c[a]? =Q (.list q))(s:ET a5=X)(t:qB a5 q.length=Q d)(u:q.length<=1048576)
 (v:∀(o:ao->Prop) (g:aT) (l:M aa),cb o g b l q->∃h:M aa,l.toArray.eraseIdxIfInBounds d=h.toArray/\cb o g b h d5) (g:e0 (c.set a<|.list d5)):
 an (az aq ap) f (Fn (.ref j)<|.int a5 c1) (fy b e λ(_:ek) w=>e0 w) aB e:=by
 refine ac (λl x m=> ?_)<|i.mo _ _ _ k r
 refine wpAny_delItem_plain x (k:=d) s (by rw [fv,m.length];exact t) (λB n p=> ?_)<|by rw [fv,m.length];exact iA u
 have y:=oj (e:=e) k p<|rj n
 refine ac (λh z A=> ?_)<|v _ _ _ m
 exact fy.upd (x:= .list _) i k p i.tk ⟨h,z▸n,A.car y⟩ (rj n) g
theorem ZI(n:am b c e)(t:aR e.heap b k h)(u:aR e.heap b Y L)(j:Bw h L c e0):
 an (az aq ap) f (Fn k Y) (fy b e λ(_:ek) v=>e0 v) aB e:=by
 refine ac (λB a w=> ?_)<|sW j;obtain rfl:=a
 refine ac (λo a x=> ?_)<|hO w;obtain rfl:=a
 refine dt (λp q y d=> ?_)<|Cs x;refine aA (λz r=> ?_)<|y
 refine ay (λD a=> ?_)<|u.int_inv;obtain rfl:=a
 have l:0<p.length:=Ni.mpr z
 refine ac (λE a s=> ?_)<|t.inv;obtain rfl:=a
 .
   obtain⟨g,d⟩|⟨_,d⟩:=uF d
   .have g:o=0:=by simpa using g
    subst g
    refine Kz n s q (by decide) (d:=0) (by unfold qB;simp;assumption) r (λA j m i=>⟨m.tail,?_,i.tail⟩) d
    unfold Mh
    rw [dif_pos (by rw [fv,i.length];exact l),MQ,List.eraseIdx_zero]
   .refine aA (λg d=> ?_)<|cz d
    have g:o= -1:=by simpa using g
    subst g
    refine Kz n s q (by decide) (d:=p.length - 1) (by unfold qB;simp;exact ao1 _ l) r (λA j m i=>⟨m.dropLast,?_,cJ.dropLast i⟩) d
    unfold Mh
    rw [dif_pos (by rw [fv,i.length];exact af 0 (C+1) J (.q 1 (C+1) J .z) (aN _ _) O<|dD (af 0 1 C (.p 1 (0+1) C .z) (bj _) O l)),MQ,<-i.length,List.eraseIdx_length_sub_one]
structure ht(Y:I->ag R):Prop where
 ex:∃i x,bM.Ns gC i/\bM.Ns kG x/\(∀j o,Y j=Q o->(∃c,i j=Q c/\bi (λv=>∃h,bM.get? v=Q h) bM ⟨[],[]⟩ c o)\/ (i j=U/\∃c,x j=Q c/\bi (λv=>∃h,bM.get? v=Q h) bM ⟨[],[]⟩ c o))/\∀y,bM.get? y=U->bM.BuiltinsAt i y
 lim:bM.NoLimit
 sys:∃h,bM.get? cR=Q h
structure nE(i:bR)(j:ar):Prop where
 ex:∃c h,i.frames=Q [c]/\c.frame=Q h/\c.scope.kind≠ .module/\j.l[1]? =Q (Q h)
theorem nE.ext(a:aH b e x S)(c:nE f b):nE f x:=(by refine gb (λd g h i j k=> ?_)<|c.ex;exact⟨d,g,h,i,j,a.at k⟩)
structure bp(y:bR)(Y:ah)(i:ar)(h:bH)(c:bf):Prop where
 top:Y=X->nE y i
 sc:h.scope=c.scope
 kind:c.scope.kind= .function
 ns:i.l[c.ns]? =Q (Q h.locals)
 cells:eK i h.cells c.cells
 gl:h.globals=gC
 bl:h.builtins=kG
 d1:c.scope.names.lookup ("__debug__":I)=U
 d2:c.scope.names.lookup ("__classdict__":I)=U
 q:h.qual=c.qual
 ct:∀j,c.ct=Q j->∃o x,h.code= .ref o/\i.l[j]? =Q (Q x)/\wL bM o x
theorem bp.ext(c:aH b e x S)(a:bp f n b p o):bp f n x p o:= ⟨λd=>(a.top d).ext c,a.sc,a.kind,c.at a.ns,a.cells.mono λ_ _ g=>c.at g,a.gl,a.bl,a.d1,a.d2,a.q,λh i=>(by refine dd (λj k l m q=> ?_)<|a.ct h i;exact⟨j,k,l,c.at m,q⟩)⟩
theorem eK.look:∀{a:M (I×N)} {x:I} {i:N},eK b l0 a->a.lookup x=Q i->∃d,l0.lookup x=Q d/\b.l[i]? =Q (Q d):=by
 induction l0 with
 |nil=>intro a x i e c;cases a with
  |nil=>exact aU c
  |cons _ _=>exact e.elim
 |cons g q h=>intro a x i e c;cases a with
  |nil=>exact e.elim
  |cons j a=>
   obtain⟨l,d⟩:=g
   obtain⟨r,s⟩:=j
   revert e;refine dH λm n o=> ?_;subst m;rw [ee] at c ⊢
   cases f:x==l with
   |true=>rw [f] at c;(revert c;refine aL λp=> ?_;subst p);exact⟨d,O,n⟩
   |false=>rw [f] at c;exact h o c
theorem Ga(f:am b c e):cs (λd=>∃h,bM.get? d=Q h) (bh b) bM e.heap ⟨[],[]⟩ b:=⟨λd g _ a=>f.fz0 a,λd g _ a=>f.base d g a,λ_ _ a=>by simp at a⟩
theorem Bf(j:am b c e)(k:bp f n b p o)(a:Be c o.cells g=Q h):∃i d,p.cells.lookup g=Q i/\e.heap.IsCell i (Q d)/\aR e.heap b d h:=by refine ac (λv l a=> ?_)<|eY a;refine ac (λw m a=> ?_)<|eY a;cases Rx a;refine ac (λq r s=> ?_)<|k.cells.look l;refine ac (λd t u=> ?_)<|j.mo _ _ _ s m;exact⟨q,d,r,t,u⟩
theorem tq(v:ht i4)(k:am b c {e with toks:=a})(d:bp f n b p o)(j:mO i4 o c g=Q h)(l:∀m,aR e.heap b m h->a6 m e):
 an (az aq ap) f (cQ (.Name g A) p) a6 g6 e:=by
 revert b c e f i4 p o n a g A h a6 g6 v k d j l
 apply U14
 generalize P13 _=f,Q13 _=n,Q12 _=p,Q11 _=a,Q10 _=A,Q9 _=e,Q8 _=g,Q7 _=a6,Q6 _=g6,Q5 _=h,Q4 _=i4,Q3 _=c,Q2 _=b,Q1 _=o
 intro v k d j l
 have t:p.scope.kind= .function:=d.sc▸d.kind
 have u:∀{w:lE},o.scope.names.lookup g=Q w->(g==("__debug__":I))=ai:=λi=>by rw [eP];rintro rfl;rw [d.d1] at i;exact aU i
 have E:∀{w:lE},o.scope.names.lookup g=Q w->(g==("__classdict__":I))=ai:=λi=>by rw [eP];rintro rfl;rw [d.d2] at i;exact aU i
 refine ac (λK i j=> ?_)<|eY j
 cases K with
 |«local»=>
  refine ac (λa L j=> ?_)<|eY j
  refine ac (λZ P j=> ?_)<|eY j
  cases yj P
  refine ac (λa S T=> ?_)<|k.mo _ _ _ d.ns L
  refine ac (λm q r=> ?_)<|T g h j
  exact FA (Pc t (by unfold jW;rw [d.sc];exact i) S q<|l _ r)<|u i
 |cell=>
  refine dd (λV m q r s=> ?_)<|Bf k d j
  exact FA (Pb t (by unfold jW;rw [d.sc];exact i) q r<|l _ s)<|u i
 |free=>
  refine dd (λV m q r s=> ?_)<|Bf k d j
  exact FA (wpAny_loadName_free t (by unfold jW;rw [d.sc];exact i) q r (l _ s)<|E i)<|u i
 |globalImplicit=>
  refine gb (λa0 a1 q r s a2=> ?_)<|v.ex
  have x:=q.keeps k.base
  have D:=r.keeps k.base
  rw [<-d.gl] at x
  rw [<-d.bl] at D
  refine Calls.Name_function_global t (by unfold jW;rw [d.sc];exact i) ?_<|u i
  obtain⟨m,y,z⟩|⟨y,m,z,Y⟩:=s g h j
  .exact Calls.loadGlobal_global x y<|l _ (have B:=Ga k;z.car B)
  .exact Calls.loadGlobal_builtin x y D z<|l _ (have B:=Ga k;Y.car B)
 |_=>exact aU j
theorem CY(d:ht i4)(a:am b c e)(i:bp f n b p o)(j:mO i4 o c g=Q h)(k:s h c): an (az aq ap) f (cQ (.Name g A) p) (bg b e s) aB e:=tq d a i j λ_ l=>bg.here a l k
theorem LM(e:R)(c b:I):∀d:M (I×R),(gK d c e).lookup b=if b=c then Q e else d.lookup b:=by
 intro d
 induction d with
 |nil=>
  exact by
   refine(?_:fa b [(c,e)]=_);by_cases a:b=c
   .subst a;simp [fa]
   .simp [fa,a,eP.mpr a]
 |cons h j i=>
  obtain⟨f,k⟩:=h
  exact by
   rw [DG];by_cases g:f=c
   .subst g
    rw [bK O];by_cases a:b=f
    .subst a;simp [fa]
    .simp [fa,a,eP.mpr a]
   .rw [bF g]
    by_cases a:b=f
    .subst a;simp [fa,g]
    .rw [ee,eP.mpr a,ee,eP.mpr a];exact i
theorem xk{b:ag aa}(c:i.IsCell j b):∃a,i.get? j=Q a:=(by(revert c;refine ac λa d e=> ?_);exact⟨a,d⟩)
theorem TT{a:ek}(b:Ig b9=Q a):∃c,b9= .cell c:=by cases b9<;>first|exact⟨_,O⟩|exact aU b
theorem Ry:∀{a:ag R},ew i b j (.cell a)->∃d,i.IsCell j d
 |none,c=>⟨U,c⟩
 |some _,⟨a,c,_⟩=>⟨Q a,c⟩
theorem tu(i:am b c e)(d:bp f n b p o)(r:aR e.heap b k h)(a:mT o c g h=Q V)(s:e0 V):
 an (az aq ap) f (Fx p g k) (fy b e λ(_:ek) V=>e0 V) aB e:=by
 revert b c e f p o n g k h V e0 i d r a s
 apply U12
 generalize P11 _=f,Q11 _=n,Q10 _=p,Q9 _=e,Q8 _=g,Q7 _=k,Q6 _=h,Q5 _=c,Q4 _=V,Q3 _=e0,Q2 _=b,Q1 _=o
 intro i d r a s
 have y:p.scope.kind= .function:=d.sc▸d.kind
 refine ac (λK z a=> ?_)<|eY a
 cases K with
 |«local»=>
  refine ac (λA t a=> ?_)<|eY a
  refine ac (λa3 u a=> ?_)<|eY a
  cases yj u
  (revert a;refine aL λj=> ?_;subst j)
  refine ac (λA L P=> ?_)<|i.mo _ _ _ d.ns t
  refine dC i.tk<|wpAny_storeName_local (by unfold jW;rw [d.sc];exact z) L (λS v l T=> ?_) (by rw [y];rfl)
  have B:=oj (e:=e) d.ns l<|lX v
  refine fy.upd (x:= .ns _) i d.ns l T ⟨_,v,λD Y m=> ?_⟩ (lX v) s
  rw [LM] at m
  by_cases E:D=g
  .rw [bK E] at m ⊢;(revert m;refine aL λj=> ?_;subst j);exact⟨k,O,r.car B⟩
  .rw [bF E] at m ⊢;refine ac (λZ w q=> ?_)<|P D Y m;exact⟨Z,w,q.car B⟩
 |cell=>
  refine ac (λa4 a0 a=> ?_)<|eY a
  refine ac (λA t a=> ?_)<|eY a
  refine ac (λa5 u a=> ?_)<|eY a
  refine ay (λa6 a1=> ?_)<|TT u;obtain rfl:=a1
  (revert a;refine aL λj=> ?_;subst j)
  refine ac (λa7 w q=> ?_)<|d.cells.look a0
  refine ay (λa8 a2=> ?_)<|Ry (i.mo _ _ _ q t)
  refine Ph y (by unfold jW;rw [d.sc];exact z) w a2 λS x l=> ?_
  exact fy.upd (x:= .cell<|Q h) i q l i.tk ⟨k,x,r.car<|oj (e:=e) q l (xk x)⟩ (xk x) s
 |_=>exact aU a
theorem tj(d:am b c e)(f:0<a)(g:s (.int a5) c):bg b e s (.int a5 c1) {e with toks:=a}:=bg.of d f (.int _ _) g
theorem CT(d:am b c e)(f:0<a)(h:s (.str g) c):bg b e s (.str g c1) {e with toks:=a}:=bg.of d f (.str _ _) h
theorem cJ.ints(h:cb y i b K q)(e:nN q=Q g9):g9.length=K.length/\∀(c:N) (a:aa),K[c]? =Q a->∃d,a=uo (g9.getD c 0) d:=
 h.ind (M:=λK q=>∀g9,nN q=Q g9->g9.length=K.length/\∀(c:N) (a:aa),K[c]? =Q a->∃d,a=uo (g9.getD c 0) d) (λg9 e=>by(revert e;refine aL λg=> ?_;subst g);exact⟨O,λc a i=>nomatch zy.symm.trans i⟩) (λa m K q n h j g9 e=>by
  cases m with
  |int c=>
   refine ay (λd o=> ?_)<|n.inv;obtain rfl:=o
   exact gU (e:=λg9=>g9.length=_/\∀(f:N) (a:aa),(uo c d::K)[f]? =Q a->∃d,a=uo (g9.getD f 0) d) e λg9 k=>⟨bq (· +1) (j g9 k).1,λf a l=>by
    cases f with
    |zero=>(revert l;refine aL λg=> ?_;subst g);exact⟨d,O⟩
    |succ f=>exact(j g9 k).2 f a l⟩
  |_=>exact aU e) g9 e
theorem cJ.strs(f:cb y i b K q)(c:mg q=Q a4):∃a:M (I×cH),K=jZ a/\a.map (·.1)=a4:=
 f.ind (M:=λK q=>∀a4,mg q=Q a4->∃a:M (I×cH),K=jZ a/\a.map (·.1)=a4) (λd c=>by(revert c;refine aL λg=> ?_;subst g);exact⟨[],O,O⟩) (λp e K q h f j d c=>by
  cases e with
  |str e=>refine ay (λk l=> ?_)<|h.inv;obtain rfl:=l;exact gU (e:=λa4=>∃a:M (I×cH),_=jZ a/\a.map (·.1)=a4) c λd m=>by refine ac (λa n o=> ?_)<|j d m;exact⟨(e,k)::a,by rw [n];rfl,by rw [<-o];rfl⟩
  |_=>exact aU c) a4 c
theorem cJ.of_strs:∀a:M (I×cH),cb y i b (jZ a) ((a.map (·.1)).map .str):=by
 intro a
 induction a with
 |nil=>exact .nil
 |cons c g d=>
  obtain⟨e,f⟩:=c
  exact .cons (.str e f)<|d
theorem PL(g:am b c e)(p:∀m,bM.get? m=U->(m==cR)=ai)(q:aR e.heap b k h)(d:Cq c h=Q a)(w:a<2^62)(j:s (.int a) c):
 an (az aq ap) f (dF (.builtin "len") [k]) (bg b e s) aB e:=by
 revert b c e f k h a s g p q d w j
 apply U8
 generalize P7 _=f,Q7 _=a,Q6 _=e,Q5 _=k,Q4 _=h,Q3 _=c,Q2 _=b,Q1 _=s
 intro g p q d w j
 have n:0<e.toks+1+1:=fT _
 cases q with
 |str A x=>(revert d;refine aL λi=> ?_;subst i);exact P.len_str (by lia)<|tj g n j
 | @loc B m r=>
  refine ac (λy o d=> ?_)<|eY d
  cases y with
  |list l=>
   (revert d;refine aL λi=> ?_;subst i);refine ac (λt u v=> ?_)<|g.mo _ _ _ r o
   have d:t.toArray.size=l.length:=by rw [fv,v.length]
   exact Oj u.isList (by rw [d];lia)<|by rw [d];exact tj g n j
  |dict _ l=>
   (revert d;refine aL λi=> ?_;subst i);refine ac (λz u v=> ?_)<|g.mo _ _ _ r o
   have d:z.length=l.length:=v.length
   exact call_len_dict (p _<|g.out _ _ r) (qM u) (by rw [d];lia)<|by rw [d];exact tj g n j
  |_=>exact aU d
 | @lst m t l D x o=>
  (revert d;refine aL λi=> ?_;subst i)
  have d:t.toArray.size=l.length:=by rw [fv,o.length]
  exact Oj x.isList (by rw [d];lia)<|by rw [d];exact tj g n j
 |_=>exact aU d
theorem PV(o:am b c e)(y:f.handled=U)(z:aR e.heap b k (.lst q))(a:nN q=Q g9)(p:yM g9)(A:s (.int g9.sum) c):
 an (az aq ap) f (dF (.builtin "sum") [k]) (bg b e s) aB e:=by
 refine gb (λn r B a1 l D=> ?_)<|z.inv;obtain rfl:=B
 .
   refine aA (λt E=> ?_)<|D.ints a
   refine dC o.tk<|call_sum_walk (AG l.isList ⟨e.heap.objs.size,_,_,_,_,_,λi=>g9.getD i 0,O,ON (A:=f.in1) (by exact y) _ n ?_ r.toArray,⟨⟨_,gB _ O,O,O⟩,?_⟩,?_,?_,?_,?_⟩)
   ·(revert l;refine ay λK a=> ?_);exact ik<|jt a
   .exact(l.at λc a=>iQ _ a).isList
   .intro d j
    have L:n<e.heap.objs.size:=by(revert l;refine ay λK a=> ?_);exact jt a
    have P:(e.heap.push {cls:= .type "list_iterator",data:= .fields #[.ref n,.int 0 0]}).objs.size=e.heap.objs.size+1:=Fd ..
    simp only [bO,jQ,kp] at j
    refine(?_:d<(e.heap.push _).objs.size)
    rw [P]
    obtain rfl|rfl:=j
    .exact lA _
    .exact rZ L
   .intro i k u;rw [pm] at u;exact E i k u
   .intro g S
    rw [fv,<-t] at S
    rw [Od]
    have h:=p (g+1)<|by assumption
    have v:=p g<|by exact dx ‹_›
    rw [Nw,Nu] at h
    have w:(g9[g]?.toList).sum=g9.getD g 0:=by rw [ed];cases g9[g]? <;>simp
    rw [w] at h
    refine⟨(show InLong (g9.getD g 0) from⟨by exact aw 0 (eS<|-9223372036854775808) F (.p 1 (eS<|-4611686018427387904) (W+F)<|.p 1 (W+1) 4611686018427387904 .z) (aP _ _) O h.1 v.2,by exact aw 0 (F+1) 9223372036854775808 (.p 1 (W+F+1) 4611686018427387904<|.p 1 (eS<|-4611686018427387904) W .z) (aP _ _) O h.2 v.1⟩),?_⟩
    rw [Nw,Nu,w]
    exact⟨by exact aw 0 (eS<|-9223372036854775808) (F+W) (.p 1 (eS<|-4611686018427387904) (F+W) .z) (aP _ _) O h.1,by exact aw 0 (F+W+1) 9223372036854775808 (.p 1 (F+W+1) 4611686018427387904 .z) (aP _ _) O h.2⟩
   .intro T V a2 Y Z
    have a0:PySem.preSum (λi=>g9.getD i 0) r.toArray.size=g9.sum:=by rw [Od,fv,<-t,Ey]
    rw [a0]
    have x:∀d m,e.heap.get? d=Q m->T.get? d=Q m:=λd m a=>by refine Y d m (λj=> ?_)<|iQ _ a;rw [bU] at j;subst j;exact bD (jt a)<|EH _
    exact⟨b,c,.int g9.sum,aH.grow (a:=V) x,o.grow Z x,.int _ _,A⟩
theorem PP(d:am b c e)(h:f.handled=U)(i:aR e.heap b k (.int a5))(j:aR e.heap b Y (.int g1))(l:s (.int<|if g1>a5 then g1 else a5) c):
 an (az aq ap) f (dF (.builtin "max") [k,Y]) (bg b e s) aB e:=by
 (refine ay (λo a=> ?_)<|i.int_inv;obtain rfl:=a);(refine ay (λp a=> ?_)<|j.int_inv;obtain rfl:=a)
 refine dC d.tk<|max_two_ints h λq m g n=>⟨b,c,.int<|if g1>a5 then g1 else a5,aH.grow (a:=m) g,d.grow n g,?_,l⟩
 split<;>exact .int _ _
theorem PR(a:am b c e)(d:aR e.heap b k (.int a5))(g:s (.rng 0 a5) c):
 an (az aq ap) f (dF (.type "range") [k]) (bg b e s) aB e:=by
 refine ay (λi h=> ?_)<|d.int_inv;obtain rfl:=h
 exact call_range_1<|bg.alloc a (fT _) (.rng (a.fresh<|fD _ (ba _))<|IsRange.new ..) g
theorem YU(g:N):∀(d:H) (c:M aa),c.length=g->(∀(h:N) (e:aa),c[h]? =Q e->∃f,e=uo (a5+(d+(h:N))*1) f)->cb y i b c ((dR g).map λ(a:N)=> .int<|a5+(d+(a:N))):=by
 induction g with
 |zero=>intro d c j _;rw [Er.mp j];exact .nil
 |succ g m=>intro d c j l;cases c with
  |nil=>cases j
  |cons e c=>
   refine ay (λf k=> ?_)<|l 0 e O;obtain rfl:=k;have n:=m (d+1) c (sb j) λh e o=>by refine ay (λf k=> ?_)<|l (h+1) e o;obtain rfl:=k;exact⟨f,bq (λa=>uo (a5+a*1) f)<|by exact kw (aw 0 (F+(W+1)) (F+1+W) .z (aP _ _) O)<|aw 0 (F+1+W) (F+(W+1)) .z (aP _ _) O⟩
   rw [List.range_succ_eq_map,da,jq,MH];refine .cons (.int _ _) ?_;rw [show((λ(a:N)=>R.int<|a5+(d+(a:N)))∘im)=λ(a:N)=>R.int (a5+(d+1+(a:N))) from vc λa=>bq (λa=>R.int<|a5+a)<|by exact kw (aw 0 (F+(W+1)) (F+1+W) .z (aP _ _) O)<|aw 0 (F+1+W) (F+(W+1)) .z (aP _ _) O];exact n
theorem PO(g:am b c e)(n:f.handled=U)(o:aR e.heap b k (.rng a5 g1))(L:(g1 - a5).toNat<=2^20)(a: -(2^62)<=a5/\a5<2^62/\ -(2^62)<=g1/\g1<2^62)
 (p:s (.loc c.length) (c++ [.list ((dR (g1 - a5).toNat).map λ(q:N)=> .int<|a5+q)])):
 an (az aq ap) f (dF (.type "list") [k]) (bg b e s) aB e:=by
 refine yo (λP h S k r T t=> ?_)<|o.inv;obtain rfl:=r
 .
   have u:EU a5 g1 1=((g1 - a5).toNat:H):=by
    unfold EU;by_cases d:a5<g1
    .simp [d];exact Md _ _ d
    .simp [d];exact Mg _ _ d
   refine dC g.tk<|call_list_range n t (small_one (by exact aw 0 (eS<|-4611686018427387904) F (.p 1 (eS<|-4611686018427387904) F .z) (aG _) O a.1) (by exact aw 0 (F+1) 4611686018427387904 (.p 1 (F+1) 4611686018427387904 .z) (aG _) O a.2.1) (by exact aw 0 (eS<|-4611686018427387904) F (.p 1 (eS<|-4611686018427387904) F .z) (aG _) O a.2.2.1)<|by exact aw 0 (F+1) 4611686018427387904 (.p 1 (F+1) 4611686018427387904 .z) (aG _) O a.2.2.2) u (by exact aK ‹_› (bA O)) λi v j w l m x y=> ?_
   revert x;refine aA λz A=> ?_
   have B:aH b e (b.add e.heap.objs.size) {e with heap:=i,toks:=v}:=aH.led (fD _<|ba _) l
   refine⟨_,_,_,B,g.led y (fD _<|ba _) l (x:= .list _) ⟨j.toList,⟨w,by simpa using m⟩,?_⟩ ⟨_,m⟩,.loc<|g.len▸ar.add_at b _,p⟩
   have:=YU (b:=b.add e.heap.objs.size) (y:=bh<|b.add e.heap.objs.size) (i:=i) (a5:=a5) (g1 - a5).toNat 0 j.toList (by simpa using z) λD k E=>by refine ay (λh K=> ?_)<|A D k (by simpa using E);obtain rfl:=K;exact⟨h,by congr 1;exact kw (aw 0 (F+(tT W 1)) (F+(tT (0+W) 1)) .z (aP _ _) O)<|aw 0 (F+(tT (0+W) 1)) (F+(tT W 1)) .z (aP _ _) O⟩
   simpa using this
theorem PN(a:am b c e)(j:aR e.heap b k (.lst q))(l:q.length<=2^20)(m:s (.loc c.length) (c++ [.list q])):
 an (az aq ap) f (dF (.type "list") [k]) (bg b e s) aB e:=by
 refine gb (λn o p w r d=> ?_)<|j.inv;obtain rfl:=p
 .
   revert r;refine ay λx t=> ?_
   refine call_list_seq n (.inl O) t O O (λu v g h=> ?_)<|by rw [fv,d.length];exact iA l
   have i:aH b e (b.add e.heap.objs.size) {e with heap:=u,toks:=e.toks}:=aH.led (fD _<|ba _) g
   exact⟨_,_,_,i,a.led a.tk (fD _<|ba _) g (x:= .list q) ⟨o,⟨v,h⟩,d.car i.car⟩ ⟨_,h⟩,.loc<|a.len▸ar.add_at b _,m⟩
theorem PJ(h:am b c e)(j:aR e.heap b k (.lst q))(l:s (.loc c.length) (c++ [.liter q])):
 an (az aq ap) f (dF (.builtin "iter") [k]) (bg b e s) aB e:=by
 refine gb (λa m n o g p=> ?_)<|j.inv;obtain rfl:=n
 .
   refine Oi (by decide+kernel) (by decide+kernel) W.kdk_entry_iter (W.kdk_args_iter _) ?_
   unfold Builtin.«iter»
   refine aJ (m:=someArgs "iter" 1 2 _)<|wW (a:=[mA a]) (by first|rfl|kernel_rfl!) ?_
   refine(?_:an _ _ (kI (.ref a)>>=_) _ _ _)
   refine aJ<|AG g.isList ?_
   refine bP ⟨_,O,?_⟩
   have r:e.heap.get? e.heap.objs.size=U:=fD _<|ba _
   refine ay (λt d=> ?_)<|id g
   have i:aH b e (b.add e.heap.objs.size) {e with heap:=e.heap.push {cls:= .type "list_iterator",data:= .fields #[.ref a,.int 0 0]},toks:=e.toks}:=aH.led r<|hp _ _
   exact bg.led h O h.tk (x:= .liter q) ⟨a,0,m,⟨_,gB _ O,O,O⟩,i.fz o d,ik<|jt d,g.at λc d=>iQ _ d,by rw [qd];exact p.car i.car⟩ l
theorem sV{b:M E}{c:E}{d:M E}(e:b.drop a=c::d):b[a]? =Q c/\b.drop (a+1)=d:=by
 have f:b[a]? =Q c:=by rw [<-List.head?_drop,e];rfl
 refine⟨f,?_⟩;rw [<-List.tail_drop,e];rfl
theorem Wx{h:ag aa->al->Prop}(d:e.heap.IsListIter j a7 a)
 (i:e.heap.IsList a7 f6) (l:f6[a]? =Q k) (m:∀g,g.IsListIter j a7 (a+1)->kC j e.heap g->h (Q k) {e with heap:=g}):
 an (az aq ap) f (callSpecial? (.ref j)<|bC "__next__") h a6 e:=by
 refine dt (λr c n b=> ?_)<|id d
 revert i;refine dt λs o t p=> ?_;refine ay (λu q=> ?_)<|p
 refine AD (name:=bC "__next__") d.typeIs Fv<|AE Fv d.typeIs entry_listiter_next ?_ (args_listiter_next _)
 refine(?_:an _ _ (uu (.ref j) 0>>=_) _ _ e)
 refine aJ<|ux c b (x:= .ref a7) O ?_
 refine(?_:an _ _ (if(mA a7==mz)=X then _ else _) _ _ e)
 rw [bF (show ¬((mA a7==mz)=X) from jk)]
 refine(?_:an _ _ (uu (.ref j) 1>>=_) _ _ e)
 refine aJ<|ux c b (x:= .int a 0) O ?_
 refine(?_:an _ _ (Fu (.ref a7)>>=_) _ _ e)
 refine aJ<|FE o q ?_
 simp only [vW,l]
 refine aJ<|AH c b (by simp) (bP ⟨k,O,m _ ?_<|wF ..⟩)
 exact⟨_,Fc _ c<|OE (Ak b _),(OD ..).trans n,by rw [Ak b];simp [nA]⟩
theorem PQ(g:am b c e)(l:aR e.heap b k (.loc a))(d:c[a]? =Q (.liter (h::q)))(m:s h (c.set a<|.liter q)):
 an (az aq ap) f (dF (.builtin "next") [k]) (bg b e s) aB e:=by
 revert b c e f k a h q s g l d m
 apply U9
 generalize P8 _=f,Q8 _=a,Q7 _=e,Q6 _=k,Q5 _=h,Q4 _=q,Q3 _=c,Q2 _=b,Q1 _=s
 intro g l d m
 refine ac (λp B i=> ?_)<|l.inv;obtain rfl:=B
 .
   refine vt (λr t u v D w x y=> ?_)<|g.mo _ _ _ i d
   generalize E:u.drop t=K at y
   cases y with
   | @cons L _ K _ P S=>
    refine aA (λT V=> ?_)<|sV E
    refine Oi (by decide+kernel) (by decide+kernel) W.kdk_entry_next (W.kdk_args_next _) ?_
    unfold Builtin.«next»
    refine aJ (m:=someArgs "next" 1 2 _)<|wW (a:=[mA p]) (by first|rfl|kernel_rfl!) ?_
    dsimp only
    refine aJ<|Pg (name:=bC "__next__") v.typeIs Fv.lookup ?_
    refine wpAny_ite_split (λY=>bD Y<|by decide) λ_=> ?_
    refine aJ<|Wx v x.isList (k:=L) (by rw [pm];exact T) λZ z j=> ?_
    refine bP ⟨_,O,?_⟩
    have n:∃o,Z.get? p=Q o:=(by(revert z;refine ac λo d a0=> ?_);exact⟨o,d⟩)
    have A:=oj (e:=e) i j n
    refine⟨b,_,h,aH.upd (n:=e.toks) i (iF j) n,g.upd g.tk i (iF j) (x:= .liter q) ⟨r,t+1,u,z,D,w,x.at λc d=>iF j r c w d,?_⟩ n,P.car A,m⟩
    rw [V];exact S.car A
theorem PC(i:am b c e)(n:aR e.heap b k (.loc a))(o:aR e.heap b Y h)(p:c[a]? =Q (.list q))(r:q.length<2^20)(t:s .none (c.set a<|.list (q++ [h]))):
 an (az aq ap) f (dF (.builtin "list.append") [k,Y]) (bg b e s) aB e:=by
 refine ac (λx u d=> ?_)<|n.inv;obtain rfl:=u
 .
   refine ac (λv w l=> ?_)<|i.mo _ _ _ d p
   refine Pa w (λy g j=> ?_)<|by rw [fv,l.length];exact iA<|dx r
   have m:=oj (e:=e) d j<|rj g
   refine⟨b,_,.none,aH.upd (n:=e.toks) d (iF j)<|rj g,i.upd i.tk d (iF j) (x:= .list _) ⟨v++ [Y],by simpa using g,(l.car m).append<|.cons (o.car m) .nil⟩<|rj g,.none,t⟩
theorem cJ.take(a:N)(c:cb y i b K q):cb y i b (K.take a) (q.take a):=
 c.ind (M:=λK q=>∀a,cb y i b (K.take a) (q.take a)) (λa=>by rw [Ez,Ez];exact .nil) (λ_ _ _ _ d _ e a=>by cases a with
  |zero=>exact .nil
  |succ a=>exact .cons d<|e a) a
theorem cJ.drop(a:N)(c:cb y i b K q):cb y i b (K.drop a) (q.drop a):=
 c.ind (M:=λK q=>∀a,cb y i b (K.drop a) (q.drop a)) (λa=>by rw [Eh,Eh];exact .nil) (λ_ _ _ _ d c e a=>by cases a with
  |zero=>exact .cons d c
  |succ a=>exact e a) a
theorem TO(d:E):∀(b:N) (a:M E),b<=a.length->a.insertIdx b d=a.take b++d::a.drop b:=by
 intro e
 induction e with
 |zero=>exact λa _=>by simp
 |succ b f=>
  intro g
  cases g with
  |nil=>exact λc=>by simp at c
  |cons h a=>exact λc=>by rw [List.insertIdx_succ_cons,zI,MP,tU,f a (by simpa using c)]
theorem WH(a:eR aa->eR aa)(b:aa)(c:eR aa)(d:N):∃e,hi a {cls:=b,data:= .seq c d}={cls:=b,data:= .seq (a c) e}:=⟨_,O⟩
theorem PI(o:am b c e)(x:aR e.heap b k (.loc a))(y:aR e.heap b f0 (.int a5))(z:aR e.heap b Y h)(A:c[a]? =Q (.list q))
 (i:0<=a5/\a5<=(q.length:N)/\q.length<2^20) (B:s .none (c.set a<|.list (q.insertIdx a5.toNat h))):
 an (az aq ap) f (dF (.builtin "list.insert") [k,f0,Y]) (bg b e s) aB e:=by
 refine ay (λD j=> ?_)<|y.int_inv;obtain rfl:=j
 refine ac (λl j m=> ?_)<|x.inv;obtain rfl:=j
 .
   refine ac (λg j p=> ?_)<|o.mo _ _ _ m A;refine ay (λv r=> ?_)<|j
   have w:=p.length
   refine qv Ox ⟨_,r,O⟩ F.entry_list_insert (F.args_list_insert_3 _ _ _) (ay0 l g.toArray v a5 D Y (by simp [ET];exact⟨aw 0 (eS<|-9223372036854775808) F (.p 1 0 F .z) (aG _) O i.1,aw 0 (F+1) 9223372036854775808 (.p 1 F W<|.p 1 (W+1) 1048576 .z) (aP _ _) O i.2.1<|ak i.2.2⟩)<|by rw [fv,w];exact iA<|dx i.2.2) ⟨r,?_⟩
   have t:kC l e.heap (e.heap.update l (hi λd=>have a5:=if a5<0 then(a5+ ↑d.size).toNat else dI a5.toNat d.size;(d.extract 0 a5).push Y++d.extract a5)):=wF ..
   have n:=Fc (hi λd=>have a5:=if a5<0 then(a5+ ↑d.size).toNat else dI a5.toNat d.size;(d.extract 0 a5).push Y++d.extract a5) r O
   have u:=oj (e:=e) m t ⟨_,n⟩
   refine⟨b,_,.none,aH.upd (n:=e.toks) m (iF t) ⟨_,n⟩,o.upd o.tk m (iF t) (x:= .list<|q.insertIdx a5.toNat h) (show ew _ b l (.list<|q.insertIdx a5.toNat h) from⟨g.take a5.toNat++Y::g.drop a5.toNat,?_,?_⟩) ⟨_,n⟩,.none,B⟩
   .have E:dI a5.toNat g.length=a5.toNat:=by exact aq8 _ _ _ i w
    have K:(have f0:=if a5<0 then(a5+ ↑g.toArray.size).toNat else dI a5.toNat g.toArray.size;(g.toArray.extract 0 f0).push Y++g.toArray.extract f0)=(g.take a5.toNat++Y::g.drop a5.toNat).toArray:=by simp only [show ¬a5<0 from by exact λL=>aD (.p 1 0 F<|.p 1 (F+1) 0 .z) (aG _) O i.1 L,mJ,fv,E];apply pQ.mp;simp;exact ly<|by simp
    refine ay (λP S=> ?_)<|WH (λd=>have a5:=if a5<0 then(a5+ ↑d.size).toNat else dI a5.toNat d.size;(d.extract 0 a5).push Y++d.extract a5) (.type "list") g.toArray v
    exact⟨P,by rw [n,S,K]⟩
   .rw [TO h a5.toNat q (by exact ar8 _ _ i)];exact((p.car u).take _).append<|.cons (z.car u) ((p.car u).drop _)
theorem PH(t:am b c e)(u:aR e.heap b k (.lst q))(l:aR e.heap b Y (.str g))(d:mg q=Q a4)(v:g∈a4)(D:a4.length<2^20)(w:s (.int (a4.idxOf g:N)) c):
 an (az aq ap) f (dF (.builtin "list.index") [k,Y]) (bg b e s) aB e:=by
 obtain⟨n,rfl⟩:=l.str_inv
 obtain⟨x,E,rfl,K,n,l⟩:=u.inv
 .
   obtain⟨y,o⟩:=n
   obtain⟨h,rfl,rfl⟩:=l.strs d
   have p:=zA v
   have m:∀a (i:a<(jZ h).toArray.size),∃j,(jZ h).toArray[a]= .str ((h.map (·.1))[a]'(by simpa [jZ] using i)) j:=λa i=>by simp [jZ]
   refine qv Ow ⟨_,o,O⟩ F.entry_list_index (F.args_list_index_2 _ _) (SeqAt.list_indexAt x (jZ h).toArray y U #[] (.str g _) (λr=>match r with| .str z _=>z==g|_=>ai) ((h.map (·.1)).idxOf g) (by simpa [jZ] using p) (by lia) ?_ ?_) ⟨o,?_,?_⟩
   .obtain⟨j,d⟩:=m ((h.map (·.1)).idxOf g)<|by simpa [jZ] using p
    rw [d]
    simp
   .intro a i A
    obtain⟨j,d⟩:=m a i
    rw [d]
    simp only [eP]
    have:=List.not_of_lt_findIdx A
    simpa using this
   .intro r B
    obtain⟨a,i,rfl⟩:=Array.getElem_of_mem B
    obtain⟨j,d⟩:=m a i
    rw [d]
    exact az0 _ _ _ _
   .exact tj t (fT _) w
theorem af9{c:M (I×cH)}:ew (e.heap.push {cls:= .type "list",data:= .seq (jZ c).toArray a}) (b.add e.heap.objs.size) e.heap.objs.size (.list ((c.map (·.1)).map .str)):= ⟨jZ c,⟨a,gB _ O⟩,cJ.of_strs c⟩
theorem PT(p:am b c e)(t:aR e.heap b k (.str g))(u:aR e.heap b Y (.str T))(v:T.length≠0)(q:g.length<=2^20)(w:s (.loc c.length) (c++ [.list ((hI g T).map .str)])):
 an (az aq ap) f (dF (.builtin "str.split") [k,Y]) (bg b e s) aB e:=by
 (refine ay (λd j=> ?_)<|t.str_inv;obtain rfl:=j);(refine ay (λl j=> ?_)<|u.str_inv;obtain rfl:=j)
 have r:(T.length==0)=ai:=eP.mpr v
 have m:∀(n:M (I×cH)) (o:N),0<o->n.map (·.1)=hI g T->bg b e s (.ref e.heap.objs.size) {e with heap:=e.heap.push {cls:= .type "list",data:= .seq (jZ n).toArray},toks:=o}:=λn o x y=>by refine bg.led p O x (x:= .list<|(hI g T).map .str) ?_ w;rw [<-y];exact af9
 have z:g.length<=wU:=iA q
 have A:(wC g (fj g T 0 g.length<|g.length+1) T.length).length<=wU:=by rw [length_partsBetween];exact aK (jS (StrLaws.occ_length_le ..) 1)<|aK (show g.length+1+1<=2^20+2 by exact af 0 (C+1+1) ((qn<|2^20)+2) (.p 1 C (qn<|2^20) .z) (bj _) O q) (bA O)
 refine dC p.tk ?_
 cases a:(aI (g.length<T.length)||decide (wD g<wD T))
 .cases i:(fj g T 0 g.length<|g.length+1).isEmpty
  .refine qv Af (lH _ _ _) Fa (EZ _ _) (meets_str_split_sep g T d l a r i z A) ?_
   refine(?_:wants _ aB _ {e with toks:=_,heap:=e.heap.push {cls:= .type "list",data:= .seq (strsFrom e.toks<|wC g (fj g T 0 g.length<|g.length+1) T.length).toArray}})
   rw [strsFrom_eq]
   exact λh=>m (numbered e.toks _) _ h<|(numbered_texts _ _).trans ((bF<|Ju a).trans<|bF (Ju i)).symm
  .exact qv Af (lH _ _ _) Fa (EZ _ _) (meets_str_split_not_found g T d l a r i) λh=>m [(g,d)] _ h ((bF<|Ju a).trans<|bK i).symm
 .exact qv Af (lH _ _ _) Fa (EZ _ _) (meets_str_split_cannot_occur g T d l a) λh=>m [(g,d)] _ h (bK a).symm
theorem PK(l:am b c e)(a:aR e.heap b k (.str g))(n:aR e.heap b Y (.lst q))(o:mg q=Q a4)
 (p:a4.foldl (· + ·.length+g.length) 0<=2^20) (r:s (.str<|oG g a4) c):
 an (az aq ap) f (dF (.builtin "str.join") [k,Y]) (bg b e s) aB e:=by
 refine ay (λd h=> ?_)<|a.str_inv;obtain rfl:=h
 have⟨t,z,u,v,w⟩:∃t,∃z:List Value,Y= .ref t/\dN e.heap b z q/\e.heap.PlainList t z.toArray:=by
  refine gb (λx x i A d a=> ?_)<|n.inv;obtain rfl:=i
  .exact⟨_,_,O,a,d⟩
 subst u
 refine ac (λj h i=> ?_)<|v.strs o;obtain rfl:=h;obtain rfl:=i
 have m:EW ((j.map (·.1)).toArray.foldl (· + ·.length+g.length) 0)=ai:=by
  rw [List.foldl_toArray']
  .unfold EW;simp only [Bu,cq];exact aK p<|by decide
  .rfl
 refine dC l.tk<|qv Oz (lH _ _ _) F.entry_str_join (F.args_str_join_2 _ _) (meets_str_join_list g d t j m) ⟨w.isList,post_join j ⟨joinFit_length<|by simpa using m,λB D y=> ?_⟩⟩
 exact CT l y r
theorem PU(d:am b c e)(h:aR e.heap b k (.str g))(i:aR e.heap b Y (.str T))(j:s (.bool<|qt g T) c):
 an (az aq ap) f (dF (.builtin "str.startswith") [k,Y]) (bg b e s) aB e:=by
 (refine ay (λl a=> ?_)<|h.str_inv;obtain rfl:=a);(refine ay (λm a=> ?_)<|i.str_inv;obtain rfl:=a)
 exact SC.startswith<|bg.here d (.bool _) j
theorem PF(d:am b c e)(h:aR e.heap b k (.str g))(i:aR e.heap b Y (.str T))(j:s (.bool<|qs g T) c):
 an (az aq ap) f (dF (.builtin "str.endswith") [k,Y]) (bg b e s) aB e:=by
 (refine ay (λl a=> ?_)<|h.str_inv;obtain rfl:=a);(refine ay (λm a=> ?_)<|i.str_inv;obtain rfl:=a)
 exact SC.endswith<|bg.here d (.bool _) j
theorem Tw(a b:I)(c d:H)(f g h i:cH):Gives (Builtin.«str.find» ⟨[.str a f,.str b g,.int c h,.int d i],[]⟩) (.int (match fj a b (nv a.length c) (dI (nv a.length d) a.length) 1 with|e::_=>(e:H)|[]=> -1)):=by
 refine(?_:Gives (match fj a b (nv a.length c) (dI (nv a.length d) a.length) 1 with|e::_=>retInt e|[]=>(do rule "str.find.not-found";retInt (-1))) _)
 cases fj a b (nv a.length c) (dI (nv a.length d) a.length) 1 with
 |nil=>exact .rule<|.of_eq O
 |cons e _=>exact .of_eq O
theorem PG(i:am b c e)(j:aR e.heap b k (.str g))(l:aR e.heap b Y (.str T))(m:aR e.heap b f0 (.int a5))(n:aR e.heap b i6 (.int g1))
 (d:0<=a5/\0<=g1/\a5<=g.length/\g1<=g.length) (o:s (.int<|ph g T a5.toNat g1.toNat) c):
 an (az aq ap) f (dF (.builtin "str.find") [k,Y,f0,i6]) (bg b e s) aB e:=by
 (refine ay (λp a=> ?_)<|j.str_inv;obtain rfl:=a);(refine ay (λq a=> ?_)<|l.str_inv;obtain rfl:=a);(refine ay (λr a=> ?_)<|m.int_inv;obtain rfl:=a);(refine ay (λt a=> ?_)<|n.int_inv;obtain rfl:=a)
 refine dC i.tk<|call_gives Oy (lH _ _ _) F.entry_str_find (F.args_str_find_4 _ _ _ _) (Tw g T a5 g1 p q r t) ?_
 have u:nv g.length a5=a5.toNat:=by unfold nv;rw [bF (by exact λh=>aD (.p 1 0 F<|.p 1 (F+1) 0 .z) (aG _) O d.1 h)];exact as4 _ _ _ d
 have v:dI (nv g.length g1) g.length=g1.toNat:=by unfold nv;rw [bF (by exact λh=>aD (.p 1 0 F<|.p 1 (F+1) 0 .z) (aG _) O d.2.1 h)];exact as5 _ _ _ d
 rw [u,v]
 exact λw=>tj i w o
theorem PS(a:am b c e)(d:aR e.heap b k (.str g))(h:c1≠0)(i:i5≠0)(j:c1≠i5)(l:(T==f9)=ai)(m:g.length+(g.length+1)*f9.length<=16777216)(n:s (.str<|fU g T f9) c):
 an (az aq ap) f (dF (.builtin "str.replace") [k,.str T c1,.str f9 i5]) (bg b e s) aB e:=by
 refine ay (λq o=> ?_)<|d.str_inv;obtain rfl:=o
 exact dC a.tk<|SC.replace h i j l m λr t p=>CT a p n
theorem PD(a:am b c e)(p:∀d,bM.get? d=U->(d==cR)=ai)(q:aR e.heap b k h)(j:aR e.heap b Y (.str g))(r:aR e.heap b f0 L)
 (t:xq c h=Q D) (i:s ((D.lookup g).getD L) c):an (az aq ap) f (dF (.builtin "dict.get") [k,Y,f0]) (bg b e s) aB e:=by
 refine ay (λu v=> ?_)<|j.str_inv;obtain rfl:=v
 refine gb (λd z w x o y=> ?_)<|By a q t p;obtain rfl:=w
 refine dC a.tk<|OO Os o.typeIs F.entry_dict_get (F.args_dict_get_3 _ _ _) (meets_dict_get_default (fB aq ap) (k:=g) d (sp aq ap _ u) y f0) ⟨_,o.mapOf,?_⟩
 obtain⟨l,m⟩|⟨A,B,l,m,j⟩:=x.look (k:=g)
 .rw [m] at i;rw [l];exact λn=>bg.of a n r i
 .rw [m] at i;rw [l];exact λn=>bg.of a n j i
theorem af8(a:lI b5 g=U):so b5 g k=b5++ [(g,k)]:=by unfold so;rw [bF];intro c;rw [List.any_eq_true] at c;revert c;refine ac λd e b=> ?_;have b:=hW b;unfold lI at a;simp only [Option.map_eq_none_iff,List.find?_eq_none] at a;exact a d e<|by simp [b]
theorem eI.append(a:eA y i b b5 D)(c:eA y i b l1 d8):eA y i b (b5++l1) (D++d8):=a.ind (M:=λb5 D=>eA y i b (b5++l1)<|D++d8) c λ_ _ _ _ _ d _ e=> .cons d e
theorem PE(i:am b c e)(x:∀r,bM.get? r=U->(r==cR)=ai)(y:aR e.heap b k (.loc a))(j:aR e.heap b Y (.str g))(t:aR e.heap b f0 h)(n:c[a]? =Q (.dict d D))(z:D.length<2^20)(l:match D.lookup g with|some Y=>s Y c|none=>∀n,s h (c.set a<|.dict n (D++ [(g,h)]))):
 an (az aq ap) f (dF (.builtin "dict.setdefault") [k,Y,f0]) (bg b e s) aB e:=by
 revert b c e f k Y f0 a h g D d s i x y j t n z l
 apply U13
 generalize P12 _=f,Q12 _=a,Q11 _=d,Q10 _=e,Q9 _=g,Q8 _=k,Q7 _=Y,Q6 _=f0,Q5 _=h,Q4 _=D,Q3 _=c,Q2 _=b,Q1 _=s
 intro i x y j t n z l
 refine ay (λS A=> ?_)<|j.str_inv;obtain rfl:=A
 refine ac (λr A o=> ?_)<|y.inv;obtain rfl:=A
 .
   refine ac (λT u v=> ?_)<|i.mo _ _ _ o n
   have u:=qM u
   refine dC i.tk<|OO Ou u.typeIs F.entry_dict_setdefault (F.args_dict_setdefault_3 _ _ _) (kt_meets_setdefault (fB aq ap) (k:=g) r (sp aq ap _ S) (x _<|i.out _ _ o) f0) ⟨T,u,by rw [v.length];exact iA<|dx z,λa2 w B=> ?_,λE a3 p K B=> ?_⟩
   .obtain⟨m,q⟩|⟨V,Z,m,q,j⟩:=v.look (k:=g)
    .rw [m] at w;exact aU w
    .rw [m] at w;(revert w;refine aL λa0=> ?_;subst a0);rw [q] at l;exact bg.of i B j l
   .obtain⟨m,q⟩|⟨V,Z,m,q,j⟩:=v.look (k:=g)
    .rw [q] at l
     have L:=oj (e:=e) o K<|qN p
     rw [af8 E] at p
     refine ay (λP a1=> ?_)<|xr p
     exact⟨b,_,h,aH.upd (n:=e.toks+1) o (iF K)<|qN p,i.upd B o (iF K) (x:= .dict P<|D++ [(g,h)]) ⟨_,a1,(v.car L).append<|.cons (t.car L) .nil⟩<|qN p,t.car L,l P⟩
    .rw [m] at E;exact rr E
theorem rt(a:cb y i b K [h]):∃c,K=[c]/\bi y i b c h:=by cases a with|cons d a=>cases a;exact⟨_,O,d⟩
theorem pH(c:cb y i b K [h,L]):∃d a,K=[d,a]/\bi y i b d h/\bi y i b a L:=by cases c with|cons e c=>(refine ac (λa f g=> ?_)<|rt c;obtain rfl:=f);exact⟨_,a,O,e,g⟩
theorem yu(d:cb y i b K [h,L,d2]):∃e a c,K=[e,a,c]/\bi y i b e h/\bi y i b a L/\bi y i b c d2:=by cases d with|cons f d=>(refine dw (λa c g j=> ?_)<|pH d;obtain rfl:=g);exact⟨_,a,c,O,f,j⟩
theorem YE(e:cb y i b K [h,L,d2,k4]):∃f a c d,K=[f,a,c,d]/\bi y i b f h/\bi y i b a L/\bi y i b c d2/\bi y i b d k4:=by cases e with|cons g e=>(refine iC (λa c d j k=> ?_)<|yu e;obtain rfl:=j);exact⟨_,a,c,d,O,g,k⟩
theorem PM(d:am b c e)(i:f.handled=U)(g:aR e.heap b k h)(a:FW h c s):an (az aq ap) f (dF (.type "list") [k]) (bg b e s) aB e:=by
 cases h with
 |rng j l=>exact PO d i g a.1.1 ⟨a.1.2.1,a.1.2.2.1,a.1.2.2.2.1,a.1.2.2.2.2⟩ a.2
 |lst m=>exact PN d g a.1 a.2
 |_=>exact a.elim
theorem Xb(e:FX c a s b9):∃d b,b9= .liter (d::b)/\s d (c.set a<|.liter b):=by
 cases b9 with
 |liter b=>cases b with
  |nil=>exact e.elim
  |cons d b=>exact⟨d,b,O,e⟩
 |_=>exact e.elim
theorem Ku(k:am b c e)(x:f.handled=U)(y:∀z,bM.get? z=U->(z==cR)=ai)(l:dN e.heap b K q)(a:AU g7 q c s):
 an (az aq ap) f (dF g7.val K) (bg b e s) aB e:=by
 revert b c e f g7 q K s k x y l a
 apply U8
 generalize P7 _=f,Q7 _=K,Q6 _=e,Q5 _=g7,Q4 _=q,Q3 _=c,Q2 _=b,Q1 _=s
 intro k x y l a
 cases g7 with
 |len=>
  (refine ac (λh d a=> ?_)<|qG a;obtain rfl:=d);(refine ac (λm d g=> ?_)<|rt l;obtain rfl:=d)
  refine dt (λA n u t=> ?_)<|cF a;exact PL k y g n u t
 |sum=>
  (refine ac (λh d a=> ?_)<|qG a;obtain rfl:=d);(refine ac (λm d g=> ?_)<|rt l;obtain rfl:=d)
  (refine ac (λo d a=> ?_)<|qX a;obtain rfl:=d);refine dt (λA n u t=> ?_)<|cF a;exact PV k x g n u t
 |max=>
  (refine dw (λh h i a=> ?_)<|oY a;obtain rfl:=i);(refine dd (λm r i g j=> ?_)<|pH l;obtain rfl:=i)
  (refine ac (λz d a=> ?_)<|hO a;obtain rfl:=d);(refine ac (λg7 d a=> ?_)<|hO a;obtain rfl:=d);exact PP k x g j a
 |range=>
  (refine ac (λh d a=> ?_)<|qG a;obtain rfl:=d);(refine ac (λm d g=> ?_)<|rt l;obtain rfl:=d)
  (refine ac (λA d a=> ?_)<|hO a;obtain rfl:=d);exact PR k g a.2
 |list=>(refine ac (λh d a=> ?_)<|qG a;obtain rfl:=d);(refine ac (λm d g=> ?_)<|rt l;obtain rfl:=d);exact PM k x g a
 |iter=>(refine ac (λh d a=> ?_)<|qG a;obtain rfl:=d);(refine ac (λm d g=> ?_)<|rt l;obtain rfl:=d);(refine ac (λo d a=> ?_)<|qX a;obtain rfl:=d);exact PJ k g a
 |next=>
  (refine ac (λh d a=> ?_)<|qG a;obtain rfl:=d);(refine ac (λm d g=> ?_)<|rt l;obtain rfl:=d)
  (refine ac (λD d a=> ?_)<|sW a;obtain rfl:=d);refine ac (λV n a=> ?_)<|cF a
  (refine dw (λw o i a=> ?_)<|Xb a;obtain rfl:=i);exact PQ k g n a
 |lAppend=>
  (refine dw (λh h i a=> ?_)<|oY a;obtain rfl:=i);(refine dd (λm r i g j=> ?_)<|pH l;obtain rfl:=i)
  (refine ac (λD d a=> ?_)<|sW a;obtain rfl:=d);refine ac (λo n a=> ?_)<|Cs a;exact PC k g j n a.1 a.2
 |lInsert=>
  (refine iC (λh h h p a=> ?_)<|xa a;obtain rfl:=p);(refine mP (λm r E p g j v=> ?_)<|yu l;obtain rfl:=p)
  (refine ac (λD d a=> ?_)<|sW a;obtain rfl:=d);(refine ac (λP d a=> ?_)<|hO a;obtain rfl:=d);refine ac (λo n a=> ?_)<|Cs a;exact PI k g j v n a.1 a.2
 |lIndex=>
  (refine dw (λh h i a=> ?_)<|oY a;obtain rfl:=i);(refine dd (λm r i g j=> ?_)<|pH l;obtain rfl:=i)
  (refine ac (λo d a=> ?_)<|qX a;obtain rfl:=d);(refine ac (λw d a=> ?_)<|gf a;obtain rfl:=d);refine dt (λA n u t=> ?_)<|cF a;exact PH k g j n u.1 u.2 t
 |sSplit=>
  (refine dw (λh h i a=> ?_)<|oY a;obtain rfl:=i);(refine dd (λm r i g j=> ?_)<|pH l;obtain rfl:=i)
  (refine ac (λo d a=> ?_)<|gf a;obtain rfl:=d);(refine ac (λw d a=> ?_)<|gf a;obtain rfl:=d);exact PT k g j a.1.1 a.1.2 a.2
 |sJoin=>
  (refine dw (λh h i a=> ?_)<|oY a;obtain rfl:=i);(refine dd (λm r i g j=> ?_)<|pH l;obtain rfl:=i)
  (refine ac (λo d a=> ?_)<|gf a;obtain rfl:=d);(refine ac (λw d a=> ?_)<|qX a;obtain rfl:=d);refine dt (λY S u t=> ?_)<|cF a;exact PK k g j S u t
 |sStarts=>
  (refine dw (λh h i a=> ?_)<|oY a;obtain rfl:=i);(refine dd (λm r i g j=> ?_)<|pH l;obtain rfl:=i)
  (refine ac (λo d a=> ?_)<|gf a;obtain rfl:=d);(refine ac (λw d a=> ?_)<|gf a;obtain rfl:=d);exact PU k g j a
 |sEnds=>
  (refine dw (λh h i a=> ?_)<|oY a;obtain rfl:=i);(refine dd (λm r i g j=> ?_)<|pH l;obtain rfl:=i)
  (refine ac (λo d a=> ?_)<|gf a;obtain rfl:=d);(refine ac (λw d a=> ?_)<|gf a;obtain rfl:=d);exact PF k g j a
 |sFind=>
  (refine Xm (λh h h h L a=> ?_)<|Pv a;obtain rfl:=L);(refine vv (λm r E Z L g j v T=> ?_)<|YE l;obtain rfl:=L)
  (refine ac (λo d a=> ?_)<|gf a;obtain rfl:=d);(refine ac (λw d a=> ?_)<|gf a;obtain rfl:=d);(refine ac (λz d a=> ?_)<|hO a;obtain rfl:=d);(refine ac (λg7 d a=> ?_)<|hO a;obtain rfl:=d);exact PG k g j v T a.1 a.2
 |dGet=>
  (refine iC (λh h h p a=> ?_)<|xa a;obtain rfl:=p);(refine mP (λm r E p g j v=> ?_)<|yu l;obtain rfl:=p)
  (refine ac (λP d a=> ?_)<|gf a;obtain rfl:=d);refine ac (λA n t=> ?_)<|cF a;exact PD k y g j v n t
 |dSetdef=>
  (refine iC (λh h h p a=> ?_)<|xa a;obtain rfl:=p);(refine mP (λm r E p g j v=> ?_)<|yu l;obtain rfl:=p)
  (refine ac (λD d a=> ?_)<|sW a;obtain rfl:=d);(refine ac (λP d a=> ?_)<|gf a;obtain rfl:=d);refine dw (λa0 o n a=> ?_)<|GI a;exact PE k y g j v n a.1 a.2
 |_=>exact a.elim
structure br(h i:N)(c:bR):Prop where
 hh:c.handled=U
 d:c.depth+i+h<1000
 u:c.units+20*(i+h)+90<hJ
theorem br.less(b:br a (d+1) f):br a d f:=⟨b.hh,by have:=b.d;exact af 0 (C+J+aj+1) 1000 (.p 1 (C+(J+1)+aj+1) 1000 .z) (bk _ _ _) O this,by have:=b.u;exact af 0 (((C+(bn 20<|J+aj))+90)+1) bo (.p 1 (((C+(bn 20<|J+1+aj))+90)+1) bo .z) (di _ _ _ _) O this⟩
theorem br.deep(b:br a (d+1) f)(c:bH):br a d (f.deeper c):=⟨b.hh,by have:=b.d;refine(?_:f.depth+1+d+a<1000);exact af 0 (C+1+J+aj+1) 1000 (.p 1 (C+(J+1)+aj+1) 1000 .z) (bk _ _ _) O this,by have:=b.u;refine(?_:f.units+3+20*(d+a)+90<hJ);exact af 0 (((C+3+(bn 20<|J+aj))+90)+1) bo (.p 1 (((C+(bn 20<|J+1+aj))+90)+1) bo .z) (di _ _ _ _) O this⟩
theorem br.in1(b:br a (d+1) f):br a d f.in1:=⟨b.hh,by have:=b.d;refine(?_:f.depth+d+a<1000);exact af 0 (C+J+aj+1) 1000 (.p 1 (C+(J+1)+aj+1) 1000 .z) (bk _ _ _) O this,by have:=b.u;refine(?_:f.units+1+20*(d+a)+90<hJ);exact af 0 (((C+1+(bn 20<|J+aj))+90)+1) bo (.p 1 (((C+(bn 20<|J+1+aj))+90)+1) bo .z) (di _ _ _ _) O this⟩
theorem br.hu(b:br a d f):f.units+70<hJ:=by have:=b.u;exact af 0 (C+70+1) J (.p 1 (((C+(bn 20<|aj+bo))+90)+1) J .z) (di _ _ _ _) O this
def ie(d:al)(a:aa):Prop:=(∃e,a= .builtin e)\/(∃f,a= .type f)\/∃b c g,a= .ref b/\d.heap.get? b=Q c/\c.data= .func g
theorem Il{a:Prop}{b:Prop}{c:Prop} [zk a](e:b)(f:c):if a then b else c:=by by_cases d:a<;>simp only [d,pp,mJ]<;>assumption
theorem pc{b:M (ah×cC aa)}{c:M (ag I×cC aa)}
 (j:b.any (·.1)=ai) (l:c.any (·.1.isNone)=ai)
 (m:an f8 f (Fo k X b c) (λg d=>ie d k/\an f8 f (dF k (K++g.pos) g.kw) g6 a6 d) a6 e):an f8 f (As A k K b c) g6 a6 e:=by
 revert f8 e f a6 A k K b c g6 j l m
 apply U10
 generalize P9 _=f,Q9 _=K,Q8 _=f8,Q7 _=A,Q6 _=e,Q5 _=k,Q4 _=a6,Q3 _=g6,Q2 _=b,Q1 _=c
 intro j l m
 unfold As
 refine aJ<|fk (eO m (λh d a=>aJ<|iT ?_) λ_ _ h=>h)
 have i:∀{o:cC aa},an f8 f o g6 a6 d->an f8 f (o>>=λn=>oP [n] point>>=λ_=>dj n) g6 a6 d:=
  λp=>aJ<|eO p (λn u q=>aJ<|fk (wpAny_point<|bP q)) λ_ _ h=>h
 rw [j,l]
 revert a;refine aA λr a=> ?_
 obtain⟨v,rfl⟩|⟨w,rfl⟩|⟨g,x,y,rfl,s,t⟩:=r
 .exact aJ<|bP (i a)
 .exact aJ<|bP (i a)
 .refine aJ (m:=keeperOf<|.ref g) ?_
  unfold keeperOf
  refine aJ<|wpAny_load s ?_
  rw [t]
  refine bP ?_
  first
   |refine wpAny_ite ?_
   |skip
  refine Il ?_ ?_<;>first
   |exact i a
   |exact i<|by unfold callMarked;exact Calls.wpAny_keep a
theorem pg{a:M (ah×cC aa)}{b:M (ag I×cC aa)}{c:Args->al->Prop}(i:a.any (·.1)=ai)(d:b.all (·.1.isSome)=X)
 (g:an f8 f (Fw a) (λj l=>an f8 f (evalAll (b.map (·.2))) (λm n=>c ⟨j,(b.filterMap (·.1)).zip m⟩ n) a6 l) a6 e):an f8 f (Fo k X a b) c a6 e:=by
 revert f8 e f a6 k a b c i d g
 apply U8
 generalize P7 _=f,Q7 _=f8,Q6 _=e,Q5 _=k,Q4 _=a6,Q3 _=a,Q2 _=b,Q1 _=c
 intro i d g
 cases a with
 |nil=>
  unfold Fo
  refine(?_:an f8 f (Fw []>>=_) c a6 e)
  refine aJ<|eO g (λj l o=> ?_) λ_ _ h=>h
  refine aJ<|bP ?_
  refine fk ?_
  simp only [d,pp]
  refine aJ<|eO o (λm n p=> ?_) λ_ _ h=>h
  exact aJ<|bP (bP p)
 |cons q s=>
  obtain⟨r,h⟩:=q
  cases r with
  |false=>exact evalArgs_kw d g
  |true=>simp at i
theorem Qb{a:Ah}(c:a.params=⟨[],[k6],U,[],[],U,[]⟩)(d:a.defaults= .none)(e:a.kwdefaults= .none):bindArgs a ⟨[k],[]⟩=dj [(k6.arg,k)]:=by
 revert a k6 k c d e;apply U3;generalize P2 _=k6,Q2 _=k,Q1 _=a;intro c d e;cases a;cases c;cases d;cases e;have f:fa k6.arg [(k6.arg,k)]=Q k:=by rw [ee,jx]
 have h:¬((!(qe (λb=>(fa b [(k6.arg,k)]).isNone) [k6.arg]).isEmpty)=X):=by rw [kz,f];exact jk
 have i:Ei (λb=>eU (λj=>(b,j))<|fa b [(k6.arg,k)]) [k6.arg]=[(k6.arg,k)]:=by rw [ii,f];rfl
 conv=>lhs;whnf
 generalize instDecidableEqBool _ _=l
 cases l with
 |isTrue g=>exact bD g h
 |isFalse g=>exact bq Sem.pure i
def ej(i:ah)(j k:N)(l:aC->bf->M G->aQ->Prop):Prop:= ∀(d:aC) (e:bf) (f:M G) (g:aQ),l d e f g->∀(a:bR) (h:bH) (b:ar) (c:al),br j k a->am b f c->bp a i b h e->an (az aq ap) a (cQ d h) (bg b c g) aB c
def ss(i:ah)(j k:N)(l:aC->bf->M G->(ah->M G->Prop)->Prop):Prop:= ∀(a:aC) (f:bf) (g:M G) (h:ah->M G->Prop),l a f g h->∀(b:bR) (c:bH) (d:ar) (e:al),br j k b->am d g e->bp b i d c f->an (az aq ap) b (qz a c<|cQ a c) (fy d e h) aB e
def vR(a:aT)(b:ar):io->aY->Prop
 | .next,.next=>kc
 | .brk,.brk=>kc
 | .cont,.cont=>kc
 | .ret c,.ret d=>aR a b c d
 |_,_=>cn
inductive dV(e:ar)(f:al)(g:aY->M G->Prop)(h:io)(a:al):Prop
 |mk (b:ar) (c:M G) (d:aY) (i:aH e f b a) (j:am b c a) (k:vR a.heap b h d) (l:g d c)
theorem dV.trans{a:io}(c:aH b e x S)(d:dV x S Z a e9):dV b e Z a e9:= (by obtain⟨f,g,h,i,j,k,l⟩:=d;exact⟨f,g,h,c.trans i,j,k,l⟩)
def sr(i:ah)(j k:N)(l:cD->bf->M G->(aY->M G->Prop)->Prop):Prop:= ∀(d:cD) (e:bf) (f:M G) (g:aY->M G->Prop),l d e f g->∀(a:bR) (h:bH) (b:ar) (c:al),br j k a->am b f c->bp a i b h e->an (az aq ap) a (jX d h) (dV b c g) aB c
structure fJ(c:ah)(h i:N)(j:bG):Prop where
 E:ej c h i j.E
 T:ss c h i j.T
 S:sr c h i j.S
theorem aE3{c:cC E}{d:E->cC f5}{g:E->al->Prop}{h:f5->al->Prop}(i:an f8 f c g aB e)(j:∀a b,g a b->an f8 f (d a) h a6 b):an f8 f (c>>=d) h a6 e:= aJ<|eO i (λa b k=>j a b k) λ_ _ l=>l.elim
theorem rl(a:fQ v=X):oQ (v::c6) p=(ai,cQ v p)::oQ c6 p:=by cases v<;>first|rfl|(exact cY a)
theorem lb:∀{a:M aC},a.all fQ=X->(sn A<|oQ a p).any (·.1)=ai:=by
 intro c
 induction c with
 |nil=>exact λ_=>O
 |cons e a d=>exact λb=>by rw [wc,eJ] at b;rw [rl b.1];refine(?_:(ai||(sn A<|oQ a p).any (·.1))=ai);rw [d b.2];rfl
theorem rC(x:ej n a d u.E)(y:br a d f):∀{e:M R} {b:ar} {g:M G} {c:al} {h:M R->M G->Prop},c6.all fQ=X->kt u c6 e o g h->am b g c->bp f n b p o->
 an (az aq ap) f (Fw<|sn A (oQ c6 p)) (qr b c λi z=>h (e++i) z) aB c:=by
 induction c6 with
 |nil=>intro e b g c h _ j k l;exact bP ⟨b,g,[],aH.refl b c,k,.nil,by refine(?_:h (e++ []) g);rw [cZ];exact j⟩
 |cons q c6 B=>
  intro e b g c h m j k l
  rw [wc,eJ] at m
  refine oF (bQ (x _ _ _ _ j f p b c y k l) λZ a0 D=> ?_)<|rl m.1
  obtain⟨a1,a2,r,s,E,K,L⟩:=D
  refine eO (B m.2 L E<|l.ext s) (λa3 a4 P=> ?_) λ_ _ q=>q
  obtain⟨S,t,i,v,T,V,Y⟩:=P
  exact⟨S,t,r::i,s.trans v,T,.cons (v.rel K) V,by have w:h (e++ [r]++i) t:=Y;rw [eo] at w;exact w⟩
theorem ZT(D:ej n a d u.E)(E:br a d f):∀{e:M (I×R)} {b:ar} {g:M G} {c:al} {h:M (I×R)->M G->Prop},DI u l3 e o g h->am b g c->bp f n b p o->
 an (az aq ap) f (evalAll ((nu A<|nw l3 p).map (·.2))) (λs l=>∃m t i,aH b c m l/\am m t l/\iq l.heap m (((nu A<|nw l3 p).filterMap (·.1)).zip s) i/\h (e++i) t) aB c:=by
 induction l3 with
 |nil=>intro e b g c h j q r;exact bP ⟨b,g,[],aH.refl b c,q,.nil,by refine(?_:h (e++ []) g);rw [cZ];exact j⟩
 |cons K a3 L=>
  intro e b g c h j q r
  obtain⟨k,i,a4⟩:=K
  cases k with
  |none=>exact j.elim
  |some k=>
   refine aw6<|bQ (D _ _ _ _ j f p b c E q r) λa5 a6 P=> ?_
   obtain⟨a7,a8,v,w,S,T,V⟩:=P
   refine eO (L V S<|r.ext w) (λs a9 Y=> ?_) λ_ _ i=>i
   revert Y;refine mP λZ x y z a0 a1 a2=> ?_
   exact⟨Z,x,(k,v)::y,w.trans z,a0,.cons (z.rel T) a1,by have B:h (e++ [(k,v)]++y) x:=a2;rw [eo] at B;exact B⟩
theorem IK{a:bH}{b:bV}:∀{d:M oI},Cm d=X->(nu b<|nw d a).all (·.1.isSome)=X/\(nu b<|nw d a).any (·.1.isNone)=ai
 |[],_=>⟨O,O⟩
 |⟨Q g,h,i⟩::c,e=>by
  have f:=IK (a:=a) (b:=b) (d:=c) e;constructor
  .refine(?_:(X&&(nu b<|nw c a).all (·.1.isSome))=X);rw [f.1];rfl
  .refine(?_:(ai||(nu b<|nw c a).any (·.1.isNone))=ai);rw [f.2];rfl
 |⟨U,_,_⟩::c,e=>by exact cY e
def zZ(l:ah)(m:N)(n:R->M R->M (I×R)->M G->aQ->Prop):Prop:= ∀(e:R) (f:M R) (g:M (I×R)) (h:M G) (i:aQ),n e f g h i->∀(c:bR) (b:ar) (a:al) (d:aa) (j:M aa) (k:M (I×aa)),br m 0 c->(l=X->nE c b)->am b h a-> aR a.heap b d e->dN a.heap b j f->iq a.heap b k g->ie a d/\an (az aq ap) c (dF d j k) (bg b a i) aB a
theorem br.zero(b:br a d f):br a 0 f:=⟨b.hh,by have:=b.d;exact af 0 (C+0+J+1) 1000 (.p 1 (C+aj+J+1) 1000 .z) (bk _ _ _) O this,by have:=b.u;exact af 0 (((C+(bn 20<|0+J))+90)+1) aj (.p 1 (((C+(bn 20<|bo+J))+90)+1) aj .z) (di _ _ _ _) O this⟩
theorem am7(e:M (I×aa))(a:I)(d:aa)(b:I):([(a,d)]:M (I×aa)).reverse.lookup b=if b=a then Q d else U:=by
 by_cases c:b=a
 .subst c;simp [fa]
 .simp [fa,eP.mpr c,c]
theorem XS{b:se}(a:JJ b=Q k6):b=⟨[],[k6],U,[],[],U,[]⟩:=by
 obtain⟨d,c,e,f,g,h,i⟩:=b
 cases d with
 |cons _ _=>exact aU a
 |nil=>cases c with
  |nil=>exact aU a
  |cons k c=>cases c with
   |cons _ _=>exact aU a
   |nil=>cases e with
    |some _=>exact aU a
    |none=>cases f with
     |cons _ _=>exact aU a
     |nil=>cases g with
      |cons _ _=>exact aU a
      |nil=>cases h with
       |some _=>exact aU a
       |none=>cases i with
        |cons _ _=>exact aU a
        |nil=>(revert a;refine aL λj=> ?_;subst j);rfl
structure ou(h:Arg)(c:dJ):Prop where
 kind:c.kind= .function
 gen:c.isGenerator=ai
 co:c.isCoroutine=ai
 nc:∀i∈c.names,i.2≠ .cell
 par:c.names.lookup h.arg=Q .local
 d1:c.names.lookup ("__debug__":I)=U
 d2:c.names.lookup ("__classdict__":I)=U
theorem RF(a:Bi k6 c8=X):ou k6 c8:=by unfold Bi at a;simp only [eJ,lr,uh,fX,hH,mG] at a;revert a;refine aA λb c=> ?_;refine aA (λd e=> ?_)<|b;refine aA (λf g=> ?_)<|d;refine aA (λh i=> ?_)<|f;refine aA (λj k=> ?_)<|h;refine aA (λl m=> ?_)<|j;exact⟨l,m,k,i,g,e,c⟩
theorem ZE(n:ht i4)(o:ej ai a d u.E)(l:br a (d+1) f)(j:am b c e)(p:aR e.heap b k L)(q:aR e.heap b Y h)(g:rB u L h c s):
 ie e k/\an (az aq ap) f (dF k [Y] []) (bg b e s) aB e:=by
 revert b c e f i4 a d u k Y h L s n o l j p q g
 apply U13
 generalize P12 _=f,Q12 _=a,Q11 _=d,Q10 _=e,Q9 _=k,Q8 _=Y,Q7 _=h,Q6 _=L,Q5 _=i4,Q4 _=c,Q3 _=b,Q2 _=s,Q1 _=u
 intro n o l j p q g
 cases L with
 |clo _ _ _ _ c7=>
  obtain⟨y,Z,_,rfl,c8,z,a0,A⟩:=p.inv
  obtain⟨a1,a2,B,c9,D,a3,a4,a5,a6,a7,a8,a9,b0,b1,b2,b3⟩:=a0
  refine⟨.inr<|.inr ⟨y,a1,a2,O,B,D⟩,?_⟩
  obtain⟨r,b4,b5⟩:=cF g
  obtain⟨t,b6⟩:=cz b5
  cases XS b4
  obtain⟨E,b7,b8,b9,c0,c1,c2⟩:=RF t
  subst a5 a6
  refine AC<|W.kla_callFunE (by have:=l.d;refine(?_:f.depth<1000);exact af 0 (C+1) 1000 (.p 1 (C+(J+1)+aj+1) 1000 .z) (bk _ _ _) O this) B D b8 b7 a4 (by rw [b2];exact b3) ?_
  rw [Qb a3 a9 b0]
  have c3:e.heap.NoLimit:=n.lim.keeps j.base
  refine bP<|wpAny_newFunctionEnv b9 (λv i=> ?_) (λw K P=>⟨c3.fresh _ P,W.kla_codeExpr ?_⟩) E
  .rw [bU] at i;subst i;exact c0
  .have S:∀m h,e.heap.get? m=Q h->w.get? m=Q h:=λm c T=>P.extBut m c (ik<|jt T)<|iQ _ T
   have V:e.heap.get? e.heap.objs.size=U:=fD _<|ba _
   have c4:0<e.toks+1:=fT _
   have x:aH b e (b.add e.heap.objs.size) {e with heap:=w,toks:=e.toks+1}:=aH.led V S
   have c5:am (b.add e.heap.objs.size) (c++ [G.ns [(r.arg,h)]]) {e with heap:=w,toks:=e.toks+1}:=
    j.led c4 V S (x:= .ns _) ⟨_,K,λv d0 i=>by
     rw [am7 [] r.arg Y v];rw [ee] at i;by_cases g:v=r.arg
     .subst g;simp at i;subst i;exact⟨Y,bK O,q.car x.car⟩
     .rw [eP.mpr g] at i;simp at i⟩ (lX K)
   refine eO (o _ _ _ _ b6 _ _ _ _ (l.deep _) c5 ⟨(λc6=>(by cases c6)),O,E,j.len▸ar.add_at b _,?_,a7,b1,c1,c2,O,λZ t=>by cases t⟩) (λy d1 z=>z.trans x) λ_ _ h=>h.elim
   rw [<-a8] at A
   exact A.mono λ_ _ g=>x.at g
 |_=>exact g.elim
theorem Qg(a:B):ie e a.val:=by cases a<;>first|exact .inl ⟨_,O⟩|exact .inr<|.inl ⟨_,O⟩
theorem ZB(u:∀p,bM.get? p=U->(p==cR)=ai)(r:zZ n a e6)(i:br a d f)(t:n=X->nE f b)(j:am b c e)
 (l:aR e.heap b k h) (m:dN e.heap b K q) (o:iq e.heap b b5 D) (g:Bc e6 h q D c s):
 ie e k/\an (az aq ap) f (dF k K b5) (bg b e s) aB e:=by
 cases h with
 |blt v=>
  obtain⟨w,g⟩|⟨_,g⟩:=uF g
  .cases jN.mp w
   cases o
   cases(l.inv:k=v.val)
   exact⟨Qg _,Ku j i.hh u m g⟩
  .exact r _ _ _ _ _ g _ _ _ _ _ _ i.zero t j l m o
 |_=>exact r _ _ _ _ _ g _ _ _ _ _ _ i.zero t j l m o
theorem gh{a:cC E}{b c:E->al->Prop}(h:an f8 f a b aB e)(i:∀d g,b d g->c d g):an f8 f a c aB e:=eO h i λ_ _ j=>j
theorem ez(q:ej n a d u.E)(r:br a d f)(t:am b c e)(l:bp f n b p o)(w:u.E v o c s)
 (x:∀i g h j k,aH b e h g->am h j g->bp f n h p o->aR g.heap h i k->s k j->a6 i g):an (az aq ap) f (cQ v p) a6 aB e:=
 bQ (q _ _ _ _ w f p b e r t l) λi g y=>(by obtain⟨h,j,k,m,z,A,B⟩:=y;exact x i g h j k m z (l.ext m) A B)
theorem oa(m:ss n a d u.T)(q:br a d f)(r:am b c e)(j:bp f n b p o)(s:u.T v o c k7)
 (t:∀k g h i,aH b e h g->am h i g->bp f n h p o->k7 k i->h9 k g):an (az aq ap) f (qz v p<|cQ v p) h9 aB e:=
 bQ (m _ _ _ _ s f p b e q r j) λw g x=>(by obtain⟨h,i,l,y,z⟩:=x;exact t w g h i l y (j.ext l) z)
theorem yF(g:am b c e)(i:aR e.heap b k h)(j:pO h d7)(l:∀a d,0<d->d7 a->h9 a {e with toks:=d}):an (az aq ap) f (uw k) h9 aB e:= bQ (aa9 g i j) λa p ⟨d,m,n,o⟩=>by subst n;exact l a d m o
theorem Zz{j:ui}(x:ej n a d u.E)(y:br a d f):∀{k:ar} {D:M G} {l:al} {m:aQ},uE u j c6 o D m->am k D l->bp f n k p o->
 an (az aq ap) f (cQ (.BoolOp j c6 A) p) (bg k l m) aB l:=by
 revert f p o a d u n A j c6 x y
 apply U10
 generalize P9 _=f,Q9 _=n,Q8 _=p,Q7 _=c6,Q6 _=a,Q5 _=d,Q4 _=A,Q3 _=o,Q2 _=u,Q1 _=j
 intro x y
 induction c6 with
 |nil=>intro _ _ _ _ t _ _;exact t.elim
 |cons Y c6 Z=>
  intro k D l m t E K
  cases c6 with
  |nil=>exact au2<|x _ _ _ _ t f p k l y E K
  |cons L c6=>
   have t:u.E Y o D λi S=>pO i λz=>eQ (ve j z) (uE u j (L::c6) o S m) (m i S):=t
   have T:∀i b c g s e,aH k l c b->am c g b->aR b.heap c i s->m s g->0<e->bg k l m i {b with toks:=e}:=λi b c g s e q h v a0 r=>⟨c,g,s,q.trans<|aH.toks c b e,h.toks r,v,a0⟩
   have V:∀b c g e,aH k l c b->am c g b->bp f n c p o->uE u j (L::c6) o g m->0<e->an (az aq ap) f (cQ (.BoolOp j (L::c6) A) p) (bg k l m) aB {b with toks:=e}:=λb c g e q h B w r=>gh (Z w (h.toks r)<|B.ext (aH.toks c b e)) λ_ _ a1=>a1.trans<|q.trans (aH.toks c b e)
   cases j with
   |And=>
    refine au1<|ez x y E K t λi b c g s q h B v P=>yF h v P λz e r w=> ?_
    cases z with
    |false=>exact T i b c g s e q h v w r
    |true=>exact V b c g e q h B w r
   |Or=>
    refine au3<|ez x y E K t λi b c g s q h B v P=>yF h v P λz e r w=> ?_
    cases z with
    |true=>exact T i b c g s e q h v w r
    |false=>exact V b c g e q h B w r
theorem Zw{l:ui}(x:ss n a d u.T)(y:br a d f):∀{q:M aC} {b:ar} {e:M G} {c:al} {m:ah->M G->Prop},AQ u l q o e m->am b e c->bp f n b p o->
 an (az aq ap) f (qz (.BoolOp l q A) p i3) (fy b c m) aB c:=by
 intro D
 induction D with
 |nil=>
  exact @λb e c m g h _=>by
   cases l with
   |And=>exact aw1 ⟨b,e,aH.refl b c,h,g⟩
   |Or=>exact aw4 ⟨b,e,aH.refl b c,h,g⟩
 |cons K q z=>
  exact @λb e c m g h B=>by
   cases l with
   |And=>
    refine aw0<|oa x y h B g λr E s t i j v k=> ?_
    cases r with
    |false=>exact⟨s,t,i,j,k⟩
    |true=>exact gh (z k j v) λ_ _ w=>w.trans i
   |Or=>
    refine aw3<|oa x y h B g λr E s t i j v k=> ?_
    cases r with
    |true=>exact⟨s,t,i,j,k⟩
    |false=>exact gh (z k j v) λ_ _ w=>w.trans i
theorem WJ(a:fQ v=X):behindInMarks i0 v=ai:=by cases v<;>first|rfl|exact cY a
theorem IV:∀(a:M lD) (b:M aC),b.all fQ=X->lastMarks a b=ai:=by
 intro a b
 induction b generalizing a with
 |nil=>
  intro _
  cases a with
  |nil=>rfl
  |cons d a=>cases a<;>rfl
 |cons g b e=>
  intro c
  cases a with
  |nil=>rfl
  |cons d a=>
   rw [wc,eJ] at c
   cases a with
   |nil=>cases b with
    |nil=>exact WJ c.1
    |cons _ b=>cases b<;>rfl
   |cons f a=>exact e (f::a) c.2
def NW(b:ar)(c:al)(d:ah->M G->Prop)(e:aa)(f:al):Prop:=∃a,e= .bool a/\fy b c d a f
theorem yE{w:R->ah->M G->Prop}{x:aa->aa->al->Prop}(K:∀s,bM.get? s=U->(s==cR)=ai)(L:ej n a d u.E)(t:br a d f)(P:am b c e)(S:bp f n b p o)(T:aR e.heap b k h)
 (V:u.E v o c λg y=>lP i0 h g y λz=>w g z y) (Y:∀l m g j i q,aH b e i j->am i q j->bp f n i p o->aR j.heap i l m->w m g q->x l (.bool g) j):
 an (az aq ap) f (cQ v p) (λg r=>an (az aq ap) f (kH i0 k g) (x g) aB r) aB e:=
 ez L t P S V λl r i q m A B Z D a0=>bQ (ZF B t.hu (A.rel T) D a0 K) λz j a1=>by revert a1;refine gb λg E a2 a3 a4 a5=> ?_;subst a2 a4;exact Y l m g _ i q (A.trans<|aH.toks i r E) (B.toks a3) (Z.ext<|aH.toks i r E) D a5
theorem ZC(y:∀z,bM.get? z=U->(z==cR)=ai)(B:ej n a d u.E)(D:br a d f):∀{e:M lD} {b:M aC} {t:R} {v:aa} {i:ar} {w:M G} {j:al} {g:ah->M G->Prop},
 lO u t e b o w g->am i w j->bp f n i p o->aR j.heap i v t->an (az aq ap) f (OP A v e<|Au b p) (NW i j g) aB j:=by
 intro a0
 induction a0 with
 |nil=>exact @λ_ _ _ _ _ _ _ c _ _ _=>c.elim
 |cons a8 e a1=>
  intro a2
  cases a2 with
  |nil=>exact @λ_ _ _ _ _ _ c _ _ _=>c.elim
  |cons E b=>
   exact @λt v i w j g c K L P=>by
    refine aA (λS c=> ?_)<|cz c
    cases e with
    |nil=>cases b with
     |cons _ _=>exact cY S
     |nil=>exact av2<|yE y B D K L (w:=λ_ k l=>g k l) P c λa3 T h a4 x m q r _ V s=>⟨h,O,x,m,q,r,s⟩
    |cons Y e=>cases b with
     |nil=>exact cY S
     |cons Z b=>
      refine av3<|yE y B D K L (w:=λh k l=>eQ k (lO u h (Y::e) (Z::b) o l g)<|g ai l) P c λa3 T h a4 x m q r a5 V s=>AI ?_
      cases h with
      |false=>exact⟨ai,O,x,m,q,r,s⟩
      |true=>exact gh (a1 (show lO u T (Y::e) (Z::b) o m g from s) r a5 V) λk a9 a6=>(by(revert a6;refine ac λh E a7=> ?_);exact⟨h,E,a7.trans q⟩)
theorem ah4
 (i:an f8 f i3 (λc d=>an f8 f (kH i0 k c) (λa g=>an f8 f (uw a) h9 a6 g) a6 d) a6 e):an f8 f (Fy A k [i0] [i3]) h9 a6 e:=by
 show an f8 f (do
  let h<-oP [k] i3
  nC A
  let a<-Ft [k,h] (kH i0 k h)
  oP [a] (uw a)) h9 a6 e
 exact aJ<|fk (eO i (λc d j=>aJ<|iT (aJ<|ax6 (eO j (λa g l=>fk l) λ_ _ b=>b))) λ_ _ b=>b)
theorem ZD(y:∀z,bM.get? z=U->(z==cR)=ai)(B:ej n a d u.E)(D:br a d f):∀{e:M lD} {b:M aC} {t:R} {v:aa} {i:ar} {w:M G} {j:al} {g:ah->M G->Prop},
 lO u t e b o w g->am i w j->bp f n i p o->aR j.heap i v t->an (az aq ap) f (Fy A v e<|Au b p) (fy i j g) aB j:=by
 intro a0
 induction a0 with
 |nil=>exact @λ_ _ _ _ _ _ _ c _ _ _=>c.elim
 |cons a7 e a1=>
  intro a2
  cases a2 with
  |nil=>exact @λ_ _ _ _ _ _ c _ _ _=>c.elim
  |cons a8 b=>
   exact @λt v i w j g c E K L=>by
    refine aA (λP c=> ?_)<|cz c
    cases e with
    |nil=>cases b with
     |cons _ _=>exact cY P
     |nil=>exact ah4<|yE y B D E K (w:=λ_ h k=>g h k) (x:=λ_ h S=>an (az aq ap) f (uw h) _ aB S) L c λa3 T l a4 x m q r _ V s=>AI ⟨x,m,q,r,s⟩
    |cons Y e=>cases b with
     |nil=>exact cY P
     |cons Z b=>
      refine ax4<|yE y B D E K (w:=λl h k=>eQ h (lO u l (Y::e) (Z::b) o k g)<|g ai k) L c λa3 T l a4 x m q r a5 V s=>AI ?_
      cases l with
      |false=>exact⟨x,m,q,r,s⟩
      |true=>exact gh (a1 (show lO u T (Y::e) (Z::b) o m g from s) r a5 V) λh S a6=>a6.trans q
theorem Zs(k:ej n a d u.E)(l:br a d f)(m:am b c e)(q:bp f n b p o)(r:c6.all fQ=X)
 (v:kt u c6 [] o c λg w=>bW (aI<|g.length<=1048576)<|s (.tup g) w):an (az aq ap) f (cQ (.Tuple c6 t A) p) (bg b e s) aB e:=by
 refine NZ<|bQ (rC k l r v m q) λg B x=> ?_
 obtain⟨D,E,K,y,h,j,i⟩:=x
 refine aA (λi z=> ?_)<|kQ i
 refine FD (bg.trans y<|bg.alloc h h.tk (LF h j) z)<|by rw [j.length];exact iA i
theorem WE(d:am b c e)(f:dN e.heap b K q)(g:sX n q c s):bg b e s (.ref e.heap.objs.size) {e with heap:=e.heap.push {cls:= .type "list",data:= .seq K.toArray a}}:=by
 cases n with
 |false=>exact bg.alloc d d.tk (yf d f) g
 |true=>exact bg.led d O d.tk (Wv f) g
theorem Zn(j:ej h5 a d u.E)(k:br a d f)(l:am b c e)(m:bp f h5 b p o)(q:c6.all fQ=X)
 (r:kt u c6 [] o c λg t=>bW (aI<|g.length<=1048576)<|sX n g t s):an (az aq ap) f (cQ (.List c6 A) p) (bg b e s) aB e:=by
 refine au7<|bQ (rC j k q r l m) λg z v=> ?_
 obtain⟨B,D,E,w,x,i,h⟩:=v
 refine aA (λh y=> ?_)<|kQ h
 exact AF (bg.trans w<|WE x i y)<|by rw [i.length];exact iA h
theorem Zh(d:am b c e)(g:∀a,s (.loc c.length) (c++ [.dict a []])):an (az aq ap) f (cQ (.Dict [] [] A) p) (bg b e s) aB e:=
 let⟨a,h⟩:=xr<|ay5 (knd:=fB aq ap) e.heap
 wpAny_Dict_empty (bg.led d O d.tk (x:= .dict a []) ⟨[],h,.nil⟩<|g a)
theorem Cu [BEq E] [LawfulBEq E]{b:M (E×f5)}{c:E}{d:f5}(a:b.lookup c=Q d):(c,d)∈b:=by
 induction b with
 |nil=>simp at a
 |cons h i e=>
  rw [ee] at a;split at a
  .next f=>(revert a;refine aL λg=> ?_;subst g);rw [hd f];exact rW ..
  .exact ub _<|e a
def wn(c:al)(d:aa)(g:I)(h:B):Prop:=∃a b,h.val= .builtin b/\PlainAttrs a/\Slot a g b/\typeOf (.builtin b)=dj (.type "method_descriptor")/\c.TypeIs d a/\∀e,d= .ref e->∃f,c.heap.get? e=Q f/\f.dict=U
theorem WO(c:fa T vG=Q g7):wn e (.str g c1) T g7:=by
 revert e g c1 T g7 c;apply U5;generalize P4 _=e,Q4 _=g,Q3 _=T,Q2 _=c1,Q1 _=g7;intro c;have d:=Cu c;simp only [vG,sU,sD,bO,Aa,jQ,kp] at d;obtain⟨rfl,rfl⟩|⟨rfl,rfl⟩|⟨rfl,rfl⟩|⟨rfl,rfl⟩|⟨rfl,rfl⟩:=d
 .exact⟨_,_,O,uk,Af,F.type_str_split,lH _ _ _,λb a=>by cases a⟩
 .exact⟨_,_,O,uk,Oz,F.type_str_join,lH _ _ _,λb a=>by cases a⟩
 .exact⟨_,_,O,uk,F.slot_str_startswith,F.type_str_startswith,lH _ _ _,λb a=>by cases a⟩
 .exact⟨_,_,O,uk,F.slot_str_endswith,F.type_str_endswith,lH _ _ _,λb a=>by cases a⟩
 .exact⟨_,_,O,uk,Oy,F.type_str_find,lH _ _ _,λb a=>by cases a⟩
theorem Jo(d:e.heap.PlainList j f6)(a:fa g sU=Q g7):wn e (.ref j) g g7:=by
 have c:=Cu a;refine ay (λf b=> ?_)<|id d;simp only [vG,sU,sD,bO,Aa,jQ,kp] at c;obtain⟨rfl,rfl⟩|⟨rfl,rfl⟩|⟨rfl,rfl⟩:=c
 .exact⟨_,_,O,Fb,F.slot_list_append,F.type_list_append,⟨_,b,O⟩,λj a=>by cases a;exact⟨_,b,O⟩⟩
 .exact⟨_,_,O,Fb,Ox,F.type_list_insert,⟨_,b,O⟩,λj a=>by cases a;exact⟨_,b,O⟩⟩
 .exact⟨_,_,O,Fb,Ow,F.type_list_index,⟨_,b,O⟩,λj a=>by cases a;exact⟨_,b,O⟩⟩
theorem Jn(a:e.heap.DictOf (fB aq ap) j b5)(c:fa g sD=Q g7):wn e (.ref j) g g7:=by
 have b:=Cu c;simp only [vG,sU,sD,bO,Aa,jQ,kp] at b;obtain⟨rfl,rfl⟩|⟨rfl,rfl⟩:=b
 .exact⟨_,_,O,Oq,Os,F.type_dict_get,a.typeIs,a.mapOf.noDict⟩
 .exact⟨_,_,O,Oq,Ou,F.type_dict_setdefault,a.typeIs,a.mapOf.noDict⟩
theorem WN(j:am b c e)(l:aR e.heap b k h)(d:Jm c h g=Q g7):wn e k g g7:=by
 revert b c e k h g g7 j l d;apply U7;generalize P6 _=e,Q6 _=g,Q5 _=k,Q4 _=g7,Q3 _=h,Q2 _=c,Q1 _=b;intro j l d;refine ac (λi a d=> ?_)<|eY d
 cases l with
 |str s i=>(revert a;refine aL λf=> ?_;subst f);exact WO d
 |lst o i p=>(revert a;refine aL λf=> ?_;subst f);exact Jo i d
 |dct o t i p=>(revert a;refine aL λf=> ?_;subst f);exact Jn i d
 | @loc u v m=>
  refine ac (λg n a=> ?_)<|eY a
  cases g with
  |list q=>(revert a;refine aL λf=> ?_;subst f);refine ac (λw a r=> ?_)<|j.mo _ _ _ m n;exact Jo a d
  |dict _ q=>(revert a;refine aL λf=> ?_;subst f);refine ac (λx a r=> ?_)<|j.mo _ _ _ m n;exact Jn (qM a) d
  |_=>exact aU a
 |_=>exact aU a
theorem PX(a:JR v=X):attributeBase v g p (cQ v p)=cQ v p:=by
 cases v with
 |Call b c d e=>cases b with
  |Name f h=>cases c with
   |nil=>cases d with
    |nil=>exact cY a
    |cons _ _=>rfl
   |cons _ _=>rfl
  |_=>rfl
 |_=>rfl
theorem Yp:∀{a:M aC},a.all fQ=X->(sn A<|oQ a p).all (λb=> !b.1)=X:=by
 intro d
 induction d with
 |nil=>exact λ_=>O
 |cons f a e=>exact λc=>by rw [wc,eJ] at c;rw [rl c.1];refine(?_:(X&&(sn A<|oQ a p).all (λb=> !b.1))=X);rw [e c.2];rfl
theorem GC(a:Bn v=Q g):∃b c,v= .Constant (.str g) b c:=by
 cases v with
 |Constant d b c=>cases d<;>first|(cases a;exact⟨_,_,O⟩)|exact aU a
 |_=>exact aU a
theorem CJ(a:yp c6=Q v):c6=[v]:=by
 cases c6 with
 |nil=>exact aU a
 |cons d b=>cases b with
  |nil=>(revert a;refine aL λc=> ?_;subst c);rfl
  |cons _ _=>exact aU a
theorem aa4(d:am b c e)(g:aR e.heap b k h)(a:Kk h c6 c s):
 ∃i j,PlainAttrs i/\Slot i "replace" j/\typeOf (.builtin j)=dj (.type "method_descriptor")/\e.TypeIs k i/\(∀l,k= .ref l->∃o,e.heap.get? l=Q o/\o.dict=U)/\ an (az aq ap) f (As A (.builtin j) [k] (sn A<|oQ c6 p) []) (bg b e s) aB e:=by
 revert b c e f p k h c6 A s d g a
 apply U10
 generalize P9 _=f,Q9 _=p,Q8 _=c6,Q7 _=A,Q6 _=e,Q5 _=k,Q4 _=h,Q3 _=c,Q2 _=b,Q1 _=s
 intro d g a
 cases c6 with
 |nil=>exact a.elim
 |cons q c6=>
  refine ac (λt u a=> ?_)<|cF a
  refine ac (λv w a=> ?_)<|cF a
  refine ac (λP x y=> ?_)<|eY w
  refine tc (λS T m=> ?_)<|GC u;obtain rfl:=m
  refine tc (λV Y m=> ?_)<|GC y;obtain rfl:=m
  cases CJ x
  refine ac (λh n a=> ?_)<|gf a;obtain rfl:=n
  refine dH (λz B D=> ?_)<|cz a
  refine ay (λZ n=> ?_)<|g.str_inv;obtain rfl:=n
  refine⟨"str","str.replace",uk,F.slot_str_replace,F.type_str_replace,lH _ _ _,(λl q=>by cases q),pc (c:=[]) O O<|pg (b:=[]) O O ?_⟩
  have E:=d.tk
  have K:(t==v)=ai:=eP.mpr<|Xx ((lr _).mp z)
  refine oF<|EY (oF<|EY (Ac<|wV ⟨.inl ⟨_,O⟩,?_⟩))
  have r:aH b e b {e with toks:=e.toks+1+1}:=aH.toks _ _ _
  exact gh (PS (d.toks<|fT _) (r.rel g) (wv E) (wv<|fT _) (ik<|lA _) K B D) λ_ _ L=>L.trans r
theorem ZX(m:∀S,bM.get? S=U->(S==cR)=ai)(k:ej n a d u.E)(h:br a d f)(q:am b c e)(r:bp f n b p o)(i:Jl u v g A c6 e4 o c s):
 an (az aq ap) f (cQ (.Call (.Attribute v g A) c6 [] e4) p) (bg b e s) aB e:=by
 revert b c e f p o a d u n v g A e4 c6 s m k h q r i
 apply U16
 generalize P15 _=f,Q15 _=n,Q14 _=p,Q13 _=v,Q12 _=c6,Q11 _=a,Q10 _=d,Q9 _=A,Q8 _=e4,Q7 _=e,Q6 _=g,Q5 _=c,Q4 _=b,Q3 _=s,Q2 _=o,Q1 _=u
 intro m k h q r i
 refine aA (λT i=> ?_)<|cz i
 simp only [eJ,Bv] at T
 revert T;refine aA λZ a0=> ?_;refine aA (λa1 a2=> ?_)<|Z;refine aA (λl a3=> ?_)<|a1
 refine wpAny_Call_method_lateS (PX a3) (by rw [Yp l];exact ck (fh a0 (by decide):c6.length+0+0<30)) a2<|ez k h q r i λb2 b3 b4 b5 b6 V t a4 w j=> ?_
 obtain⟨x,j⟩|⟨_,j⟩:=uF j
 .have x:=hW x
  subst x
  refine vr (λy z B D E K L a5=> ?_)<|aa4 (f:=f) (p:=p) (A:=e4) t w j
  exact⟨y,z,B,D,E,K,L,gh a5 λ_ _ P=>P.trans V⟩
 .refine ac (λb7 a6 a7=> ?_)<|cF j
  refine vr (λy z a8 B D E K L=> ?_)<|WN t w a6
  refine⟨y,z,B,D,E,K,L,pc (c:=[]) (lb l) O<|pg (b:=[]) (lb l) O ?_⟩
  refine bQ (rC k h l a7 t a4) λb8 b9 ⟨c0,c1,c2,Y,a9,b0,b1⟩=>wV ⟨.inl ⟨_,O⟩,?_⟩
  have:=Ku (f:=f) a9 h.hh m (.cons (Y.rel w) b0) b1
  rw [a8] at this
  exact gh this λ_ _ P=>P.trans<|V.trans Y
theorem sy(a:∀b c d,v≠ .Attribute b c d):cQ (.Call v c6 l3 A) p=(do As A (<-cQ v p) [] (sn A<|oQ c6 p) (nu A<|nw l3 p)):=by cases v<;>first|rfl|exact bD O<|a _ _ _
theorem ZA(t:∀q,bM.get? q=U->(q==cR)=ai)(j:ej n a d u.E)(w:zZ n a e6)(g:br a d f)(x:am b c e)(y:bp f n b p o)
 (z:∀B D E,v≠ .Attribute B D E) (k:Gs e6 u v c6 l3 o c s):
 an (az aq ap) f (cQ (.Call v c6 l3 A) p) (bg b e s) aB e:=by
 refine aA (λr k=> ?_)<|cz k
 simp only [eJ,Bv] at r
 revert r;refine aA λK b0=> ?_;refine aA (λl L=> ?_)<|K
 refine aA (λP S=> ?_)<|IK (a:=p) (b:=A) L
 rw [sy z]
 refine aJ<|ez j g x y k λb1 b2 b3 b4 b5 e6 T m V Y=>pc (lb l) S<|pg (lb l) P ?_
 refine bQ (rC j g l Y T m) λb6 b7 Z=> ?_
 obtain⟨b8,b9,c0,h,a0,a1,a2⟩:=Z
 refine bQ (ZT j g a2 a0<|m.ext h) λc1 c2 a3=> ?_
 revert a3;refine mP λc3 c4 c5 i a4 a5 a6=> ?_
 refine aA (λa7 a8=> ?_)<|ZB t w g ((m.ext h).ext i).top a4 ((h.trans i).rel V) (i.rell a1) a5 a6
 exact⟨a7,gh a8 λ_ _ a9=>a9.trans<|e6.trans (h.trans i)⟩
def rO(b:al)(c:aa):Prop:=∃a d,b.TypeIs c a/\typeLookup (.type a) (bC "__getitem__")=dj (Q<|.builtin d)
theorem HF(a:e.heap.IsList j f6):rO e (.ref j):=⟨_,_,a.typeIs,F.slot_list_getitem.lookup⟩
theorem Tv(a:e.heap.IsTuple j f6):rO e (.ref j):=⟨_,_,a.typeIs,F.slot_tuple_getitem.lookup⟩
theorem HG:rO e (.str g c1):=⟨_,_,lH _ _ _,F.slot_str_getitem.lookup⟩
theorem Tu(d:am b c e)(f:aR e.heap b k h)(a:lf c h=Q q):rO e k:=by
 refine dd (λj l g m i=> ?_)<|Dd d f a;obtain rfl:=g;obtain a|a:=i
 .exact HF a.isList
 .exact Tv a
theorem Tt(m:am b c e)(p:∀g,bM.get? g=U->(g==cR)=ai)(i:aR e.heap b k h)(a:xP h L c s):rO e k:=by
 cases L with
 |str u=>refine ac (λd j f=> ?_)<|cF a;refine gb (λg v q f r f=> ?_)<|By m i j p;obtain rfl:=q;exact⟨_,_,r.typeIs,F.slot_dict_getitem.lookup⟩
 |int t=>
  refine aA (λf a=> ?_)<|cz a;by_cases n:∃o,h= .str o
  ·(revert n;refine ay λo l=> ?_;obtain rfl:=l);(refine ay (λw l=> ?_)<|i.str_inv;obtain rfl:=l);exact HG
  .have a:cm (lf c h) λd=>bW (aI<|d.length<4611686018427387904) (cm (lT d t) λk=>s k c):=by
    cases h<;>first|exact a|exact bD ⟨_,O⟩ n
   refine ac (λd j f=> ?_)<|cF a;exact Tu m i j
 |_=>exact a.elim
theorem ag1(a:∀b c d e,v≠ .Slice b c d e):OS v ai k Y=Ft [k,Y] (wQ k Y):=by cases v<;>first|rfl|exact bD O<|a _ _ _ _
theorem aa7(j:∀g,bM.get? g=U->(g==cR)=ai)(k:ej n a d u.E)(l:br a d f)(w:am b c e)(x:bp f n b p o)(h:∀y h z B,c5≠ .Slice y h z B)
 (D:u.E v o c λg E=>u.E c5 o E λm K=>xP g m K s):an (az aq ap) f (cQ (.Subscript v c5 A) p) (bg b e s) aB e:=by
 refine NY<|ez k l w x D λg a1 a2 a3 a4 L P S q T=>ez k l P S T λm a5 a6 a7 a8 i r a9 V t=> ?_
 refine dw (λb0 b1 Y Z=> ?_)<|Tt r j (i.rel q) t
 exact Of Y Z (gh (ZR r (i.rel q) V t j) λ_ _ a0=>a0.trans<|L.trans i)<|ag1 h
theorem Da(t:ej n a d u.E)(v:br a d f)(i:am b c e)(j:bp f n b p o)
 (k:re u m1 o c s) (l:∀m g h q r,aH b e h g->am h q g->bp f n h p o->aR g.heap h m r->s r q->a6 m g):
 an (az aq ap) f (evalPart m1 p) a6 aB e:=by
 cases m1 with
 |none=>rw [evalPart_none];exact bP<|l .none e b c .none (aH.refl b e) i j .none k
 |some m1=>rw [evalPart_some];exact ez t v i j k l
theorem CN(c:bi y i b k h)(a:yq h=Q j8):IsPart k j8/\∃d:ag (H×cH),d.map (·.1)=j8/\k=partValue d:=by
 cases h with
 |none=>cases c.inv;cases a;exact⟨.none,U,O,O⟩
 |int e=>obtain⟨f,rfl⟩:=c.inv;cases a;exact⟨.int e f,Q (e,f),O,O⟩
 |_=>cases a
theorem ad1{a:ag H}(c:dN i b K q):∃d:M aa,slicePick K.toArray j8 m2 a=d.toArray/\dN i b d (gd q j8 m2 a):=by refine⟨_,O,?_⟩;have:=c.pick<|nB (lG j8 m2 a q.length).1 (lG j8 m2 a q.length).2.1 (lG j8 m2 a q.length).2.2;unfold gd;rw [fv,c.length];simpa using this
theorem Ww(f:am b c e)(d:aR e.heap b k h)(a:Cr c h=Q q):
 ∃g,∃i:M aa,k= .ref g/\dN e.heap b i q/\e.heap.PlainList g i.toArray:=by
 revert b c e k h q f d a
 apply U6
 generalize P5 _=e,Q5 _=k,Q4 _=h,Q3 _=q,Q2 _=c,Q1 _=b
 intro f d a
 cases h with
 |lst p=>obtain⟨_,_,rfl,_,j,d⟩:=d.inv;cases a;exact⟨_,_,O,d,j⟩
 |loc r=>
  obtain⟨g,rfl,l⟩:=d.inv
  obtain⟨s,m,a⟩:=eY a
  cases Dc a
  obtain⟨i,n,o⟩:=f.mo _ _ _ l m;exact⟨_,_,O,o,n⟩
 |_=>cases a
theorem ZM(d:am b c e)(i:e.heap.IsSliceOf j Y f0 i6)(l:aR e.heap b k h)(m:aR e.heap b Y L)(n:aR e.heap b f0 d2)(o:aR e.heap b i6 k4)(a:Dk h L d2 k4 c s):
 rO e k/\an (az aq ap) f (wQ k<|.ref j) (bg b e s) aB e:=by
 revert b c e f k h Y f0 i6 L d2 k4 s j d i l m n o a
 apply U14
 generalize P13 _=j,Q13 _=f,Q12 _=e,Q11 _=k,Q10 _=Y,Q9 _=f0,Q8 _=i6,Q7 _=h,Q6 _=L,Q5 _=d2,Q4 _=k4,Q3 _=c,Q2 _=b,Q1 _=s
 intro d i l m n o a
 refine ac (λu A a=> ?_)<|cF a
 refine ac (λv B a=> ?_)<|cF a
 refine ac (λp D a=> ?_)<|cF a
 refine aA (λE g=> ?_)<|CN m A;refine ac (λK P S=> ?_)<|g
 refine aA (λT g=> ?_)<|CN n B;refine ac (λV Z a0=> ?_)<|g
 refine aA (λa1 g=> ?_)<|CN o D;refine ac (λw a2 a3=> ?_)<|g
 by_cases x:∃d2,h= .str d2
 .revert x;refine ay λd2 q=> ?_;obtain rfl:=q
  refine dH (λr a4 a5=> ?_)<|cz a
  cases uh.mp r
  refine ay (λk4 q=> ?_)<|l.str_inv;obtain rfl:=q
  have a6:w=U:=by cases w with
   |none=>rfl
   |some _=>exact rr a2
  subst a6
  subst P Z S a0 a3
  exact⟨HG,dC d.tk<|wpAny_getItem_str_slice (l:=K) (u:=V) (st:=U) i O (post_val_or_str ⟨aK (aK (OJ _ _ _) a4)<|bA O,λb4 b5 a7=>CT d a7 a5⟩)⟩
 .have a:bW (p !=Q 0)<|cm (Cr c h) λt=>t.length<=1048576/\s (.lst<|gd t u v p) c:=by
   cases h<;>first|exact a|exact bD ⟨_,O⟩ x
  refine aA (λr a=> ?_)<|cz a;refine dt (λt a8 a9 b0=> ?_)<|cF a;refine dd (λb6 b7 b1 y z=> ?_)<|Ww d l a8;obtain rfl:=b1;refine ac (λb8 b2 b3=> ?_)<|ad1 (j8:=u) (m2:=v) (a:=p) y;refine⟨HF z.isList,wpAny_getItem_list_slice z.isList i E T a1 (mG.mp r) ?_<|by rw [fv,y.length];exact iA a9⟩;rw [b2];exact bg.alloc d d.tk (yf d b3) b0
theorem ag2{b:ag aC}{a:ag aC}:∃c,OS (.Slice m1 b a A) ai k Y=Ft c (wQ k Y):=by
 cases a with
 |none=>exact⟨_,O⟩
 |some d=>exact⟨_,O⟩
theorem aa6{k:ag aC}{l:ag aC}(h:ej n a d u.E)(i:br a d f)(E:am b c e)(K:bp f n b p o)
 (m:u.E v o c λq L=>re u m1 o L λP S=>re u k o S λm T=>re u l o T λV Y=>Dk q P m V Y s):an (az aq ap) f (cQ (.Subscript v (.Slice m1 k l A) e4) p) (bg b e s) aB e:=by
 refine NY<|ez h i E K m λq c3 c4 c5 c6 Z a0 a1 a2 a3=>wpAny_Slice<|Da h i a0 a1 a3 λw c7 c8 c9 d0 a4 a5 a6 a7 a8=>Da h i a5 a6 a8 λx d1 d2 d3 d4 y a9 b0 b1 b2=>Da h i a9 b0 b2 λz g r b3 d5 t B d6 b4 b5=> ?_
 have j:aH r g r {g with heap:=g.heap.push {cls:= .type "slice",data:= .fields #[w,x,z]},toks:=g.toks}:=aH.grow<|hp _ _
 have b6:am r b3 {g with heap:=g.heap.push {cls:= .type "slice",data:= .fields #[w,x,z]},toks:=g.toks}:=B.grow B.tk<|hp _ _
 have D:=((a4.trans y).trans t).trans j
 refine aA (λb7 b8=> ?_)<|ZM (f:=f) b6 (ay6 ..) (D.rel a2) (((y.trans t).trans j).rel a7) ((t.trans j).rel b1) (j.rel b4) b5;refine dw (λd7 d8 b9 c0=> ?_)<|b7
 refine ay (λd9 c1=> ?_)<|ag2 (m1:=m1) (b:=k) (a:=l) (A:=A) (k:=q) (Y:= .ref g.heap.objs.size)
 exact Of b9 c0 (gh b8 λ_ _ c2=>c2.trans<|Z.trans D) c1
theorem RD:∀a:M (I×lE),mH g8 a U=U:=by
 intro c
 induction c with
 |nil=>exact O
 |cons b a d=>exact by refine(?_:mH g8 a (bif b.2== .free then U else U)=U);cases b.2==wH<;>exact d
theorem RG(i:I×lE->M (I×ao)->cC (ForInStep<|M (I×ao)))(t:i=λm u=>if(m.2==wH)=X then(λj=>rN ((m.1,j)::u))<$>cellOf p m.1 else dj (.yield u))
 (w:eK b p.cells o.cells):∀(h:M (I×lE)) (a:M (I×ao)) (e f:M (I×N)),eK b a e->mH o.cells h (Q e)=Q f->
 ∃g,(mn h a i:cC (M<|I×ao))=dj g/\eK b g f:=by
 intro x
 induction x with
 |nil=>exact λa e f k c=>by(revert c;refine aL λy=> ?_;subst y);exact⟨a,by simp,k⟩
 |cons d h v=>
  exact λa e f k c=>by
   have c:mH o.cells h (bif d.2== .free then(o.cells.lookup d.1).map λn=>(d.1,n)::e else Q e)=Q f:=c;rw [qf]
   cases l:d.2==wH with
   |true=>
    rw [l] at c
    cases q:o.cells.lookup d.1 with
    |none=>rw [q] at c;exact nomatch ((RD (g8:=o.cells) h).symm.trans c)
    |some n=>
     rw [q] at c;refine ac (λj z A=> ?_)<|w.look q;refine ac (λg r s=> ?_)<|v ((d.1,j)::a) ((d.1,n)::e) f ⟨O,A,k⟩ c;refine⟨g,?_,s⟩;have:i d a=dj (.yield ((d.1,j)::a)):=by rw [t];simp only [l,pp,cellOf,z,map_pure]
     rw [this,wb];exact r
   |false=>
    rw [l] at c;refine ac (λg r s=> ?_)<|v a e f k c;refine⟨g,?_,s⟩;have:i d a=dj (.yield a):=by rw [t];simp only [l];rfl
    rw [this,wb];exact r
theorem Gv(c:eK b p.cells o.cells)(d:mH o.cells c8.names (Q [])=Q g8):∃a,Fj c8 p=dj a/\eK b a g8:=by refine ac (λa e f=> ?_)<|RG (p:=p) _ O c c8.names [] [] g8 eG d;refine⟨a,?_,f⟩;unfold Fj;simp only [bind_pure_comp];show(do let g<-mn c8.names [] _;dj g)=_;rw [e];rfl
theorem Pt(a b:M aa)(c:oN a):qw A (a++b)=match qw A a with|some d=>Q d|none=>qw A b:=by
 fun_induction oN a with
 |case1=>simp [qw]
 |case2 f g h i j k e=>
  simp only [tU,qw];split
  .rfl
  .exact e c
 |case3=>exact c.elim
theorem ai1(a b:M aa)(c:oN a)(d:oN b):oN (a++b):=by
 fun_induction oN a with
 |case1=>exact d
 |case2 f g h i j k e=>simp only [tU,oN];exact e c
 |case3=>exact c.elim
theorem KM{e:Type}:∀{a:M e} {c:N} {d:e},a[c]? =Q d->a.set c d=a
 |[],_,_,b=>(by exact aU b)
 |f::a,0,d,b=>by(revert b;refine aL λg=> ?_;subst g);rfl
 |f::a,c+1,d,b=>bq (f:: ·)<|KM (a:=a) (c:=c) b
theorem Gz(c:i.CodeRec (.ref j) g)(d:∀a,i.get? j=Q a->c0.get? j=Q a):c0.CodeRec (.ref j) g:= (by(revert c;refine yo λe f h k b l m=> ?_);exact⟨e,f,h,k,b,by cases b;exact d _ l,m⟩)
theorem Qi(c:i.BuiltinsAt g5 j)(d:∀b a,i.get? b=Q a->c0.get? b=Q a):c0.BuiltinsAt g5 j:= (by(revert c;refine vr λe a f g h k l m=> ?_);exact⟨e,a,f,g,h,k,d _ _ l,m⟩)
theorem ag8{b:ek}(a:Dx g b9=Q b):b9= .ctab g:=by
 cases b9 with
 |ctab c=>
  have a:(bif aI (c=g) then Q () else U)=Q b:=a;by_cases d:c=g
  .rw [d]
  .rw [cN d] at a;exact aU a
 |_=>exact aU a
theorem ZU{i:se}(E:ht i4)(a:am b c e)(l:bp f n b p o)(g:IT i v c8 o c s):
 an (az aq ap) f (cQ (.Lambda i v c8 A) p) (bg b e s) aB e:=by
 revert b c e f p o i4 n i v c8 A s E a l g
 apply U13
 generalize P12 _=f,Q12 _=n,Q11 _=p,Q10 _=v,Q9 _=A,Q8 _=c8,Q7 _=e,Q6 _=i4,Q5 _=c,Q4 _=b,Q3 _=s,Q2 _=o,Q1 _=i
 intro E a l g
 refine aA (λa3 g=> ?_)<|cz g
 refine ac (λy t g=> ?_)<|cF g
 refine ac (λK b8 t=> ?_)<|eY t
 refine ac (λd9 a4 t=> ?_)<|eY t
 cases ag8 t
 refine ac (λe0 b9 g=> ?_)<|cF g
 refine dd (λc0 q a5 u c1=> ?_)<|l.ct K b8
 refine dt (λc2 L z a6=> ?_)<|a.mo _ _ _ u a4
 refine ac (λr a7 a8=> ?_)<|Gv l.cells b9
 refine gb (λB e1 a9 e2 e3 c3=> ?_)<|E.ex
 have b0:bM.get? q=U:=a.out _ _ u
 have b1:=Qi (c3 q b0) a.base
 have b2:wL e.heap c0 q:=c1.keeps a.base
 have b3:=a9.keeps a.base
 simp only [eJ,jN] at a3
 refine W.kla_eval (by obtain⟨_,_,_,_,_,_,_⟩:=i;(revert a3;refine aA λc4 y=> ?_;refine aA (λc5 c6=> ?_)<|c4;obtain rfl:=c5;obtain rfl:=c6);rfl) ?_
 rw [l.q]
 refine dC a.tk ?_
 cases P:qw A c2.toList with
 |some c7=>
  refine dt (λj S D T=> ?_)<|a6 A _ P;obtain rfl:=S
  refine W.kla_makeFunctionHit a7 l.gl b3 a5 b2 L z P b1 λw V Y x c9 Z=> ?_
  have a0:∀h k,e.heap.get? h=Q k->(V.push {cls:= .type "function",data:= .func<|W.kla_fn (bC "<lambda>") (o.qual++bC "<lambda>") i v c8 r ((B<|bC "__name__").getD .none) (.ref j) w}).get? h=Q k:=λh k d=>iQ _<|x h k d
  refine⟨b,c,_,aH.grow (a:=Y) a0,a.grow Z a0,.clo (c:=j) (cells:=r) (a.fresh<|fD _ c9) D ⟨_,_,gB _ O,O,O,O,O,O,O,O,O,O,O,O,O,Gz T λc d=>a0 _ _ d⟩ a8,g⟩
 |none=>
  have d0:gC≠q:=λd=>by(revert a9;refine iC λe4 y y b4 y=> ?_);rw [d,b0] at b4;exact aU b4
  refine W.kla_makeFunction a7 l.gl b3 a5 b2 L z P d0 b1 λj w V Y d1 b5 d2 d3 d4 Z=> ?_
  have e5:q<e.heap.objs.size:=jt L
  have x:∀h k,h≠q->e.heap.get? h=Q k->(V.push<|Fg (bC "<lambda>") (o.qual++bC "<lambda>") i v c8 r ((B<|bC "__name__").getD .none) j w).get? h=Q k:=λh k d5 d=>iQ _<|d1 h k d5 d
  have a1:=iQ (Fg (bC "<lambda>") (o.qual++bC "<lambda>") i v c8 r ((B<|bC "__name__").getD .none) j w) d4
  have b6:bh b j:=a.fresh<|fD _ b5
  have b7:=d3.push<|Fg (bC "<lambda>") (o.qual++bC "<lambda>") i v c8 r ((B<|bC "__name__").getD .none) j w
  refine⟨b,c.set K<|.ctab (o.qual++bC "<lambda>"),_,aH.upd (n:=Y) u x ⟨_,a1⟩,a.upd Z u x (x:= .ctab _) ⟨_,a1,?_,λd6 c7 m=> ?_⟩ ⟨_,a1⟩, .clo (c:=j) (cells:=r) (a.fresh<|fD _ (aK b5<|dx d2)) b6 ⟨_,_,gB _ O,O,O,O,O,O,O,O,O,O,O,O,O,b7⟩ a8,by rw [show c.set K (.ctab<|o.qual++bC "<lambda>")=c from KM a4];exact g⟩
  .rw [tK];exact ai1 _ _ z<|by simp [oN,nA]
  .rw [tK,Pt _ _ z] at m
   split at m
   .next e6 d=>
    (revert m;refine aL λa2=> ?_;subst a2)
    refine dt (λd7 S D T=> ?_)<|a6 d6 _ d;obtain rfl:=S
    exact⟨d7,O,D,Gz T λc d=>x _ _ (λd8=>D.1<|d8▸iZ u) d⟩
   .simp only [nA,qw] at m
    split at m
    ·(revert m;refine aL λa2=> ?_;subst a2);exact⟨j,O,b6,b7⟩
    .exact aU m
theorem Xa(b:e.heap.IsTupleIter j a7 a)(g:e.heap.IsTuple a7 f6)(h:f6[a]? =Q k)
 (i:∀l,l.IsTupleIter j a7 (a+1)->kC j e.heap l->g6 k {e with heap:=l}):an (az aq ap) f (sf<|.ref j) g6 a6 e:=by
 revert f a6 e j a7 a f6 k g6 b g h i
 apply U9
 generalize P8 _=j,Q8 _=a7,Q7 _=f,Q6 _=f6,Q5 _=a,Q4 _=e,Q3 _=k,Q2 _=a6,Q1 _=g6
 intro b g h i
 refine dt (λq d m c=> ?_)<|id b
 revert g;refine dt λr n s o=> ?_;refine ay (λt p=> ?_)<|o
 unfold sf
 refine aJ<|AD (name:=bC "__next__") b.typeIs Ag (AE Ag b.typeIs Op ?_<|Oo _)
 refine(?_:an _ _ (uu (.ref j) 0>>=_) _ _ e)
 refine aJ<|ux d c (x:= .ref a7) O ?_
 refine(?_:an _ _ (if(mA a7==mz)=X then _ else _) _ _ e)
 rw [bF (show ¬((mA a7==mz)=X) from jk)]
 refine(?_:an _ _ (uu (.ref j) 1>>=_) _ _ e)
 refine aJ<|ux d c (x:= .int a 0) O ?_
 refine(?_:an _ _ (Fu (.ref a7)>>=_) _ _ e)
 refine aJ<|FE n p ?_
 simp only [vW,h]
 refine aJ<|AH d c (by simp) (bP ⟨k,O,bP<|i _ ?_ (wF ..)⟩)
 exact⟨_,Fc _ d<|OE (Ak c _),(OD ..).trans m,by rw [Ak c];simp [nA]⟩
theorem WZ(d:f.handled=U)(b:e.heap.IsTupleIter j a7 a)(g:e.heap.IsTuple a7 f6)(h:f6[a]? =U)
 (i:∀k c,Ai j e.heap k->(∃l,k.get? c=Q l/\l.cls= .type "StopIteration")->a6 (.ref c) {e with heap:=k}):an (az aq ap) f (sf<|.ref j) g6 a6 e:=by
 revert f a6 e j a7 a f6 g6 d b g h i
 apply U8
 generalize P7 _=j,Q7 _=a7,Q6 _=f,Q5 _=f6,Q4 _=a,Q3 _=e,Q2 _=a6,Q1 _=g6
 intro d b g h i
 refine dt (λl m s n=> ?_)<|id b
 revert g;refine dt λt o u p=> ?_;refine ay (λv q=> ?_)<|p
 unfold sf
 refine aJ<|AD (name:=bC "__next__") b.typeIs Ag (AE Ag b.typeIs Op ?_<|Oo _)
 refine(?_:an _ _ (uu (.ref j) 0>>=_) _ _ e)
 refine aJ<|ux m n (x:= .ref a7) O ?_
 refine(?_:an _ _ (if(mA a7==mz)=X then _ else _) _ _ e)
 rw [bF (show ¬((mA a7==mz)=X) from jk)]
 refine(?_:an _ _ (uu (.ref j) 1>>=_) _ _ e)
 refine aJ<|ux m n (x:= .int a 0) O ?_
 refine(?_:an _ _ (Fu (.ref a7)>>=_) _ _ e)
 refine aJ<|FE o q ?_
 simp only [vW,h]
 refine aJ<|wX (aJ<|AH m n (by simp) ?_)
 refine(?_:an _ _ (Ay (.type "StopIteration") []>>=_) _ _ _)
 exact JZ d λw x c r=>i _ _ (((wF ..).extBut.push _).push _) ⟨_,gB _ r,c⟩
theorem Se(n:f.handled=U)(b c:ao)(o:c≠b)(g:eR aa):
 Draws aq ap f b [b,c] g.size (λd p=>g[d]? =Q p) (λd i=>i.IsTupleIter b c d/\i.IsTuple c g) where
 live:=λ_ _ a=>(by refine ac (λe q x=> ?_)<|a.1;exact⟨e,q⟩)
 frame:=λ_ _ _ a j=>⟨a.1.at λe h=>j b (by simp) e h,a.2.at λe h=>j c (by simp) e h⟩
 item:=λd k r s l a t=>by refine Xa a.1 a.2 (k:=g[d]) (by simp [l]) λu v m=> ?_;exact t _ u k.toks (by simp [l]) ⟨v,a.2.extBut m.extBut o⟩ m
 done:=λk r s a w=>WZ n a.1 a.2 (by simp) w
theorem WY [Mn E]{z:KeyKind aq ap E}{c:M (E×aa)}(q:f.handled=U)(b:e.heap.IsKeyIter j a7 a c.length d)
 (r:e.heap.DictAt z a7 c d) (s:c[a]? =U)
 (t:∀h g,Ai j e.heap h->(∃i,h.get? g=Q i/\i.cls= .type "StopIteration")->a6 (.ref g) {e with heap:=h}):an (az aq ap) f (sf<|.ref j) g6 a6 e:=by
 refine dt (λi k A l=> ?_)<|id b
 refine vr (λB m n D o K u L=> ?_)<|id r
 unfold sf
 refine aJ<|AD (name:=bC "__next__") b.typeIs Ot (AE Ot b.typeIs F.entry_dict_keyiterator_next ?_<|F.args_dict_keyiterator_next_1 _)
 refine aJ<|bP ?_
 refine aJ ?_
 refine aJ ?_
 first|refine aJ (Pi b.typeIs<|bP ?_)|refine wpAny_bind<|wpAny_typeNameOf_keyiter b.typeIs (wpAny_pure ?_)
 refine aJ<|wpAny_fieldsOf k l ?_
 have v:ay1 "dict_keyiterator"=ai:=by decide
 rw [v]
 refine(?_:an _ _ (if(mA a7==mz)=X then _ else _) _ _ e)
 rw [bF (show ¬((mA a7==mz)=X) from jk)]
 refine aJ<|bP ?_
 refine aJ<|wpAny_dictEntries n o ?_
 have p:m.size=c.length:=by rw [<-u.length];simp
 rw [bF (by rw [p];simp)]
 refine aJ<|bP ?_
 refine aJ<|wpAny_dictEpoch n o ?_
 rw [bF (by simp)]
 refine bP ?_
 have w:m.size<=a:=by rw [p];simpa using s
 dsimp only
 rw [bF (show ¬((a:H)<0) by exact λx=>aD (.p 1 (F+1) 0<|.p 1 0 F .z) (aG _) O x<|cj _),vW,Mi w]
 dsimp only
 refine aJ ?_
 first|refine aJ (Pi b.typeIs<|bP ?_)|refine wpAny_bind<|wpAny_typeNameOf_keyiter b.typeIs (wpAny_pure ?_)
 refine(?_:an _ _ (setField (.ref j) 0 .none>>=_) _ _ e)
 refine aJ<|AH k l (by simp) ?_
 refine(?_:an _ _ (Ay (.type "StopIteration") []>>=_) _ _ _)
 exact JZ q λP S g y=>t _ _ (((wF ..).extBut.push _).push _) ⟨_,gB _ y,g⟩
theorem Sd [Mn E]{t:KeyKind aq ap E}(q:f.handled=U)(d e:ao)(r:e≠d)(b:M (E×aa))(k:N):
 Draws aq ap f d [d,e] b.length (λc s=>∃h i,b[c]? =Q (h,i)/\t.is h s=X) (λc l=>l.IsKeyIter d e c b.length k/\l.DictAt t e b k) where
 live:=λ_ _ a=>(by refine ac (λg u L=> ?_)<|a.1;exact⟨g,u⟩)
 frame:=λ_ _ _ a m=>⟨a.1.at λg j=>m d (by simp) g j,a.2.at' λg j=>m e (by simp) g j⟩
 item:=λc n v w x a y=>by
  obtain⟨⟨h,i⟩,o⟩:∃z,b[c]? =Q z:=⟨b[c],by simp [x]⟩
  unfold sf;refine aJ<|W.kdk_special a.1 a.2 o λP A B D p=> ?_;exact bP<|y _ A n.toks ⟨h,i,o,B⟩ ⟨D,a.2.extBut p.extBut r⟩ p
 done:=λn v w a K=>WY q a.1 a.2 (by simp) K
abbrev jK(c:M ao)(d e:aT):Prop:=∀a b,a∉c->d.get? a=Q b->e.get? a=Q b
structure kx(a2:bR)(a8:ah)(h:ao)(a9:eg)(y:M R)(a3:ar)(b0:al)(o:N->aT->Prop):Prop where
 frame:∀c i v,o c i->(∀Y,i.get? h=Q Y->v.get? h=Q Y)->o c v
 ex:∀c i,o c i->∃Y,i.get? h=Q Y
 turn:∀(j:ar) (a4:M G) (x:al),h∈j.p->am j a4 x->gk a9 a4->cs (bh a3) (bh j) b0.heap x.heap a3 j-> ∃Z a1 a0,Walks aq ap a2 h Z [h] y.length a1 a0/\(a8=X->Draws aq ap a2.in1 h Z y.length a1 a0)/\h∈Z/\(∀a5∈Z,a5=h\/a5∉j.p)/\(∀c,o c x.heap->a0 c x.heap)/\(∀c i,a0 c i->o c i)/\ ∀c a6 v,c<y.length->a1 c a6->jK j.p x.heap v->∃a7,y[c]? =Q a7/\aR v j a6 a7
theorem Rv(h:∀i∈d9,S.heap.get? i=U)(j:aH b S b e):cs (bh b) (bh<|b.hide d9) S.heap e.heap b (b.hide d9):=
 ⟨λf g d a=>⟨d.1,λc=>by
  obtain c|c:=dQ.mp c
  .rw [h f c] at a;exact aU a
  .exact d.2 c⟩,λf g d a=>j.keep f g d.1 a,λ_ _ a=>a⟩
theorem uI(a:jK b.p i c0):cs (bh b) (bh b) i c0 b b:= cs.prv λc d e f=>a c d e f
theorem VL(o:f.handled=U)(p:a7≠j)
 (w:∀(c:ar) (i:M G) (g:al),am c i g->gk e1 i->cs (bh b) (bh c) e.heap g.heap b c->a7∉c.p/\∃h:M aa,g.heap.PlainList a7 h.toArray/\dN g.heap c h q):
 kx f X j e1 q b e λa k=>k.IsListIter j a7 a where
 frame:=λa k x d m=>d.at m
 ex:=λa k d=>(by(revert d;refine ac λy l T=> ?_);exact⟨y,l⟩)
 turn:=λc i g V z A B=>by
  refine aA (λD E=> ?_)<|w c i g z A B;refine ac (λh K r=> ?_)<|E;have l:h.toArray.size=q.length:=by rw [fv,r.length]
  refine⟨[j,a7],_,_,l▸ON (A:=f) o j a7 p h.toArray,λ_=>l▸Draws.list (A:=f.in1) o j a7 p h.toArray,by simp,?_,λa d=>⟨d,K.isList⟩,λa k d=>d.1,λa Y x L s m=> ?_⟩
  .intro Z t;simp only [bO,jQ,kp] at t
   obtain rfl|rfl:=t
   .exact .inl O
   .exact .inr D
  .obtain⟨n,u⟩:∃n,q[a]? =Q n:=⟨q[a],by simp [L]⟩
   refine ac (λa0 v P=> ?_)<|(r.car<|uI m).get u;rw [pm] at s;rw [s] at v;(revert v;refine aL λS=> ?_;subst S);exact⟨n,u,P⟩
theorem VN(m:f.handled=U)(n:a7≠j)(g:bh b a7)(o:e.heap.IsTuple a7 K.toArray)(w:dN e.heap b K q):
 kx f X j e1 q b e λa h=>h.IsTupleIter j a7 a where
 frame:=λa h x c i=>c.at i
 ex:=λa h c=>(by(revert c;refine ac λy d z=> ?_);exact⟨y,d⟩)
 turn:=λp A r T V Y k=>by
  refine ac (λZ B z=> ?_)<|id o;have D:a7∉p.p:=(k.p _ _ g B).2;have E:r.heap.IsTuple a7 K.toArray:=o.at λA d=>k.k _ _ g d;have s:dN r.heap p K q:=w.car k;have d:K.toArray.size=q.length:=by rw [fv,s.length]
  refine⟨[j,a7],_,_,d▸Walks.tuple (A:=f) m j a7 n K.toArray,λ_=>d▸Se (f:=f.in1) m j a7 n K.toArray,by simp,?_,λa c=>⟨c,E⟩,λa h c=>c.1,λa a0 x L t i=> ?_⟩
  .intro a1 u;simp only [bO,jQ,kp] at u
   obtain rfl|rfl:=u
   .exact .inl O
   .exact .inr D
  .obtain⟨l,g⟩:∃l,q[a]? =Q l:=⟨q[a],by simp [L]⟩
   refine ac (λa2 v P=> ?_)<|(s.car<|uI i).get g;rw [pm] at t;rw [t] at v;(revert v;refine aL λS=> ?_;subst S);exact⟨l,g,P⟩
theorem Ll(c:a<(g.cps.toList.map λd=>R.str ⟨#[d]⟩).length)(b:g.cps[a]? =Q d):(g.cps.toList.map λd=>R.str ⟨#[d]⟩)[a]? =Q (.str ⟨#[d]⟩):=by simp [gj,b]
theorem VJ(l:f.handled=U):kx f X j U (g.cps.toList.map λd=> .str ⟨#[d]⟩) b e λc h=>h.IsStrIter j "str_ascii_iterator" g c1 c where
 frame:=λc h n a m=>(by(revert a;refine ac λk o p=> ?_);exact⟨k,m k o,p⟩)
 ex:=λc h a=>(by(revert a;refine ac λq i w=> ?_);exact⟨q,i⟩)
 turn:=λx k y z A B D=>by
  have i:g.cps.size=(g.cps.toList.map λd=>R.str ⟨#[d]⟩).length:=by simp
  refine⟨[j],_,_,i▸Walks.strAscii (A:=f) l j g c1,λ_=>i▸Draws.strAscii (A:=f.in1) l j g c1,by simp,λE r=> .inl<|by simpa using r,λc a=>a,λc h a=>a,λc K n s t m=> ?_⟩;revert t;refine dw λd L u v=> ?_;obtain rfl:=v;exact⟨_,Ll s u,.str _ _⟩
theorem VO(l:f.handled=U):kx f X j U (g.cps.toList.map λd=> .str ⟨#[d]⟩) b e λc h=>h.IsStrIter j "str_iterator" g c1 c where
 frame:=λc h n a m=>(by(revert a;refine ac λk o p=> ?_);exact⟨k,m k o,p⟩)
 ex:=λc h a=>(by(revert a;refine ac λq i w=> ?_);exact⟨q,i⟩)
 turn:=λx k y z A B D=>by
  have i:g.cps.size=(g.cps.toList.map λd=>R.str ⟨#[d]⟩).length:=by simp
  refine⟨[j],_,_,i▸Walks.strWide (A:=f) l j g c1,λ_=>i▸Draws.strWide (A:=f.in1) l j g c1,by simp,λE r=> .inl<|by simpa using r,λc a=>a,λc h a=>a,λc K n s t m=> ?_⟩;revert t;refine dw λd L u v=> ?_;obtain rfl:=v;exact⟨_,Ll s u,.str _ _⟩
theorem VM(k:f.handled=U):kx f ai j U ((dR a).map λ(h:N)=> .int<|a5+h) b e λc g=>IsRangeIter g j (a5+(c:N)*1) ((a:H) - (c:N)) 1 where
 frame:=λc g l d i=>i _ d
 ex:=λc g d=>⟨_,d⟩
 turn:=λr s t u v w x=>by
  have m:((dR a).map λ(h:N)=>R.int<|a5+h).length=a:=by simp
  simp only [m];refine⟨[j],_,_,Walks.range (A:=f) k j a5 1 a,(λg=>by exact cY g),by simp,λy n=> .inl<|by simpa using n,λc d=>d,λc g d=>d,λc z l o p i=> ?_⟩;revert p;refine ay λA q=> ?_;obtain rfl:=q;refine⟨.int<|a5+c,?_,by rw [show a5+(c:H)*1=a5+c by exact kw (aw 0 (F+(tT W 1)) (F+W) .z (aP _ _) O)<|aw 0 (F+W) (F+(tT W 1)) .z (aP _ _) O];exact .int _ _⟩;rw [gj,tZ o];rfl
theorem VK(s:f.handled=U)(t:a7≠j)(B:b.l[a]? =Q (Q a7)):
 kx f X j (Q (a,.dict d D)) (D.map λn=> .str n.1) b e λc g=>g.IsKeyIter j a7 c D.length d where
 frame:=λc g E i u=>i.at u
 ex:=λc g i=>(by(revert i;refine ac λl o a5=> ?_);exact⟨l,o⟩)
 turn:=λv a6 K w x L P=>by
  have y:=P.m _ _ B;refine ac (λh S z=> ?_)<|x.mo a a7 _ y (L _ O);have p:h.length=D.length:=z.length;have o:(D.map λn=>R.str n.1).length=h.length:=by simp [p]
  simp only [o];have w:a7∉v.p:=λm=>(x.prv a7 m).2.1<|iZ y;refine⟨[j,a7],_,_,Walks.dictKeys (A:=f) (knd:=fB aq ap) s j a7 t h d,λ_=>Sd (f:=f.in1) (t:=fB aq ap) s j a7 t h d,by simp,?_,(λc i=>⟨by rw [p];exact i,S⟩),(λc g i=>by have:=i.1;rw [p] at this;exact this),λc a8 E a9 T u=> ?_⟩
  .intro q A;simp only [bO,jQ,kp] at A
   obtain rfl|rfl:=A
   .exact .inl O
   .exact .inr w
  .revert T;refine dw λk r V Y=> ?_
   refine ay (λb0 Z=> ?_)<|Value.isStrOf_shape Y;obtain rfl:=Z;refine⟨.str k,?_,.str _ _⟩;rw [gj]
   have:∀{h:M (I×aa)} {D:M (I×R)} {c:N} {k:I} {r:aa},iq K.heap v h D->h[c]? =Q (k,r)->∃l,D[c]? =Q (k,l):=by
    intro h D c k r m
    induction c generalizing h D with
    |zero=>intro g;cases m with
     |nil=>simp at g
     |cons a0 q=>(revert g;refine rq λa1 a2=> ?_;subst a1;subst a2);exact⟨_,O⟩
    |succ c a3=>intro g;cases m with
     |nil=>simp at g
     |cons a0 q=>exact a3 q<|by simpa using g
   refine ay (λl a4=> ?_)<|this z V;rw [a4];rfl
structure mE(a5:bR)(b5:aC)(I:ao)(x:M ao)(a7:eg)(a6:M R)(a3:ar)(a8:al)(y:N->aT->Prop):Prop where
 frame:∀h Y i,y h Y->(∀o∈x,∀a4,Y.get? o=Q a4->i.get? o=Q a4)->y h i
 ex:∀h Y,y h Y->∀o∈x,∃a4,Y.get? o=Q a4
 turn:∀(j:ar) (Z:M G) (c:al) (h:N) (v:ag aa->al->Prop),(∀o∈x,o∈j.p)->am j Z c->gk a7 Z->cs (bh a3) (bh j) a8.heap c.heap a3 j->y h c.heap->h<=a6.length->
  (∀a0 i a1 a9,a6[h]? =Q a9->aR i j a0 a9->y (h+1) i->jK x c.heap i->0<a1->v (Q a0) {c with heap:=i,toks:=a1})->
  (∀i a1,h=a6.length->jK x c.heap i->0<a1->v U {c with heap:=i,toks:=a1})->
  an (az aq ap) a5 (Az<|.ref I) (λb6 b0=>match b6 with
   |some a0=>an (az aq ap) a5 (wR b5 (.ref I) a0) (λ_ b7=>v (Q a0) b7) aB b0
   |none=>v U b0) aB c
 self:∀(j:ar) (Z:M G) (c:al) (h:N) (v:aa->al->Prop),(∀o∈x,o∈j.p)->am j Z c->gk a7 Z->cs (bh a3) (bh j) a8.heap c.heap a3 j->y h c.heap->v (.ref I) c->an (az aq ap) a5 (kI<|.ref I) v aB c
theorem TD(a:mh ai v=X)(b c:aa):wR v b c=dj ():=by cases v<;>first|rfl|(exact cY a)
theorem am3(k:kx f n j e1 q b e j5)(T:mh ai v=X):
 mE f v j [j] e1 q b e j5 where
 frame:=λa t d c g=>k.frame a t d c λu i=>g j (by simp) u i
 ex:=λa t c w l=>by rw [bU] at l;subst l;exact k.ex a t c
 turn:=λm x h a K o p y z c V Y Z=>by
  have a0:j∈m.p:=o j (by simp);refine vu (λa1 a2 a3 r a4 a5 a6 s L P=> ?_)<|k.turn m x h a0 p y z;refine dC p.tk ?_;obtain S|a7:=NI a q.length
  .refine r.item a h _ _ S (s a c) λA d B a8 a9 g D=> ?_;refine(?_:an (az aq ap) f (wR v (.ref j) A) _ aB _);rw [TD T];refine ac (λb0 b1 b2=> ?_)<|P a A d S a8 λw u l i=>g w u (λE=>l<|o w E) i;exact bP<|Y A d B b0 b1 b2 (L _ _ a9) g D
  .have i:a=q.length:=aZ V a7;subst i;exact r.done h _ _ (s _ c) λd B g D=>Z d B O g D
 self:=λm x h a K o p y z c E=>by refine vu (λa1 a2 a3 r a4 a5 a6 s L P=> ?_)<|k.turn m x h (o j<|by simp) p y z;exact r.self a h K _ (s a c) E
theorem LG{K:M ao}{l:M ao}{L:N->eR aa->Prop}{w:N->aT->Prop}{a1:N->ao->aT->Prop}{r:ag aa->al->Prop}
 (s:WalksT aq ap f j d9 K a L w a1) (x:∀h∈K,h∈l) (P:am b c e) (S:w d e.heap) (a2:a=q.length) (a3:d<=q.length) (a4:mh X v=X)
 (a5:∀y,jK l e.heap y->w (d+1) y->j5 (d+1) y) (a6:∀n g,d<q.length->L d n->jK l e.heap g->∃z,q[d]? =Q (.tup z)/\dN g b n.toList z)
 (a7:∀o g i T,q[d]? =Q T->aR g b o T->j5 (d+1) g->jK l e.heap g->0<i->r (Q o) {e with heap:=g,toks:=i})
 (a8:∀g i,d=q.length->jK l e.heap g->0<i->r U {e with heap:=g,toks:=i}):
 an (az aq ap) f (Az<|.ref j) (λa9 V=>match a9 with
  |some o=>an (az aq ap) f (wR v (.ref j) o) (λ_ b0=>r (Q o) b0) aB V
  |none=>r U V) aB e:=by
 subst a2
 refine dC P.tk ?_
 obtain Y|b1:=NI d q.length
 .refine s.item d e _ _ Y S λA n g i b2 b3 b4 Z B D=> ?_
  cases v with
  |Tuple b5 b6 b7=>
   refine s.go b5 b6 b7 d A _ _ _ Z λt b8 a0=> ?_
   have b9:=s.apart _ _ _ Z
   have E:jK l e.heap t:=λh m u k=>a0 h m (λp=>u<|x h p)<|B h m (λp=>u<|x h p) k
   refine ac (λz c0 c1=> ?_)<|a6 n t Y b2 E
   refine a7 (.ref A) t i _ c0 (.tup (vs:=n.toList) (P.fresh<|fD _ b3) ?_ c1) (a5 t E b8) E D
   exact b4.at λm k=>a0 A m b9 k
  |_=>exact cY a4
 .have k:d=q.length:=aZ a3 b1
  subst k
  exact s.done e _ _ S λg i B D=>a8 g i O (λh m u k=>B h m (λp=>u<|x h p) k) D
theorem Sn(b:q[a]? =Q h):(dW q)[a]? =Q (.tup [.int (a:N),h]):=by unfold dW;rw [List.getElem?_mapIdx,b];rfl
theorem GU(a:M R):(dW a).length=a.length:=by unfold dW;simp
theorem am2(n:kx f X j e1 q b e j5)(t:a7≠j)(B:mh X v=X):
 mE f v a7 [a7,j] e1 (dW q) b e (λc d=>(∃h,IsEnum d a7 j c h)/\j5 c d) where
 frame:=λc d o g k=>⟨(by refine ay (λh a=> ?_)<|g.1;exact⟨h,k a7 (by simp) _ a⟩),n.frame c d o g.2 λp a7=>k j (by simp) p a7⟩
 ex:=λc d g l i=>by
  simp only [bO,jQ,kp] at i;obtain rfl|rfl:=i
  .refine ay (λh a=> ?_)<|g.1;exact⟨_,a⟩
  .exact n.ex c d g.2
 turn:=λu w x c D m r y z g E K L=>by
  refine vu (λP a8 a9 b0 S T V Y Z a0=> ?_)<|n.turn u w x (m j<|by simp) r y z
  have a1:a7∉P:=λa=>by
   obtain a|a:=V a7 a
   .exact t a
   .exact a<|m a7 (by simp)
  refine LG (j5:=λc d=>(∃h,IsEnum d a7 j c h)/\j5 c d) (WalksT.enumerateD (S O) a7 t a1 T) (λl i=>i) r ⟨g.1,Y c g.2⟩ (GU q).symm E B (λd _ a=>⟨a.1,Z _ _ a.2⟩) (λb1 o A s k=> ?_) K L;revert s;refine dw λb2 a2 s a3=> ?_;obtain rfl:=a3;rw [GU] at A;refine ac (λb3 a4 a5=> ?_)<|a0 c a2 o A s λl p i a7=>k l p (λa=>i<|m l a) a7;exact⟨_,Sn a4,.cons (.int _ _)<|.cons a5 .nil⟩
 self:=λu w x c D m r y z g a=>by refine ay (λh a6=> ?_)<|g.1;exact Pe a6 a
theorem am5(b:q[a]? =Q h)(c:d5[a]? =Q L):(jg q d5)[a]? =Q (.tup [h,L]):=by unfold jg;rw [List.getElem?_zipWith,b,c]
theorem am4{h:ao}{i:ao}{k:ao}{o:ao}{p:ao}(b0:f.handled=U)(b1:ZipApart j a7 h i k o p)(b2:bh b o)(b3:bh b p)
 (b4:e.heap.PlainList o K.toArray) (b5:e.heap.PlainList p h7.toArray) (b6:dN e.heap b K q) (b7:dN e.heap b h7 d5) (b8:mh X v=X):
 mE f v j [j,h,i,k,a7] U (jg q d5) b e (λc a=>IsZip a j a7 h .none/\Aj a a7 (.ref i) (.ref k)/\(∃q d5,Aj a h q d5)/\a.IsListIter i o c/\a.IsListIter k p c) where
 frame:=λc a T l m=>by revert l;refine vq λr s B t u=> ?_;refine tc (λq d5 w=> ?_)<|B;exact⟨m j (by simp) _ r,m a7 (by simp) _ s,⟨q,d5,m h (by simp) _ w⟩,t.at λn d=>m i (by simp) n d,u.at λn d=>m k (by simp) n d⟩
 ex:=λc a l b9 x=>by
  revert l;refine vq λr s B c0 D=> ?_;refine tc (λq d5 w=> ?_)<|B;refine ac (λE t E=> ?_)<|c0;refine ac (λE u E=> ?_)<|D;simp only [bO,jQ,kp] at x;obtain rfl|rfl|rfl|rfl|rfl:=x
  .exact⟨_,r⟩
  .exact⟨_,w⟩
  .exact⟨_,t⟩
  .exact⟨_,u⟩
  .exact⟨_,s⟩
 turn:=λV n Y c c1 Z H c2 y l c3 c4 c5=>by
  revert l;refine vq λr s w t u=> ?_;have L:=b6.car y;have P:=b7.car y;have c6:=b4.at λn d=>y.k _ _ b2 d;have c7:=b5.at λn d=>y.k _ _ b3 d;have a1:dI K.toArray.size h7.toArray.size=(jg q d5).length:=by unfold jg;simp [L.length,P.length]
  refine LG (j5:=λc a=>IsZip a j a7 h .none/\Aj a a7 (.ref i) (.ref k)/\(∃q d5,Aj a h q d5)/\a.IsListIter i o c/\a.IsListIter k p c) (WalksT.zip2 b0 j a7 h i k o p b1 K.toArray h7.toArray) (λb9 x=>by simp at x ⊢;obtain a|a|a|a:=x<;>simp [a]) H ⟨r,s,w,t,u,c6.isList,c7.isList⟩ a1 c3 b8 (λa _ g=>⟨g.1,g.2.1,g.2.2.1,g.2.2.2.1,g.2.2.2.2.1⟩) (λd3 T z c8 m=> ?_) c4 c5;revert c8;refine dd λA d4 a2 a3 D=> ?_;obtain rfl:=D;rw [<-a1] at z;obtain⟨d6,a4⟩:∃A,q[c]? =Q A:=⟨q[c]'(by rw [<-L.length];simp at z;exact af 0 (C+1) J (.p 1 (C+1) aj<|.p 1 aj J .z) (bk _ _ _) O z<|sa _ _),by simp⟩
  obtain⟨d7,a5⟩:∃A,d5[c]? =Q A:=⟨d5[c]'(by rw [<-P.length];simp at z;exact af 0 (C+1) J (.p 1 (C+1) aj<|.p 1 aj J .z) (bk _ _ _) O z<|wt _ _),by simp⟩
  have a6:jK V.p Y.heap T:=λd5 c9 d0 d=>m d5 c9 (λg=>d0<|Z d5 g) d;refine ac (λd8 a8 d1=> ?_)<|(L.car<|uI a6).get a4;refine ac (λd9 a9 d2=> ?_)<|(P.car<|uI a6).get a5;rw [pm] at a2 a3;rw [a2] at a8;(revert a8;refine aL λS=> ?_;subst S);rw [a3] at a9;(revert a9;refine aL λS=> ?_;subst S);exact⟨_,am5 a4 a5,.cons d1<|.cons d2 .nil⟩
 self:=λV n Y c c1 Z H c2 y l g=>Pf l.1 g
def wa(g:bR)(h:ah)(i:ar)(a:al)(j:M G)(k:aa)(c:eg)(l:M R):Prop:= ∃(b:iR) (d:N->aT->Prop),b.isFreed=ai/\gk c j/\(∀e:aT,e.get? a.heap.objs.size=Q b->d 0 e)/\ (∀(m:bR) (n:aa->al->Prop) (f:aa->al->Prop),f (.ref a.heap.objs.size) {a with heap:=a.heap.push b}->an (az aq ap) m (kI k) f n a)/\kx g h a.heap.objs.size c l i a d
theorem IA(k:f.handled=U)(g:∃a,e.heap.IsList j a)(l:gk e1 c)
 (m:∀(d:ar) (c:M G) (h:al),am d c h->gk e1 c->cs (bh b) (bh d) e.heap h.heap b d->j∉d.p/\∃a:M aa,h.heap.PlainList j a.toArray/\dN h.heap d a q):
 wa f X b e c (.ref j) e1 q:=by
 revert g;refine ay λa g=> ?_
 refine⟨{cls:= .type "list_iterator",data:= .fields #[.ref j,.int 0 0]},_,O,l,λp i=> ?_,λr s t n=>AG g n,VL k ?_ m⟩
 .exact⟨_,i,O,O⟩
 ·(revert g;refine ac λo i o=> ?_);exact ik<|jt i
def xQ:R->Prop
 | .rng a b=> -4611686018427387904<=a/\a<4611686018427387904/\ -4611686018427387904<=b/\b<4611686018427387904
 |_=>kc
theorem TZ{a:Prop}(b:Im h a):xQ h/\a:=by cases h<;>first|exact⟨eG,b⟩|exact b
theorem Ld(b:c[a]? =Q b9):gk (Q (a,b9)) c:=λf d=>by(revert d;refine aL λe=> ?_;subst e);exact b
theorem Ua{e:M R×eg}(f:Io a b9=Q e):(∃b,b9= .list b/\e=(b,Q (a,.list b)))\/∃d c,b9= .dict d c/\e=(c.map λh=> .str h.1,Q (a,.dict d c)):=by
 cases b9 with
 |list b=>(revert f;refine aL λg=> ?_;subst g);exact .inl ⟨b,O,O⟩
 |dict d c=>(revert f;refine aL λg=> ?_;subst g);exact .inr ⟨d,c,O,O⟩
 |_=>exact aU f
theorem Cc(l:f.handled=U)(z:∀p,bM.get? p=U->(p==cR)=ai)(r:am b c e)(A:aR e.heap b k h)(B:xQ h)(a:xR c h=Q (q,e1)):
 wa f (Bz h) b e c k e1 q:=by
 revert b c e f k h q e1 l z r A B a
 apply U8
 generalize P7 _=f,Q7 _=e,Q6 _=k,Q5 _=h,Q4 _=q,Q3 _=c,Q2 _=b,Q1 _=e1
 intro l z r A B a
 cases A with
 | @lst m D _ s g d=>
  (revert a;refine rq λi j=> ?_;subst i;subst j)
  refine IA l ⟨_,g.isList⟩ cW λT c V b1 b2 n=> ?_
  refine ay (λb3 t=> ?_)<|id g
  exact⟨(n.p _ _ s t).2,D,g.at λc a=>n.k _ _ s a,d.car n⟩
 | @tup m D _ s g d=>
  (revert a;refine rq λi j=> ?_;subst i;subst j)
  refine ac (λb4 t E=> ?_)<|id g
  exact⟨{cls:= .type "tuple_iterator",data:= .fields #[.ref m,.int 0 0]},_,O,cW,λu a=>⟨_,a,O,O⟩,λv w x d=>wpAny_pyIter_tuple g d,VN l (ik<|jt t) s g d⟩
 |str K g=>
  (revert a;refine rq λi j=> ?_;subst i;subst j)
  cases L:K.cps.all (· <128) with
  |true=>exact⟨{cls:= .type "str_ascii_iterator",data:= .fields #[.str K g,.int 0 0]},_,O,cW,λu a=>⟨_,a,O,O⟩,λv w x d=>wpAny_pyIter_ascii L d,VJ l⟩
  |false=>exact⟨{cls:= .type "str_iterator",data:= .fields #[.str K g,.int 0 0]},_,O,cW,λu a=>⟨_,a,O,O⟩,λv w x d=>wpAny_pyIter_wide L d,VO l⟩
 | @rng b5 p Y g b6 k s d=>
  (revert a;refine rq λi j=> ?_;subst i;subst j)
  revert B;refine ta λZ a0 a1 a2=> ?_
  refine⟨{cls:= .type "range_iterator",data:= .fields #[nA p,nA (EU p Y 1),nA 1]},_,O,cW,λu a=> ?_,λv w x a3=>wpAny_pyIter_range d (small_one Z a0 a1 a2) a3,VM l⟩
  rw [rangeSize_one] at a
  refine(?_:u.get? e.heap.objs.size=_)
  rw [a];simp [nA]
  split<;>(first|exact Md _ _ ‹_›|exact Mg _ _ ‹_›)
 | @loc a4 m o=>
  refine ac (λb7 d a=> ?_)<|eY a
  obtain⟨b8,rfl,a⟩|⟨a5,b9,rfl,a⟩:=Ua a
  ·(revert a;refine rq λi j=> ?_;subst i;subst j)
   refine ac (λD y P=> ?_)<|r.mo _ _ _ o d
   refine IA l ⟨_,y.isList⟩ (Ld d) λT c0 V S a6 n=> ?_
   refine ac (λa7 a8 a9=> ?_)<|S.mo a4 m _ (n.m _ _ o) (a6 _ O)
   exact⟨λd=>(S.prv m d).2.1<|iZ (n.m _ _ o),a7,a8,a9⟩
  ·(revert a;refine rq λi j=> ?_;subst i;subst j)
   refine ac (λb0 y P=> ?_)<|r.mo _ _ _ o d
   refine dw (λE E t E=> ?_)<|id y
   refine⟨{cls:= .type "dict_keyiterator",data:= .fields #[.ref m,.int 0 0,.int b0.length 0,.int a5 0]},_,O,Ld d,λu a=> ?_,λv w x d=>wpAny_pyIter_dict (z _<|r.out _ _ o) y d,VK l (ik<|jt t) o⟩
   rw [P.length] at a
   exact⟨_,a,O,O⟩
 |_=>exact aU a
def uy(k:bR)(l:ar)(a:al)(m:M G)(d:eg)(n:ah)(o:M R)(p:aa)(q:al):Prop:= ∃e f g c h,p= .ref e/\q={a with heap:=c,toks:=h}/\(∀i,mh n i=X->mE k i e f d o l a g)/\(∀b∈f,a.heap.get? b=U)/\ (∀b j,a.heap.get? b=Q j->c.get? b=Q j)/\g 0 c/\gk d m/\0<h
theorem YA(h:am b c e)(i:wa f n b e c k e1 q)(j:∀a d,uy f b e c e1 ai q a d->a6 a d):
 an (az aq ap) f (kI k) a6 aB e:=by
 revert i;refine qZ λu l m o p r s=> ?_
 refine r _ _ _<|j _ _ ⟨_,[e.heap.objs.size],l,_,e.toks,O,O,λv t=>am3 s t,λw g=> ?_,hp _ _,p _<|gB _ m,o,h.tk⟩
 rw [bU] at g;subst g;exact fD _<|ba _
theorem Kb(m:am b c e)(n:wa f X b e c k e1 q)(o:∀g h,uy f b e c e1 X (dW q) g h->a6 g h):
 an (az aq ap) f (dF (.type "enumerate") [k]) (λi p=>an (az aq ap) f (kI i) a6 aB p) aB e:=by
 revert n;refine qZ λa D r s t u v=> ?_
 refine PySem.callType_newIn F.called_enumerate (by decide) (F.typeCall_enumerate_1 _) (F.newCall_enumerate_1 _) (λw=>F.args_object_init_2 w _) F.entry_enumerate_new (Ss k a) ⟨u,?_⟩
 have j:(e.heap.push a).objs.size=e.heap.objs.size+1:=Fd ..
 refine(?_:_/\_)
 have d:IsEnum ((e.heap.push a).push {cls:= .type "enumerate",data:= .fields #[.none,.bool ai,.ref e.heap.objs.size,nA 0,.none,.none]}) (e.heap.push a).objs.size e.heap.objs.size ((0:N):H) .none:=gB _ O
 have x:e.heap.get? (e.heap.push a).objs.size=U:=fD _<|by rw [j];exact nj _
 have y:e.heap.get? e.heap.objs.size=U:=fD _<|ba _
 refine⟨⟨_,d,O⟩,Pe d<|o _ _ ⟨_,[(e.heap.push a).objs.size,e.heap.objs.size],_,_,e.toks,O,O,λE z=>am2 v (by rw [j];exact wv<|lA _) z,λA l=> ?_,λA i B=>iQ _<|iQ _ B,⟨⟨_,d⟩,t _<|iQ _ (gB _ r)⟩,s,m.tk⟩⟩
 simp only [bO,jQ,kp] at l
 obtain rfl|rfl:=l
 .exact x
 .exact y
theorem YB(o:f.handled=U)(p:am b c e)(r:aR e.heap b k (.lst q))(s:aR e.heap b Y (.lst d5))(t:∀j l,uy f b e c U X (jg q d5) j l->a6 j l):
 an (az aq ap) f (dF (.type "zip") [k,Y]) (λu v=>an (az aq ap) f (kI u) a6 aB v) aB e:=by
 refine gb (λw a1 a x d y=> ?_)<|r.inv;obtain rfl:=a
 refine gb (λz a2 a A g B=> ?_)<|s.inv;obtain rfl:=a
 .
   refine call_zip_2 d.isList g.isList λD m E K L P a3 S=>Pf m<|t _ _ ⟨_,_,_,D,e.toks,O,O,λa4 T=>am4 o ?_ x A d g y B T,?_,S,⟨m,E,⟨_,_,K⟩,L,P⟩,cW,p.tk⟩
   ·(revert d;refine ay λV Z=> ?_);(revert g;refine ay λV a0=> ?_)
    have h: @LT.lt N _ w e.heap.objs.size:=jt Z
    have i: @LT.lt N _ z e.heap.objs.size:=jt a0
    constructor<;>(show @Ne N _ _)<;>(first|exact cp (.f 1 (C+2) (C+4) .z) (bj _) O|exact cp (.f 1 (C+3) (C+4) .z) (bj _) O|exact cp (.f 1 C (C+4) .z) (bj _) O|exact cp (.f 1 (C+1) (C+4) .z) (bj _) O|exact cp (.f 1 (C+2) (C+3) .z) (bj _) O|exact cp (.q 1 (C+2) C .z) (bj _) O|exact cp (.q 1 (C+2) (C+1) .z) (bj _) O|exact cp (.q 1 (C+3) C .z) (bj _) O|exact cp (.q 1 (C+3) (C+1) .z) (bj _) O|exact cp (.f 1 C (C+1) .z) (bj _) O|exact cp (.p 1 (C+1) J<|.f 1 C (J+4) .z) (aN _ _) O h|exact cp (.p 1 (C+1) J<|.f 1 C (J+3) .z) (aN _ _) O h|exact ik ‹_›|exact cp (.p 1 (C+1) J<|.f 1 C (J+1) .z) (aN _ _) O h|exact cp (.p 1 (C+1) J<|.f 1 C (J+4) .z) (aN _ _) O i|exact cp (.p 1 (C+1) J<|.f 1 C (J+3) .z) (aN _ _) O i|exact cp (.p 1 (C+1) J<|.f 1 C (J+1) .z) (aN _ _) O i)
   .intro a5 n;simp only [bO,jQ,kp] at n
    refine fD _ ?_
    obtain rfl|rfl|rfl|rfl|rfl:=n<;>(first|exact dS _ _|exact ba _)
theorem xh(a:bi y i b k (.blt g7)):k=g7.val:=a.inv
theorem Ie(a:Ic c4=Q g7):c4=Q (.blt g7):=by refine ac (λb c a=> ?_)<|eY a;obtain rfl:=c;cases b<;>first|(cases a;rfl)|exact aU a
theorem TR(a:kU .enumerate j7=X):j7=Q .enumerate:=by
 cases j7 with
 |none=>exact cY a
 |some j7=>cases j7<;>first|rfl|exact cY a
theorem TS(a:kU .zip j7=X):j7=Q .zip:=by
 cases j7 with
 |none=>exact cY a
 |some j7=>cases j7<;>first|rfl|exact cY a
theorem al8{c d}(a:DM j7 c d= .enum v):c=[v]/\d=[]/\j7=Q .enumerate:=by
 cases d with
 |cons _ _=>cases a
 |nil=>cases c with
  |nil=>cases a
  |cons f e=>cases e with
   |nil=>
    have a:(bif kU .enumerate j7 then iu.enum f else .plain)= .enum v:=a
    cases b:kU .enumerate j7<;>rw [b] at a
    .cases a
    .cases a;exact⟨O,O,TR b⟩
   |cons g e=>cases e with
    |cons _ _=>cases a
    |nil=>
     have a:(bif kU .zip j7 then iu.zip f g else .plain)= .enum v:=a
     cases b:kU .zip j7<;>rw [b] at a<;>cases a
theorem al9{c d}(a:DM j7 c d= .zip v c5):c=[v,c5]/\d=[]/\j7=Q .zip:=by
 cases d with
 |cons _ _=>cases a
 |nil=>cases c with
  |nil=>cases a
  |cons f e=>cases e with
   |nil=>
    have a:(bif kU .enumerate j7 then iu.enum f else .plain)= .zip v c5:=a
    cases b:kU .enumerate j7<;>rw [b] at a<;>cases a
   |cons g e=>cases e with
    |cons _ _=>cases a
    |nil=>
     have a:(bif kU .zip j7 then iu.zip f g else .plain)= .zip v c5:=a
     cases b:kU .zip j7<;>rw [b] at a
     .cases a
     .cases a;exact⟨O,O,TS b⟩
theorem LU(g:tH o c v≠ .plain):∃a b d e f,v= .Call (.Name a b) d e f:=by
 cases v with
 |Call a d e f=>cases a with
  |Name a b=>exact⟨a,b,d,e,f,O⟩
  |_=>exact bD O g
 |_=>exact bD O g
theorem LV(e:tH o c v= .enum c5):∃a b d,v= .Call (.Name a b) [c5] [] d/\mO gl o c a=Q (.blt .enumerate):=by obtain⟨a,b,j,k,d,rfl⟩:=LU (by rw [e] at ⊢;intro f;cases f);refine dH (λg h i=> ?_)<|al8 e;obtain rfl:=g;obtain rfl:=h;exact⟨a,b,d,O,Ie i⟩
theorem am0(e:tH o c v= .zip c5 i7):∃a b d,v= .Call (.Name a b) [c5,i7] [] d/\mO gl o c a=Q (.blt .zip):=by obtain⟨a,b,j,k,d,rfl⟩:=LU (by rw [e] at ⊢;intro f;cases f);refine dH (λg h i=> ?_)<|al9 e;obtain rfl:=g;obtain rfl:=h;exact⟨a,b,d,O,Ie i⟩
theorem CX(V:ht gl)(Y:∀Z,bM.get? Z=U->(Z==cR)=ai)(y:ej n a d u.E)(i:br a d f)(D:am b c e)(r:bp f n b p o)(g:iY u v o c l2)(E:∀l s m j t z A b7,aH b e m j->am m t j->bp f n m p o->l2 z A b7 t->uy f m j t A b7 z l s->a6 l s):
 an (az aq ap) f (cQ v p) (λq j=>an (az aq ap) f (kI q) a6 aB j) aB e:=by
 revert b c e f p o a d u n v l2 a6 V Y y i D r g E
 apply U13
 generalize P12 _=f,Q12 _=n,Q11 _=p,Q10 _=v,Q9 _=a,Q8 _=d,Q7 _=e,Q6 _=a6,Q5 _=c,Q4 _=b,Q3 _=o,Q2 _=l2,Q1 _=u
 intro V Y y i D r g E
 unfold iY at g
 cases K:tH o c v with
 |plain=>
  rw [K] at g
  refine aA (λd7 g=> ?_)<|cz g
  refine ez y i D r g λB j m t q w x c3 L a0=> ?_
  refine aA (λh P=> ?_)<|TZ a0
  refine ac (λa1 a2 S=> ?_)<|cF P;obtain⟨z,A⟩:=a1
  exact YA x (Cc i.hh Y x L h a2) λl s k=>E l s m j t z A ai w x c3 S k
 |enum q=>
  rw [K] at g
  refine iC (λc4 c5 k a3 a4=> ?_)<|LV K;obtain rfl:=a3
  refine aA (λh P=> ?_)<|cz g
  rw [sy (by intros;simp)] at ⊢
  refine aJ<|bQ (CY V D r a4 (s:=λB a5=>B= .blt .enumerate/\a5=c) ⟨O,O⟩) λc6 j c7=> ?_
  obtain⟨m,t,c8,w,x,L,a7,a8⟩:=c7
  subst a7 a8
  rw [xh L] at ⊢
  refine pc (c:=nu k<|nw [] p) (lb<|by simp [h]) O<|pg (lb<|by simp [h]) O ?_
  refine oF (ez y i x (r.ext w) P λB s b8 b9 q a9 T b0 b1 a0=>Ac<|wV ⟨.inr<|.inl ⟨_,O⟩,?_⟩)<|rl h
  refine aA (λS b2=> ?_)<|cz a0
  refine ac (λa1 a2 b3=> ?_)<|cF b2;obtain⟨z,A⟩:=a1
  have c9:xQ q:=by cases q<;>first|trivial|cases S
  have c0:=Cc (f:=f) i.hh Y T b1 c9 a2
  rw [S] at c0
  exact Kb T c0 λl b4 k=>E l b4 b8 s b9 (dW z) A X (w.trans a9) T b0 b3 k
 |zip q d8=>
  rw [K] at g
  refine iC (λc4 c5 k a3 a4=> ?_)<|am0 K;obtain rfl:=a3
  refine aA (λh P=> ?_)<|cz g
  refine aA (λh b5=> ?_)<|fp.mp h
  rw [sy (by intros;simp)] at ⊢
  refine aJ<|bQ (CY V D r a4 (s:=λB a5=>B= .blt .zip/\a5=c) ⟨O,O⟩) λc6 j d0=> ?_
  obtain⟨m,t,c8,w,x,L,a7,a8⟩:=d0
  subst a7 a8
  rw [xh L] at ⊢
  refine pc (c:=nu k<|nw [] p) (lb<|by simp [h,b5]) O<|pg (lb<|by simp [h,b5]) O ?_
  refine oF (ez y i x (r.ext w) P λB s b8 b9 q a9 T b0 b1 S=>oF (ez y i T b0 S λd9 d1 d2 d3 e0 c1 c2 d4 d5 b2=>Ac<|wV ⟨.inr<|.inl ⟨_,O⟩,?_⟩)<|rl b5)<|rl h
  refine ac (λZ b6 b3=> ?_)<|qX b2;obtain rfl:=b6
  refine ac (λe1 b6 d6=> ?_)<|qX b3;obtain rfl:=b6
  exact YB i.hh c2 (c1.rel b1) d5 λl b4 k=>E l b4 d2 d1 d3 _ U X ((w.trans a9).trans c1) c2 d4 d6 k
theorem Sc(n:a7≠j):∀(c a:N) (b:al) (d:M aa->al->Prop),b.heap.IsListIter j a7 a->b.heap.IsList a7 f6->a+c<=f6.size->
 (∀e,e.IsListIter j a7 (a+c)->kC j b.heap e->d ((f6.toList.drop a).take c) {b with heap:=e})->an (az aq ap) f (draw (.ref j) c) d a6 b:=by
 intro o
 induction o with
 |zero=>exact λa b d g _ _ h=>by refine(?_:an _ _ (dj []) d a6 b);exact bP<|by simpa using h b.heap g (ay8 ..)
 |succ c p=>
  exact λa b d g i k h=>by
   have l:a<f6.size:=by exact af 0 (C+1) J (.p 1 (C+(aj+1)) J .z) (bk _ _ _) O k
   refine(?_:an _ _ (Az (.ref j)>>=_) d a6 b);refine aJ<|wpAny_pyNext_list_item g i (x:=f6[a]) (by simp [l]) λv q m=> ?_;refine aJ<|fk (p (a+1) _ _ q (i.extBut m.extBut n) (by exact af 0 (C+1+J) aj (.p 1 (C+(J+1)) aj .z) (bk _ _ _) O k) λr s t=>bP ?_);have u:f6.toList.drop a=f6[a]::f6.toList.drop (a+1):=by simp [qb,l]
   have:=h r (by rw [show a+(c+1)=a+1+c by exact nS (C+(J+1)) (C+1+J) (aN _ _) O];exact s)<|m.trans t;rw [u,zI] at this;exact this
theorem aj3{b:M aa->al->Prop}(c:f.handled=U)(a:e.heap.IsList j f6)
 (d:∀h,Ai e.heap.objs.size e.heap h->b f6.toList {e with heap:=h}):an (az aq ap) f (AB (.ref j) f6.size U) b a6 e:=by
 revert e f a6 j f6 b c a d
 apply U6
 generalize P5 _=j,Q5 _=f,Q4 _=f6,Q3 _=e,Q2 _=a6,Q1 _=b
 intro c a d
 have i:j≠e.heap.objs.size:=by(revert a;refine ac λg n v=> ?_);exact ik<|jt n
 unfold AB
 refine aJ ?_
 .unfold notIterableAtAll
  refine aJ<|Pg a.typeIs slot_list_iter.lookup ?_
  refine bP ?_
  simp only [lq,mJ]
  refine aJ<|fk (AG a ?_)
  refine aJ<|fk (Sc i f6.size 0 _ _ ⟨_,gB _ O,O,O⟩ (a.push _) (by exact af 0 (0+C) C .z (bj _) O) λo p k=> ?_)
  have q:wk f6.size (zt 0 f6.toList)=f6.toList:=by rw [qd];exact ly<|by simp
  rw [q]
  rw [bF (by simp)]
  have r:o.IsList j f6:=(a.push _).extBut k.extBut i
  refine aJ<|fk (wpAny_pyNext_list_end c p r (by simp) λs t=> ?_)
  simp only [NU,lq,mJ]
  refine bP<|d s λl g m u=>t l g m<|k.extBut l g m (iQ _ u)
theorem KG(l:f.handled=U)(j:am b c e)(r:aR e.heap b k h)(g:lf c h=Q q)(s:h6 q c):
 an (az aq ap) f (AB k q.length U) (qr b e h6) aB e:=by
 refine dd (λw t u m a=> ?_)<|Dd j r g;obtain rfl:=u
 have n:∀d,Ai e.heap.objs.size e.heap d->qr b e h6 t.toArray.toList {e with heap:=d}:=λd v=>by have o:∀i h,e.heap.get? i=Q h->d.get? i=Q h:=λi h g=>v i h (ik<|jt g) g;have p:aH b e b {e with heap:=d,toks:=e.toks}:=aH.grow o;exact⟨b,c,q,p,j.grow j.tk o,by simpa using p.rell m,s⟩
 rw [<-m.length]
 obtain a|a:=a
 .have:=aj3 (a6:=aB) l a.isList n;simpa using this
 .have:=wpAny_unpackItems_tuple (prog:=aq) (w:=ap) (E:=aB) l a n;simpa using this
theorem Lx(a:DB v=Q g):∃b,v= .Name g b:=by cases v<;>first|(cases a;exact⟨_,O⟩)|exact aU a
theorem Jt(g:qH o (v::c6) q c e0):∃a f b d e,v= .Name a f/\q=b::d/\mT o c a b=Q e/\qH o c6 d e e0:=by
 refine ac (λa i h=> ?_)<|cF g;clear g;refine ay (λf j=> ?_)<|Lx i;obtain rfl:=j
 cases q with
 |nil=>exact h.elim
 |cons b d=>refine ac (λe k l=> ?_)<|cF h;exact⟨a,f,b,d,e,O,O,k,l⟩
theorem WW:∀{a:M aC} {b:M R} {d:M G} {e:M G->Prop},qH o a b d e->(iS a p).length=b.length/\(iS a p).findIdx? (·.1)=U:=by
 intro f
 induction f with
 |nil=>exact @λb _ _ c=>by cases jN.mp (cz c).1;exact⟨O,O⟩
 |cons q a g=>exact @λb d e c=>by refine td (λh i r s t j k u l=> ?_)<|Jt c;obtain rfl:=j;obtain rfl:=k;refine aA (λm n=> ?_)<|g l;refine⟨bq (· +1) m,?_⟩;refine(?_:List.findIdx? (·.1) ((ai,nt (.Name h i) p)::iS a p)=U);rw [List.findIdx?_cons];simp [n]
theorem ZO:∀{c:M R} {h:M aa} {d:M G} {a:ar} {b:al} {e:M G->Prop},qH o c6 c d e->am a d b->bp f n a p o->dN b.heap a h c->
 an (az aq ap) f (Fh ((iS c6 p).map (·.2)) h) (fy a b λ(_:ek) i=>e i) aB b:=by
 induction c6 with
 |nil=>
  intro c h d a b e g j k l
  refine aA (λq g=> ?_)<|cz g
  cases jN.mp q
  cases l
  exact bP ⟨a,d,aH.refl a b,j,g⟩
 |cons E c6 r=>
  intro c h d a b e g j k l
  refine td (λK L P c S s t u v=> ?_)<|Jt g;obtain rfl:=s;obtain rfl:=t
  refine dd (λT V w x y=> ?_)<|l.un;obtain rfl:=w
  .refine aJ<|fk (OV<|bQ (tu j k x u (e0:=λi=>qH o c6 c i e) v) λ_ Y z=> ?_)
   obtain⟨Z,a0,m,A,B⟩:=z
   exact gh (r B A (k.ext m)<|m.rell y) λ_ _ D=>D.trans m
theorem ZP:∀{g:M I} {h:M R} {i:M aa} {d:M G} {a:ar} {b:al} {e:M G->Prop},xc o g h d e->am a d b->bp f n a p o->dN b.heap a i h->
 an (az aq ap) f (Fh (g.map λr=>bindName p r) i) (fy a b λ(_:ek) j=>e j) aB b:=by
 intro s
 induction s with
 |nil=>exact @λh i d a b e c k l m=>by refine aA (λt c=> ?_)<|cz c;cases jN.mp t;cases m;exact bP ⟨a,d,aH.refl a b,k,c⟩
 |cons E g u=>
  exact @λh i d a b e c k l m=>by
   cases m with
   |nil=>exact c.elim
   |cons v w=>
    refine ac (λK x y=> ?_)<|cF c;refine aJ<|fk (wpAny_bindName<|bQ (tu k l v x (e0:=λj=>xc o g _ j e) y) λ_ L z=> ?_);obtain⟨P,S,q,A,B⟩:=z
    exact gh (u B A (l.ext q)<|q.rell w) λ_ _ D=>D.trans q
theorem vE(A:ej n a d u.E)(l:br a d f)(m:am b c e)(q:bp f n b p o)(r:aR e.heap b k h)(i:kN u v h o c e0):
 an (az aq ap) f (nt v p k) (fy b e λ(_:ek) s=>e0 s) aB e:=by
 cases v with
 |Name a7 B=>
  refine ac (λa8 j t=> ?_)<|cF i
  exact OV<|tu m q r j t
 |Tuple a9 b0 B=>
  refine ac (λD E j=> ?_)<|cF i
  rw [av1]
  refine aJ<|iT ?_
  unfold unpack
  refine aA (λt K=> ?_)<|WW (p:=p) j
  rw [t,K]
  refine aJ<|fk (bQ (KG l.hh m r E (h6:=λL s=>L=D/\s=c) ⟨O,O⟩) λb1 P S=> ?_)
  obtain⟨T,V,b2,g,w,x,Y,Z⟩:=S
  subst Y Z
  exact gh (ZO j w (q.ext g) x) λ_ _ y=>y.trans g
 |Subscript a0 a1 B=>
  rw [assign_Subscript]
  refine aJ<|fk (ez A l m q i λb3 P T V a0 g w a2 x a3=>aJ<|fk (ez A l w a2 a3 λb4 b5 b6 b7 a1 z a4 b8 a5 a6=> ?_))
  refine aJ<|iT (aJ<|fk (bQ (aa5 a4 (z.rel x) a5 ((g.trans z).rel r) a6) λ_ b9 y=>Oh<|y.trans (g.trans z)))
 |_=>exact i.elim
theorem uS{l:al}(g:aH b e b S)(q:∀a∈d9,e.heap.get? a=U)(m:jK d9 S.heap e9.heap)(r:e9.gens=S.gens)(s:e9.drawn=S.drawn)(t:e9.os=S.os)
 (f:aH (b.hide d9) e9 x l):aH b e ⟨x.l,b.p⟩ l:=by
 have n:∀a c,e.heap.get? a=Q c->a∉d9:=λa c d i=>by rw [q a i] at d;exact aU d
 have o:∀a,(∃c,e.heap.get? a=Q c)->∃c,e9.heap.get? a=Q c:=λa u=>by revert u;refine ay λc d=> ?_;refine ay (λj h=> ?_)<|g.live a ⟨c,d⟩;exact⟨j,m a j (n a c d) h⟩
 refine⟨f.le,f.pre,λv k w d=> ?_,O,λa c p d=>f.keep a c p<|m a c (n a c d) (g.keep a c p d),λa d=>f.live a<|o a d,f.gens.trans<|r.trans g.gens,f.drawn.trans<|s.trans g.drawn,f.os.trans<|t.trans g.os⟩
 cases i:e.heap.get? k with
 |none=>rfl
 |some c=>refine ay (λj h=> ?_)<|o k ⟨c,i⟩;rw [f.new v k w d] at h;exact aU h
theorem Hc(a:aH b e x S):aH b e b S:= ⟨ba _,λ_ _=>O,λ_ _ c d=>bD (fO d)<|cq.mpr c,O,a.keep,a.live,a.gens,a.drawn,a.os⟩
theorem Lu(c:aH b e x S):x.l.take b.l.length=b.l:=by
 apply tW;intro d;rw [qg];split
 .next a=>exact c.pre d a
 .next a=>exact(jo<|cq.mp a).symm
theorem am.leave{t:N}(h:am (b.hide d9) c e)(p:∀k∈b.p,k∉d9)(l:jK d9 e.heap i)(q:0<t):am b c {e with heap:=i,toks:=t}:=by
 have r:cs (bh<|b.hide d9) (bh b) e.heap i (b.hide d9) b:=⟨λa g m _=>⟨m.1,λd=>m.2<|ff _ d⟩,λa g m f=>l a g (λd=>m.2<|eH _ d) f,λ_ _ f=>f⟩
 have n:∀(j:N) (a:ao),b.l[j]? =Q (Q a)->a∉d9:=λj a f d=>(h.prv a<|eH _ d).2.1<|iZ f;exact⟨h.len,h.inj,λj a g o s=>(h.mo j a g o s).car r λ_ d=>l _ _ (n j a o) d,λk g f=>l k g (λd=>by rw [(h.prv k<|eH _ d).1] at f;exact aU f)<|h.base k g f,h.out, λj a f=>(by refine ay (λg d=> ?_)<|h.ex j a f;exact⟨g,l _ _ (n j a f) d⟩),λa d=>(by(refine dH (λu v w=> ?_)<|h.prv a (ff _ d);refine ay (λg x=> ?_)<|w);exact⟨u,v,g,l _ _ (p a d) x⟩),q⟩
theorem SU{a:M ao}{c:io}{b:aY}(h:∀d∈a,d∈d9)(f:vR i ⟨i1,d9⟩ c b):vR i ⟨i1,a⟩ c b:=by
 have j:cs (bh ⟨i1,d9⟩) (bh ⟨i1,a⟩) i i ⟨i1,d9⟩ ⟨i1,a⟩:=⟨λd b g _=>⟨g.1,λk=>g.2<|h d k⟩,λ_ _ _ e=>e,λ_ _ e=>e⟩
 cases c<;>cases b<;>first|exact f|exact bi.car j f
theorem tt(v:sr n a d u.S)(w:br a d f):∀{b:ar} {g:M G} {c:al} {i:aY->M G->Prop},bz u d4 o g i->am b g c->bp f n b p o->an (az aq ap) f (jY d4 p) (dV b c i) aB c:=by
 induction d4 with
 |nil=>intro b g c i m q _;exact FC ⟨b,g,.next,aH.refl b c,q,eG,m⟩
 |cons D d4 x=>
  intro b g c i m q t;refine oR<|bQ (v _ _ _ _ m f p b c w q t) λj E y=> ?_;obtain⟨r,s,z,h,k,e,l⟩:=y
  cases z with
  |next=>
   cases j with
   |next=>exact gh (x l k<|t.ext h) λ_ _ A=>A.trans h
   |_=>exact e.elim
  |brk=>cases j with
   |brk=>exact⟨r,s,.brk,h,k,e,l⟩
   |_=>exact e.elim
  |cont=>cases j with
   |cont=>exact⟨r,s,.cont,h,k,e,l⟩
   |_=>exact e.elim
  |ret B=>cases j with
   |ret K=>exact⟨r,s,.ret B,h,k,e,l⟩
   |_=>exact e.elim
theorem az7{b:aY}(d:qO e0 Z b c):((b= .next\/b= .cont)/\e0 c)\/(b= .brk/\Z .next c)\/∃e,b= .ret e/\Z (.ret e) c:=by
 cases b with
 |next=>exact .inl ⟨.inl O,d⟩
 |cont=>exact .inl ⟨.inr O,d⟩
 |brk=>exact .inr<|.inl ⟨O,d⟩
 |ret e=>exact .inr<|.inr ⟨e,O,d⟩
theorem Zt(m:fJ n a d u)(q:br a d f)(j:am b c e)(r:bp f n b p o)(y:LW u v d4 o c Z):an (az aq ap) f (jX (.While v d4 [] A) p) (dV b e Z) aB e:=by
 revert b c e f p o a d u n v d4 A Z m q j r y;apply U14;generalize P13 _=f,Q13 _=n,Q12 _=p,Q11 _=v,Q10 _=d4,Q9 _=a,Q8 _=d,Q7 _=A,Q6 _=e,Q5 _=c,Q4 _=b,Q3 _=Z,Q2 _=o,Q1 _=u;intro m q j r y;revert y;refine ac λz a0 a1=> ?_;refine ay (λa2 a3=> ?_)<|a0;refine wpAny_While<|codeAny_whileLoop (λk s=>∃g,z k g/\am b g s/\aH b e b s) (λk s a4=> ?_) a2 ⟨c,a3,j,aH.refl b e⟩;revert a4;refine dt λg a5 a6 t=> ?_;refine aA (λc2 a7=> ?_)<|a1 k g a5;refine bQ (m.T _ _ _ _ a7 f p b s q a6 r) λa8 c3 a9=> ?_;obtain⟨b0,b1,B,P,S⟩:=a9
 have b2:=r.ext B
 cases a8 with
 |false=>exact FC ⟨b0,b1,.next,t.trans B,P,eG,S⟩
 |true=>
  refine bQ (tt m.S q S P b2) λw D b3=> ?_;obtain⟨E,K,b4,b5,L,l,x⟩:=b3
  have i:=B.trans b5;have T:(∃h V,h<k/\gD c.length K V/\z h V)->∃h,h<k/\∃g,z h g/\am b g D/\aH b e b D:=λb6=>by revert b6;refine dd λh b7 b8 b9 c0=> ?_;have Y:=b9 E D (by rw [<-j.len];exact i.le) L;rw [<-j.len,Lu i,i.p] at Y;exact⟨h,b8,b7,c0,Y,Hc<|t.trans i⟩
  cases b4 with
  |next=>cases w with
   |next=>exact T x
   |_=>exact l.elim
  |cont=>cases w with
   |cont=>exact T x
   |_=>exact l.elim
  |brk=>cases w with
   |brk=>exact⟨E,K,.next,t.trans i,L,eG,x⟩
   |_=>exact l.elim
  |ret c1=>cases w with
   |ret c4=>exact⟨E,K,.ret c1,t.trans i,L,l,x⟩
   |_=>exact l.elim
theorem Hz(b:iY u v o c l2)(a:aa):Aw v p a=dj a:=by cases v<;>first|rfl|exact b.elim
theorem uR(a:bp f n b p o):bp f n (b.hide d9) p o:= ⟨(λc=>⟨(a.top c).ex⟩),a.sc,a.kind,a.ns,eK.mono (b:=b) (μ':=b.hide d9) (λ_ _ d=>d) a.cells,a.gl,a.bl,a.d1,a.d2,a.q,λe g=>a.ct e g⟩
inductive tQ(b:ar)(f:al)(g:M ao)(h:N->aT->Prop)(c:M R)(i:M R->M G->Prop)(j:N)(d:al):Prop
 |mk (a:N) (e:M G) (k:j=c.length+1 - a) (l:a<=c.length) (m:i (c.drop a) e) (n:am (b.hide g) e d) (o:h a d.heap) (p:aH b f b d)
def Te(c:ar)(d:al)(e:aY->M G->Prop)(f:ar)(g:al)(h:M ao)(i:N->aT->Prop)(j:M R)(k:M R->M G->Prop)(l:N)(m:io)(b:al):Prop:=match m with
 | .next=>∃a,a<l/\tQ f g h i j k a b
 | .cont=>∃a,a<l/\tQ f g h i j k a b
 | .brk=>dV c d e .next b
 | .ret n=>dV c d e (.ret n) b
theorem Zk(b1:ht gl)(b2:∀d4,bM.get? d4=U->(d4==cR)=ai)(K:fJ n a d u)(L:br a d f)(H:am b c e)(b4:bp f n b p o)(a1:HA u v c5 d4 o c Z):an (az aq ap) f (jX (.For v c5 d4 [] A) p) (dV b e Z) aB e:=by
 revert b c e f p o a d u n v c5 d4 A Z b1 b2 K L H b4 a1;apply U15;generalize P14 _=f,Q14 _=n,Q13 _=p,Q12 _=v,Q11 _=c5,Q10 _=d4,Q9 _=a,Q8 _=d,Q7 _=A,Q6 _=e,Q5 _=c,Q4 _=b,Q3 _=Z,Q2 _=o,Q1 _=u;intro b1 b2 K L H b4 a1;refine wpAny_For (CX b1 b2 K.E L H b4 a1 λh8 a2 g t e2 m h9 i0 c7 x c8 e3 e4=> ?_)<|Hz a1;obtain⟨i1,q,b5,e5,e6,e7,e8,a3,P,c9,d0,i2,e9⟩:=e4
 refine aA (λf0 S=> ?_)<|cz e3;refine CD (λI f1 f2 f3 f4=> ?_)<|S;refine ac (λb6 b7 f5=> ?_)<|f1;subst e7 e8;have a5:=a3 v f0;have d1:∀h∈g.p,h∉q:=λh i j=>by(refine dH (λb8 b8 S=> ?_)<|x.prv h i;refine ay (λl c5=> ?_)<|S);rw [P h j] at c5;exact aU c5
 have f6:am g b6 t:=by have:=b7 g t (by rw [x.len];exact ba _) x;rw [<-x.len,Ey] at this;exact this
 have f7:am (g.hide q) b6 {t with heap:=e5,toks:=e6}:=f6.hide e9 P c9 λh i=>a5.ex _ _ d0 h i;refine codeAny_forLoop_any (tQ g t q b5 m I) ?_ (m.length+1) ⟨0,b6,O,cy _,f5,f7,d0,aH.grow c9⟩;intro i3 y f8;obtain⟨r,T,rfl,d2,V,a6,f9,b9⟩:=f8
 refine aA (λg0 i4=> ?_)<|f2 _ _ V
 refine eO (a5.turn (g.hide q) T y r (λu c0=>match u with
  |none=>an (az aq ap) f (jY [] p) (λk s=>dV b e Z k s) aB c0
  |some z=>an (az aq ap) f (nt v p z) (λ_ a2=>an (az aq ap) f (jY d4 p) (Te b e Z g t q b5 m I<|m.length+1 - r) aB a2) aB c0) (λh i=>eH _ i) a6 g0 (Rv P b9) f9 d2 ?_ ?_) ?_ λ_ _ l=>l.elim
 .intro z B D l d3 g1 d5 E c1
  refine(?_:an (az aq ap) f (nt v p z) _ aB _);have d6:r<m.length:=(fq.mp d3).1;have g2:m.drop r=l::m.drop (r+1):=by rw [qb d6,(fq.mp d3).2]
  rw [g2] at V
  have a7:am (g.hide q) T {y with heap:=B,toks:=D}:=a6.prvs c1 (λh l i c5=>E h l (λj=>i<|eH _ j) c5) λh i=>by
   obtain i|i:=dQ.mp i
   .exact a5.ex _ _ d5 h i
   ·(refine dH (λb8 b8 S=> ?_)<|a6.prv h (ff _ i);refine ay (λa3 g3=> ?_)<|S);exact⟨a3,E h a3 (d1 h i) g3⟩
  refine bQ (vE K.E L a7 (uR c8) g1<|f3 l _ T V) λ_ a2 g4=> ?_;obtain⟨i5,i6,d7,g5,g6⟩:=g4
  refine bQ (tt K.S L g6 g5<|(uR c8).ext d7) λk s g7=> ?_;obtain⟨w,c2,g8,W,d8,Y,a8⟩:=g7
  have a0:=d7.trans W;have a9:aH g t ⟨w.l,g.p⟩ s:=uS (e9:={y with heap:=B,toks:=D}) b9 P E O O O a0;have c3:w.p=q++g.p:=a0.p;have d9:(∃b0,gD e2.length c2 b0/\I (m.drop<|r+1) b0)->∃e0,e0<m.length+1 - r/\tQ g t q b5 m I e0 s:=λh0=>by revert h0;refine ac λb0 b7 h1=> ?_;have c4:=b7 w s (by rw [<-x.len];exact a0.le) d8;rw [<-x.len] at c4;have h2:w.l.take g.l.length=g.l:=Lu (b:=g.hide q) a0;rw [h2,c3] at c4;exact⟨m.length+1 - (r+1),EM (uf d2)<|lA r,r+1,b0,O,d6,h1,c4,a5.frame _ _ _ d5 λh i h3 c5=>a0.keep h h3 (a7.prv h<|eH _ i).2.1 c5,Hc a9⟩
  have e1:∀k l,vR s.heap w k l->Z l c2->dV b e Z k s:=λk l h4 h5=>⟨⟨w.l,g.p⟩,c2,l,c7.trans a9,d8.unhide λd4 c6=>by rw [c3];exact ff _ c6,SU (d9:=w.p) (λd4 c6=>by rw [c3];exact ff _ c6) h4,h5⟩
  cases g8 with
  |next=>cases k with
   |next=>exact d9 a8
   |_=>exact Y.elim
  |cont=>cases k with
   |cont=>exact d9 a8
   |_=>exact Y.elim
  |brk=>cases k with
   |brk=>exact e1 .next .next eG a8
   |_=>exact Y.elim
  |ret z=>cases k with
   |ret h6=>exact e1 (.ret h6) (.ret z) Y a8
   |_=>exact Y.elim
 .intro B D h7 E c1;refine(?_:an (az aq ap) f (jY [] p) _ aB _);subst h7;rw [MO] at V;have a7:am g T {y with heap:=B,toks:=D}:=a6.leave d1 E c1;have a9:aH g t ⟨g.l,g.p⟩ {y with heap:=B,toks:=D}:=uS (e9:={y with heap:=B,toks:=D}) (x:=g.hide q) b9 P E O O O<|aH.refl (g.hide q) _;exact FC ⟨g,T,.next,c7.trans a9,a7,eG,f4 _ V⟩
 .intro u c0 j
  cases u with
  |none=>exact bQ j λk s j=>j
  |some z=>exact bQ j λ_ a2 j=>bQ j λ_ s j=>bQ j λk i7 j=>by cases k<;>exact j
structure cO(Y:ao)(h:ar)(i:al)(x:ar)(v:al):Prop where
 le:h.l.length<=x.l.length
 pre:∀j,j<h.l.length->x.l[j]? =h.l[j]?
 new:∀j y,h.l.length<=j->x.l[j]? =Q (Q y)->i.heap.get? y=U
 p:x.p=h.p
 keep:∀c o,c≠Y->Q c∉h.l->i.heap.get? c=Q o->v.heap.get? c=Q o
 live:∀c,(∃o,i.heap.get? c=Q o)->∃o,v.heap.get? c=Q o
 gens:v.gens=i.gens
 drawn:v.drawn=i.drawn
 os:v.os=i.os
theorem cO.of(a:aH b e x S):cO j b e x S:=⟨a.le,a.pre,a.new,a.p,λc d _ f g=>a.keep c d f g,a.live,a.gens,a.drawn,a.os⟩
theorem cO.at{μ:ar}{b:ar}(d:cO j μ e b S)(c:μ.l[a]? =Q (Q a7)):b.l[a]? =Q (Q a7):=(d.pre a<|fO c).trans c
theorem cO.nl(c:cO j b e x S)(h:Q a7∉b.l)(d:e.heap.get? a7=Q g3):Q a7∉x.l:=λi=>by
 refine ay (λa f=> ?_)<|kX i;by_cases g:a<b.l.length
 .exact h<|iZ ((c.pre a g).symm.trans f)
 .rw [c.new a a7 (cq.mp g) f] at d;exact aU d
theorem cO.trans(a:cO j b e x S)(c:cO j x S j3 e9):cO j b e j3 e9 where
 le:=aK a.le c.le
 pre:=λd h=>(c.pre d<|ij h a.le).trans<|a.pre d h
 new:=λd i h f=>by
  by_cases l:d<x.l.length
  .exact a.new d i h<|(c.pre d l).symm.trans f
  .cases p:e.heap.get? i with
   |none=>rfl
   |some k=>refine ay (λq m=> ?_)<|a.live i ⟨k,p⟩;rw [c.new d i (cq.mp l) f] at m;exact aU m
 p:=c.p.trans a.p
 keep:=λg k n o f=>c.keep g k n (a.nl o f)<|a.keep g k n o f
 live:=λg f=>c.live g<|a.live g f
 gens:=c.gens.trans a.gens
 drawn:=c.drawn.trans a.drawn
 os:=c.os.trans a.os
theorem cO.car(d:cO j b e x S)(i:j∈b.p):cs (bh b) (bh x) e.heap S.heap b x:= ⟨λg h a c=>⟨d.nl a.1 c,λf=>a.2<|d.p▸f⟩,λg h a c=>d.keep g h (λf=>a.2<|f▸i) a.1 c,λ_ _ c=>d.at c⟩
theorem cO.er(c:cO j b e x S)(a:bp f n b p o):bp f n x p o:= ⟨(λi=>(by refine gb (λp k d g h l=> ?_)<|(a.top i).ex;exact⟨p,k,d,g,h,c.at l⟩)),a.sc,a.kind,c.at a.ns,a.cells.mono λ_ _ m=>c.at m,a.gl,a.bl,a.d1,a.d2,a.q,λq r=>(by refine dd (λs t d g h=> ?_)<|a.ct q r;exact⟨s,t,d,c.at g,h⟩)⟩
theorem cO.take(c:cO j b e x S):x.l.take b.l.length=b.l:=by
 apply tW;intro d;rw [qg];split
 .next a=>exact c.pre d a
 .next a=>exact(jo<|cq.mp a).symm
theorem Hb{m:al}(g:cO j b e b S)(s:∀a∈d9,e.heap.get? a=U)(t:e9.gens=S.gens)(u:e9.drawn=S.drawn)(v:e9.os=S.os)
 (f:cO j (b.hide d9) e9 x m) (n:jK d9 S.heap e9.heap):cO j b e ⟨x.l,b.p⟩ m:=by
 have o:∀a c,e.heap.get? a=Q c->a∉d9:=λa c d i=>by rw [s a i] at d;exact aU d
 have p:∀a,(∃c,e.heap.get? a=Q c)->∃c,e9.heap.get? a=Q c:=λa w=>by revert w;refine ay λc d=> ?_;refine ay (λk h=> ?_)<|g.live a ⟨c,d⟩;exact⟨k,n a k (o a c d) h⟩
 refine⟨f.le,f.pre,λy l z d=> ?_,O,λa c q r d=>f.keep a c q r<|n a c (o a c d) (g.keep a c q r d),λa d=>f.live a<|p a d,f.gens.trans<|t.trans g.gens,f.drawn.trans<|u.trans g.drawn,f.os.trans<|v.trans g.os⟩
 cases i:e.heap.get? l with
 |none=>rfl
 |some c=>refine ay (λk h=> ?_)<|p l ⟨c,i⟩;rw [f.new y l z d] at h;exact aU h
theorem Sz(a:cO j b e x S):cO j b e b S:= ⟨ba _,λ_ _=>O,λ_ _ c d=>bD (fO d)<|cq.mpr c,O,a.keep,a.live,a.gens,a.drawn,a.os⟩
noncomputable def tA(d:M aC)(a:bH):cC ah:=mn d X λb c=>if c=X then do let e<-qz b a (cQ b a);dj (rN e) else dj (rN c)
theorem ah5:∀(c:M aC) (a:bH),(mn c ai λb d=>if d=X then do let e<-qz b a (cQ b a);dj (rN e) else dj (rN d):cC ah)=dj ai:=by
 intro f
 induction f with
 |nil=>exact λ_=>O
 |cons b c g=>exact λa=>by rw [qf];simp only [lq,mJ,wb];exact g a
theorem aa8(q:ss n a d u.T)(r:br a d f):∀{g:M aC} {b:ar} {e:M G} {c:al} {h:ah->M G->Prop},DA u g o e h->am b e c->bp f n b p o->an (az aq ap) f (tA g p) (fy b c h) aB c:=by
 intro s
 induction s with
 |nil=>exact @λb e c h i j _=>bP ⟨b,e,aH.refl b c,j,i⟩
 |cons B g t=>
  exact @λb e c h i j v=>by
   unfold tA;rw [qf];simp only [pp];refine aJ<|aJ (oa q r j v i λw D x y k l z m=>bP ?_)
   cases w with
   |true=>exact gh (t m l z) λ_ _ A=>A.trans k
   |false=>refine(?_:an _ _ (mn g ai _) _ _ _);rw [ah5];exact bP ⟨x,y,k,l,m⟩
noncomputable def tE(b:Code)(f:bV)(a:cK)(c:aa)(d:bH)(g:cC ek):cC sj:=do
 nC f
 match<-Az c with
 |none=>dj<|.done .next
 |some e=>
  wR a.target c e
  nt a.target d e
  let h<-tA a.ifs d
  if h=X then do g;Aq b else Aq b
theorem cs.trans{h:ao->Prop}{j:aT}(e:cs y e2 i c0 b x)(g:cs e2 h c0 j x j3):cs y h i j b j3:= ⟨λa c f d=>g.p a c (e.p a c f d)<|e.k a c f d,λa c f d=>g.k a c (e.p a c f d)<|e.k a c f d,λk a d=>g.m k a<|e.m k a d⟩
inductive zJ{e:Type}(j:aT->ar->e->Prop)(k:M R->e->M G->Prop)(f:M R)(c:M ao)(l:N->aT->Prop)(m:ao)(a:ar)(n:al)(g:ar)(o:al)(p:N)(b:al):Prop
 |mk (d:N) (h:e) (i:M G) (q:p=f.length+1 - d) (r:d<=f.length) (s:k (f.drop d) h i) (t:am (a.hide c) i b) (u:j b.heap (a.hide c) h) (v:l d b.heap) (w:cO m a n a b) (x:cs (bh g) (bh<|a.hide c) o.heap b.heap g (a.hide c))
theorem Je{b1:cC ek}(w:aT->ar->E->Prop)(d0:∀a4 a2 f4 g,w a4 a2 g->(∀h∈f4,h∈a2.l)->w a4 ⟨f4,a2.p⟩ g)(b0:∀a4 d1 a2 d2 g,w a4 a2 g->(∀B,a4.get? j=Q B->d1.get? j=Q B)->cs (bh a2) (bh d2) a4 d1 a2 d2->w d1 d2 g)
 (d3:(wE v t (.ref a7) k p).quiet=X)
 (d4:∀(f5:sj->al->Prop) (h9:aa->al->Prop) (e:al),an (az aq ap) f (tE (.compLoop v t (.ref a7) k p) A f7 (.ref a7) p b1) f5 aB e-> an (az aq ap) (f.under<|.compLoop v t (.ref a7) k p) ((az aq ap).den<|.compLoop v t (.ref a7) k p) f5 h9 e)
 (c0:fJ h5 a d u) (c1:br a d f) (f6:mh n f7.target=X) (b2:mE f f7.target a7 d9 e1 q b S j5) (c2:∀l∈d9,e9.heap.get? l=U) (a5:∀l∈x.p,l∉d9) (b3:j∈x.p)
 (D:M R->E->M G->Prop) (c3:M R->E->M G->Prop) (a6:N) (c4:a6=x.l.length) (d5:∀V g m,D V g m->gk e1 m)
 (d6:∀h V g m,D (h::V) g m->oi u f7 h o m (c3 V g) (λc5=>∃c6,gD a6 c5 c6/\D V g c6))
 (d7:∀V g c5 Y a3,c3 V g c5->am Y c5 a3->bp f h5 Y p o->w a3.heap Y g->j∈Y.p->an (az aq ap) f b1 (λ_ z=>∃y Z K P,cO j Y a3 y z/\am y Z z/\w z.heap y K/\gD a6 Z P/\D V K P) aB a3)
 {g:E} (d8:D q g c) (H:am (x.hide d9) c e) (b4:bp f h5 x p o) (e2:w e.heap (x.hide d9) g) (b5:j5 0 e.heap) (e3:cs (bh b) (bh<|x.hide d9) S.heap e.heap b (x.hide d9)) (e4:cO j x e9 x e):
 qx (az aq ap) f (.compLoop v t (.ref a7) k p) (λu i=>match u with
  | .ok _=>∃K m,D [] K m/\am x m i/\w i.heap x K/\cO j x e9 x i
  | .error _=>cn) e:=by
 revert E w d0 b0 d3 d4 c0 c1 f6 b2 c2 a5 b3 D c3 c4 d5 d6 d7 g d8 H b4 e2 b5 e3 e4
 revert c e f o j a d u h5 v t f7 a7 k p b1 A n d9 e1 q b S j5 x e9 a6
 apply U20
 generalize P19 _=j,Q19 _=a7,Q18 _=f,Q17 _=n,Q16 _=h5,Q15 _=f7,Q14 _=p,Q13 _=v,Q12 _=d9,Q11 _=a,Q10 _=d,Q9 _=t,Q8 _=j5,Q7 _=A,Q6 _=e,Q5 _=S,Q4 _=e9,Q3 _=k,Q2 _=q,Q1 _=c
 apply U7
 generalize P6 _=b,Q6 _=x,Q5 _=o,Q4 _=e1,Q3 _=u,Q2 _=b1,Q1 _=a6
 intro E w d0 b0 d3 d4 c0 c1 f6 b2 c2 a5 b3 D c3 c4 d5 d6 d7 g d8 H b4 e2 b5 e3 e4
 refine codeAny_loop d3 (zJ w D q d9 j5 j x e9 b S) ?_ (q.length+1) ⟨0,g,c,O,cy _,d8,H,e2,b5,e4,e3⟩
 intro k4 i i0;obtain⟨T,K,m,rfl,f8,b6,c7,f9,b5,g0,g1⟩:=i0
 refine d4 _ _ _ ?_
 unfold tE
 generalize g2:(λ(i1:sj) (i:al)=>(match i1 with
  | .done i2=>(λ(u:Am) (i:al)=>(match u with
   | .ok _=>∃K m,D [] K m/\am x m i/\w i.heap x K/\cO j x e9 x i
   | .error _=>cn)) (.ok i2) i
  | .again i3=>i3=wE v t (.ref a7) k p/\∃g3,g3<q.length+1 - T/\zJ w D q d9 j5 j x e9 b S g3 i))=c8
 refine aJ (iT (aJ (eO (b2.turn (x.hide d9) m i T (λu e5=>match u with
  |none=>c8 (.done .next) e5
  |some e6=>an (az aq ap) f (nt f7.target p e6>>=λ_=>tA f7.ifs p>>=λe7=>if e7=X then(b1>>=λ_=>Aq<|.compLoop v t (.ref a7) k p) else Aq (.compLoop v t (.ref a7) k p)) c8 aB e5)
  (λl s=>eH _ s) c7 (d5 _ _ _ b6) g1 b5 f8 ?_ ?_) ?_ λ_ _ h=>h.elim)))
 .intro e6 a0 b7 h g4 i4 g5 L e8
  refine(?_:an (az aq ap) f (_>>=_) _ aB _)
  have g6:T<q.length:=(fq.mp g4).1
  have i5:q.drop T=h::q.drop (T+1):=by rw [qb g6,(fq.mp g4).2]
  rw [i5] at b6
  have c9:=a5 j b3
  have f0:j∈(x.hide d9).p:=ff _ b3
  have f1:am (x.hide d9) m {i with heap:=a0,toks:=b7}:=c7.prvs e8 (λl h s v=>L l h (λr=>s<|eH _ r) v) λl s=>by
   obtain s|s:=dQ.mp s
   .exact b2.ex _ _ g5 l s
   ·(refine dH (λi6 i6 i7=> ?_)<|c7.prv l (ff _ s);refine ay (λg7 i8=> ?_)<|i7);exact⟨g7,L l g7 (a5 l s) i8⟩
  have g8:cs (bh<|x.hide d9) (bh<|x.hide d9) i.heap a0 (x.hide d9) (x.hide d9):=uI λl B s v=>L l B (λr=>s<|eH _ r) v
  have i9:=b0 _ _ _ _ _ f9 (λB v=>L j B c9 v) g8
  have g9:∀y Z P a8 z,cO j (x.hide d9) {i with heap:=a0,toks:=b7} y z->am y Z z->w z.heap y a8->gD a6 Z P->D (q.drop<|T+1) a8 P->c8 (.again<|.compLoop v t (.ref a7) k p) z:=by
   intro y Z P a8 z a1 f2 f3 b8 b9;have h0:y.l.take x.l.length=x.l:=cO.take (b:=x.hide d9) a1;have h1:y.p=d9++x.p:=a1.p;have h2:=b8 y z (by rw [c4];exact a1.le) f2;rw [c4,h0,h1] at h2;have h3:=d0 _ _ (y.l.take x.l.length) _ f3 λh j0=>ql j0;rw [h0,h1] at h3;have j1:cs (bh<|x.hide d9) (bh<|x.hide d9) a0 z.heap (x.hide d9) (x.hide d9):=⟨λg h A _=>A,λg h A v=>a1.keep g h (λr=>A.2<|r▸f0) A.1 v,λ_ _ v=>v⟩
   rw [<-g2];refine⟨O,q.length+1 - (T+1),EM (uf f8)<|lA T,T+1,a8,P,O,g6,b9,h2,h3,?_,Sz<|Hb (e9:={i with heap:=a0,toks:=b7}) g0 c2 O O O a1 L,(g1.trans g8).trans j1⟩;exact b2.frame _ _ _ g5 λl s B v=>a1.keep l B (λr=>c9<|r▸s) (f1.prv l<|eH _ s).2.1 v
  refine aJ<|bQ (vE c0.E c1 f1 (uR b4) i4<|d6 h _ K m b6) λ_ j2 j3=> ?_
  obtain⟨k5,k6,h4,j4,j6⟩:=j3
  refine aJ<|bQ (aa8 c0.T c1 j6 j4<|(uR b4).ext h4) λe7 a3 j7=> ?_
  obtain⟨Y,j8,W,h6,h7⟩:=j7
  have a9:=h4.trans W
  have k0:Q j∉(x.hide d9).l:=(f1.prv j f0).2.1
  have h8:=b0 _ _ _ _ _ i9 (λB v=>a9.keep j B k0 v) a9.car
  cases e7 with
  |true=>
   rw [bK O]
   refine aJ<|bQ (d7 _ _ _ Y a3 h7 h6 ((uR b4).ext a9) h8<|by rw [a9.p];exact f0) λ_ z k1=> ?_
   revert k1;refine vv λy Z a8 P a1 f2 f3 b8 b9=> ?_
   exact bP<|g9 y Z P a8 z ((cO.of a9).trans a1) f2 f3 b8 b9
  |false=>
   rw [bF (by simp)]
   revert h7;refine ac λc6 b8 b9=> ?_
   exact bP<|g9 Y j8 c6 K a3 (cO.of a9) h6 h8 b8 b9
 .intro a0 b7 k2 L e8
  subst k2
  rw [MO] at b6
  refine(?_:c8 (.done .next) _)
  rw [<-g2]
  have c9:=a5 j b3
  have C:cs (bh<|x.hide d9) (bh x) i.heap a0 (x.hide d9) x:=⟨λg h A _=>⟨A.1,λr=>A.2<|ff _ r⟩,λg h A v=>L g h (λr=>A.2<|eH _ r) v,λ_ _ v=>v⟩
  exact⟨K,m,b6,c7.leave a5 L e8,b0 _ _ _ _ _ f9 (λB v=>L j B c9 v) C,Hb (e9:={i with heap:=a0,toks:=b7}) (x:=x.hide d9) g0 c2 O O O (cO.of<|aH.refl _ _) L⟩
 .intro u e5 r
  cases u with
  |none=>exact bP r
  |some e6=>exact aJ<|bQ r λ_ j2 r=>r
def on(d:ao)(a:aT)(e:ar)(b:M R):Prop:=∃c:M aa,a.PlainList d c.toArray/\dN a e c b/\R.flats b=X
def om(d:ao)(a:aT)(e:ar)(b:M (I×R)):Prop:=∃c:M (I×aa),a.DictOf (fB aq ap) d c/\iq a e c b/\R.flatd b=X
theorem SR:∀{b:M R} {a:R},R.flats b=X->a.flat=X->R.flats (b++ [a])=X:=by
 intro d
 induction d with
 |nil=>exact @λa _ e=>fp.mpr ⟨e,O⟩
 |cons h b f=>exact @λa c g=>fp.mpr ⟨(fp.mp c).1,f (fp.mp c).2 g⟩
theorem HB(d:∀e∈i1,e∈b.l)(a:ao)(c:bh b a):bh ⟨i1,b.p⟩ a:=⟨λf=>c.1<|d _ f,c.2⟩
theorem Pm(c:aT)(a:ar)(d:M (ag ao))(e:M R)(b:on j c a e)(g:∀b∈d,b∈a.l):on j c ⟨d,a.p⟩ e:= (by(revert b;refine dt λh i k f=> ?_);exact⟨h,i,k.cut (HB g) f,f⟩)
theorem AP(a b:aT)(c d:ar)(e:M R)(g:on j a c e)(h:∀f,a.get? j=Q f->b.get? j=Q f)(i:cs (bh c) (bh d) a b c d):on j b d e:= (by(revert g;refine dt λk l m n=> ?_);exact⟨k,l.at h,m.car i,n⟩)
theorem Ha(g:kC j e.heap i)(k:∃l,i.get? j=Q l):cO j b e b {e with heap:=i,toks:=a}:=
 ⟨ba _,λ_ _=>O,λ_ _ m c=>bD (fO c)<|cq.mpr m,O,λd h f _ c=>(g.2 d f).trans c,λd n=>by
  revert n;refine ay λh c=> ?_;by_cases f:d=j
  .subst f;exact k
  .exact⟨h,(g.2 d f).trans c⟩,O,O,O⟩
theorem KV(k:am b c e)(m:j∈b.p)(l:kC j e.heap i)(n:∃g,i.get? j=Q g)(o:0<a):am b c {e with heap:=i,toks:=a}:=
 k.prvs o (λd t h p=>(l.2 d λf=>h<|f▸m).trans p) λd h=>by
  by_cases f:d=j
  .subst f;exact n
  ·(refine dH (λq q r=> ?_)<|k.prv d h;refine ay (λg s=> ?_)<|r);exact⟨g,(l.2 d f).trans s⟩
theorem Pl(c:aT)(a:ar)(d:M (ag ao))(e:M (I×R))(b:om j c a e)(g:∀b∈d,b∈a.l):om j c ⟨d,a.p⟩ e:= (by(revert b;refine dt λh i k f=> ?_);exact⟨h,i,k.cut (HB g) f,f⟩)
theorem AO(a b:aT)(c d:ar)(e:M (I×R))(g:om j a c e)(h:∀f,a.get? j=Q f->b.get? j=Q f)(i:cs (bh c) (bh d) a b c d):om j b d e:= (by(revert g;refine dt λk l m n=> ?_);exact⟨k,GK l h,m.car i,n⟩)
theorem SO:∀{d:M (I×R)} {b:I} {c:R},R.flatd d=X->c.flat=X->R.flatd (gK d b c)=X:=by
 intro g
 induction g with
 |nil=>exact @λb c _ h=>fp.mpr ⟨h,O⟩
 |cons i d j=>
  obtain⟨k,l⟩:=i
  exact @λb c a e=>by
   have a:=fp.mp a;rw [DG];by_cases f:(k,l).1=b
   .rw [bK f];exact fp.mpr ⟨e,a.2⟩
   .rw [bF f];exact fp.mpr ⟨a.1,j a.2 e⟩
noncomputable def vf(f:Code)(b:cK)(c:bH)(d:aa->Code):cC ek:=do
 let a<-cQ b.iter c
 nC b.iter.pos
 let a<-Aw b.iter c a
 let e<-oP [a] (kI a)
 let _<-runOwn (d e) c
 dj ()
noncomputable def sx(c:aC)(e:M cK)(f:cC ek)(a:N)(g d:aa)(b:bH):cC ek:=match e[a+1]? with
 |some h=>vf (.compLoop c a g d b) h b λi=> .compStart c (a+1) i d b
 |none=>f
noncomputable def BD(a:aC)(b:aa)(c:bH):cC ek:=do let d<-cQ a c;let _<-dF (.builtin "list.append") [b,d];dj ()
set_option backward.match.sparseCases true in
noncomputable def BC(c a:aC)(f:aa)(d:bH):cC ek:=do
 let b<-cQ c d
 let e<-oP [b] (cQ a d)
 match f with
 | .ref g=>do
  nC {c.pos with endLine:=a.pos.endLine,endCol:=a.pos.endCol}
  oP [b,e] (dictSet g b e)
 |_=>unsupported "internal:dictcomp"
structure jI(o:aC)(x:M cK)(Z:aa->bH->cC ek):Prop where
 cls:clausesOf o=x
 quiet:∀c i j h,(wE o c i j h).quiet=X
 nof:∀c i j h,(wE o c i j h).isFrame=ai
 nofs:∀c i j h,(Om o c i j h).isFrame=ai
 un:∀(v:bR) c i j h,v.under (.compLoop o c i j h)=v
 uns:∀(v:bR) c i j h,v.under (.compStart o c i j h)=v
 turn:∀i j h c y,x[c]? =Q y->y.is_async=0->(∀Y,x[c+1]? =Q Y->Y.is_async=0)-> wO o c i j h=tE (.compLoop o c i j h) y.iter.pos y i h (sx o x (Z j h) c i j h)
theorem TV(b:aC)(a:M cK)(c:dJ)(d:bV):jI (.ListComp b a c d) a (BD b) where
 cls:=O
 quiet:=λ_ _ _ _=>O
 nof:=λ_ _ _ _=>O
 nofs:=λ_ _ _ _=>O
 un:=λ_ _ _ _ _=>O
 uns:=λ_ _ _ _ _=>O
 turn:=λk l m e n f g h=>by
  unfold wO tE sx tA vf BD;simp only [f,g]
  cases i:a[e+1]? with
  |none=>rfl
  |some j=>simp only [h j i,bind_assoc,wb];rfl
set_option backward.match.sparseCases true in
theorem TU(b c:aC)(a:M cK)(d:dJ)(e:bV):jI (.DictComp b c a d e) a (BC b c) where
 cls:=O
 quiet:=λ_ _ _ _=>O
 nof:=λ_ _ _ _=>O
 nofs:=λ_ _ _ _=>O
 un:=λ_ _ _ _ _=>O
 uns:=λ_ _ _ _ _=>O
 turn:=λl m n f o g h i=>by
  unfold wO tE sx tA vf BC;simp only [g,h]
  cases j:a[f+1]? with
  |none=>rfl
  |some k=>simp only [i k j,bind_assoc,wb];rfl
theorem GA(b:jI v d0 k3)(i:d0[a]? =Q f7)(j:f7.is_async=0)(l:∀d,d0[a+1]? =Q d->d.is_async=0)(e:sj->al->Prop)(m:aa->al->Prop)(c:al)
 (g:an (az aq ap) f (tE (.compLoop v a k Y p) f7.iter.pos f7 k p<|sx v d0 (k3 Y p) a k Y p) e aB c):
 an (az aq ap) (f.under<|.compLoop v a k Y p) ((az aq ap).den<|.compLoop v a k Y p) e m c:=by
 rw [<-b.turn k Y p a f7 i j l] at g
 rw [b.un]
 refine(?_:an _ f (if(wE v a k Y p).isFrame=X then(wO v a k Y p).onRaise (uv p) else(wO v a k Y p).onRaise (λh=>do Fs h p;theTreesLotGoes h)) _ _ c)
 rw [b.nof,bF jk]
 exact wpAny_noted<|bQ g λ_ _ n=>n
theorem Lj{c:Am->al->Prop}(b:jI v d0 k3)(h:d0[a]? =Q f7)(i:f7.is_async=0)
 (j:qx (az aq ap) f (.compLoop v a k Y p) c e)
 (l:an (az aq ap) f (kI k) (λd g=>qx (az aq ap) f (.compLoop v a d Y p) c g) aB e):
 qx (az aq ap) f (.compStart v a k Y p) c e:=by
 refine codeAny_of_tree ?_
 rw [b.uns]
 refine(?_:an _ f (if(Om v a k Y p).isFrame=X then(Fm v a k Y p).onRaise (uv p) else(Fm v a k Y p).onRaise (λm=>do Fs m p;nC theWindowsPlace)) _ _ e)
 rw [b.nofs,bF jk]
 refine wpAny_notedAt ?_
 unfold Fm
 simp only [b.cls,h,i,Option.elim]
 refine(?_:an _ f (ask>>=_) _ _ e)
 refine aJ<|wpAny_askSetting (wpAny_ite<|Il ?_ ?_)
 .first
   |exact aJ<|bP (bP<|bc O j)
   |exact wpAny_pure<|And.intro rfl j
 .refine aJ<|wX (aJ<|iT (aJ<|bQ l λd g n=>bP<|bc O n))
structure pV(b0:ah)(y:Type)(a2:bR)(o:ao)(b8:bG)(b5:bf)(a3:bH)(i:aT->ar->y->Prop)(emit:aa->bH->cC ek)(b6:y->(y->M G->Prop)->M G->Prop):Prop where
 cut:∀j h a4 c,i j h c->(∀b7∈a4,b7∈h.l)->i j ⟨a4,h.p⟩ c
 car:∀j Y h Z c,i j h c->(∀a5,j.get? o=Q a5->Y.get? o=Q a5)->cs (bh h) (bh Z) j Y h Z->i Y Z c
 emit:∀c a6 a7 v x,b6 c a6 a7->am v a7 x->bp a2 b0 v a3 b5->i x.heap v c->o∈v.p-> an (az aq ap) a2 (emit (.ref o) a3) (λ_ a0=>∃a1 a8 a9,cO o v x a1 a0/\am a1 a8 a0/\i a0.heap a1 a9/\a6 a9 a8) aB x
theorem Tm(w:fJ n a d u)(x:br a d f):pV n (M R) f j u o p (on j) (BD v) (uQ u v o) where
 cut:=Pm
 car:=AP
 emit:=λy a6 a7 a8 a9 z i A B k=>by
  refine aJ<|ez w.E x i A z λD l b E m c q b0 K L=> ?_;refine dH (λP S T=> ?_)<|cz L;have V:=AP (j:=j) _ _ _ _ _ B (λY e=>c.keep j Y (i.prv j k).2.1 e) c.car;have r:j∈b.p:=by rw [c.p];exact k
  revert V;refine dt λZ a0 s a1=> ?_;refine aJ<|Pa a0 (λa2 g h=>bP ?_) (by rw [fv,s.length];exact iA<|dx S);have t:cs (bh b) (bh b) l.heap a2 b b:=cs.prv λa3 m a4 e=>(h.2 a3 λa5=>a4<|a5▸r).trans e;exact⟨b,E,y++ [m],(cO.of c).trans<|Ha (a:=l.toks) h (rj g),KV q r h (rj g) q.tk,⟨Z++ [D],by simpa using g,(s.car t).append<|.cons (K.car t) .nil,SR a1 P⟩,T⟩
theorem Tl(l:fJ n a d u)(m:br a d f):pV n (M<|I×R) f j u o p (om j) (BC v c5) (CM u v c5 o) where
 cut:=Pl
 car:=AO
 emit:=λD b5 b6 b7 b8 E q K L r=>by
  refine aJ<|ez l.E m q K E λb9 c0 c1 c2 P S T V Y Z=>aJ<|fk (ez l.E m T V Z λc3 s b a0 a1 t w c4 a2 e=> ?_);refine ac (λx g e=> ?_)<|gf e;obtain rfl:=g;refine dH (λa3 a4 a5=> ?_)<|cz e;have c:=S.trans t;have a6:=AO (j:=j) _ _ _ _ _ L (λa7 h=>c.keep j a7 (q.prv j r).2.1 h) c.car;have y:j∈b.p:=by rw [c.p];exact r
  revert a6;refine dt λc6 z A a8=> ?_;refine ay (λa9 g=> ?_)<|(t.rel Y).str_inv;obtain rfl:=g;refine aJ<|iT (fk<|dC w.tk (wpAny_dictSet_pairs (sp aq ap x a9) z (λb0 i k b1=> ?_)<|by rw [A.length];exact iA<|dx a4));have B:cs (bh b) (bh b) s.heap b0 b b:=cs.prv λb2 P b3 h=>(k.2 b2 λb4=>b3<|b4▸y).trans h;exact⟨b,a0,gK D x a1,(cO.of c).trans<|Ha (a:=s.toks+1) k (qN i),KV w y k (qN i) b1,⟨_,i,eI.stored (a2.car B) (A.car B)<|GL z,SO a8 a3⟩,a5⟩
theorem Hy(b:iY u v o c l2)(a:aa):Aw v p a=dj a:=Hz b a
theorem HC{i:E->(E->M G->Prop)->M G->Prop}{j:E}{k:E->M G->Prop}:∀{a:M cK},kR u o i a f7 q e1 n j c k->mh n f7.target=X/\gk e1 c:=by
 intro a
 cases a with
 |nil=>exact λb=>(by(refine aA (λd e=> ?_)<|cz b;refine dt (λf g h f=> ?_)<|e);exact⟨d,(h _ _ _ g).1⟩)
 |cons l l=>exact λb=>(by(refine aA (λd e=> ?_)<|cz b;refine dt (λf g h f=> ?_)<|e);exact⟨d,(h _ _ _ g).1⟩)
def Mp(d:Type)(f:ao)(g:bf)(h:aT->ar->d->Prop)(i:d->M G->Prop)(a:ar)(j:al)(k:Am)(b:al):Prop:=match k with
 | .ok _=>∃e c,(i e c/\kj c g.ns=X)/\am a c b/\h b.heap a e/\cO f a j a b
 | .error _=>cn
theorem ZL(c9:ht gl)(d1:∀m,bM.get? m=U->(m==cR)=ai)(L:fJ n a d u)(P:br a d f){t:aT->ar->E->Prop}{a9:E->(E->M G->Prop)->M G->Prop}
 (w:jI v d0 k3) (q:pV n E f j u o p t k3 a9) (S:∀c∈d0,c.is_async=0):
 ∀(b0:M cK) (c:cK) (k:N) (b1:E->M G->Prop) (b2:M R) (b3:eg) (b4:ah) (b5:E) (x:M G) (I:ao) (r:M ao) (b7:N->aT->Prop) (T:ar) (b8:al) (e:ar) (V g:al),
  d0.drop k=c::b0->kR u o a9 b0 c b2 b3 b4 b5 x b1->(∀f9,mh b4 f9=X->mE f f9 I r b3 b2 T b8 b7)->(∀h∈r,V.heap.get? h=U)->(∀h∈e.p,h∉r)->j∈e.p->
  am (e.hide r) x g->bp f n e p o->t g.heap (e.hide r) b5->b7 0 g.heap->cs (bh T) (bh<|e.hide r) b8.heap g.heap T (e.hide r)->cO j e V e g->
  qx (az aq ap) f (.compLoop v k (.ref I) (.ref j) p) (Mp E j o t b1 e V) g:=by
 revert E c9 d1 L P t a9 w q S
 revert f o j a d u n v d0 p k3
 apply U11
 generalize P10 _=j,Q10 _=f,Q9 _=n,Q8 _=p,Q7 _=v,Q6 _=d0,Q5 _=a,Q4 _=d,Q3 _=k3,Q2 _=o,Q1 _=u
 intro E c9 d1 L P t a9 w q S
 intro b0
 induction b0 with
 |nil=>
  intro c k b1 b2 b3 b4 b5 x I r b7 T b8 e V g Y d2 d3 d4 d5 d6 Z d7 d8 d9 e0 e1
  refine aA (λa0 y=> ?_)<|cz d2;refine CD (λJ e2 a1 e3 e4=> ?_)<|y
  have a2:d0[k]? =Q c:=(sV Y).1
  have z:d0[k+1]? =U:=by have:=(sV Y).2;rw [zx];exact List.drop_eq_nil_iff.mp this
  have e5:c.is_async=0:=S c<|jP a2
  refine us (Je (E:=E) t q.cut q.car (w.quiet _ _ _ _) (λe6 e7 g b=>GA w a2 e5 (λA v=>by rw [z] at v;exact aU v) e6 e7 g b) L P a0 (d3 _ a0) d4 d5 d6 J _ x.length (by rw [<-Z.len];rfl) (λB m s b=>(a1 B m s b).1) e3 ?_ e2 Z d7 d8 d9 e0 e1) λu a3 b=> ?_
  .intro B m h2 g0 e8 c0 c1 e9 f0 c2
   unfold sx
   rw [z]
   exact bQ (q.emit _ _ _ _ _ c0 c1 e9 f0 c2) λ_ a4 h3=>(by(revert h3;refine mP λa5 c3 l h4 h5 h6 y=> ?_;refine ac (λh7 f1 f2=> ?_)<|y);exact⟨a5,c3,l,h7,h4,h5,h6,f1,f2⟩)
  .cases u with
   |ok c4=>(revert b;refine dw λl s a6 a7=> ?_);exact⟨l,s,⟨e4 _ _ a6,(a1 _ _ _ a6).2.2⟩,a7⟩
   |error v=>exact b
 |cons A k1 h8=>
  intro c k b1 b2 b3 b4 b5 x I r b7 T b8 e V g Y d2 d3 d4 d5 d6 Z d7 d8 d9 e0 e1
  refine aA (λa0 y=> ?_)<|cz d2;refine CD (λJ e2 a1 e3 e4=> ?_)<|y
  have a2:d0[k]? =Q c:=(sV Y).1
  have g1:=(sV Y).2
  have z:d0[k+1]? =Q A:=(sV g1).1
  have e5:c.is_async=0:=S c<|jP a2
  have g2:A.is_async=0:=S A<|jP z
  refine us (Je (E:=E) t q.cut q.car (w.quiet _ _ _ _) (λe6 e7 g b=>GA w a2 e5 (λk2 v=>by rw [z] at v;(revert v;refine aL λh9=> ?_;subst h9);exact g2) e6 e7 g b) L P a0 (d3 _ a0) d4 d5 d6 J _ x.length (by rw [<-Z.len];rfl) (λB m s b=>(a1 B m s b).1) e3 ?_ e2 Z d7 d8 d9 e0 e1) λu a3 b=> ?_
  .intro B m h2 g0 e8 c0 c1 e9 f0 c2
   unfold sx
   rw [z]
   refine(?_:an _ f (vf _ _ _ _) _ aB e8)
   unfold vf
   refine aJ<|bQ (CX c9 d1 L.E P c1 e9 c0 λk4 k5 i D f3 i0 i1 i2 c5 g3 i3 g4 i4=> ?_) λg5 a4 b=>aJ<|iT (aJ<|wW (Hy c0 g5) (aJ<|fk (bQ b λk6 k7 b=>b)))
   obtain⟨g6,K,i5,c6,f4,i6,i7,f5,c7,c8,f6,i8,i9⟩:=i4
   subst i6 i7
   have j0:j∈i.p:=by rw [c5.p];exact c2
   have j1:∀h∈i.p,h∉K:=λh a8 b=>by(refine dH (λg7 g7 y=> ?_)<|g3.prv h a8;refine ay (λg5 v=> ?_)<|y);rw [c7 h b] at v;exact aU v
   have j2:=q.car _ _ _ _ _ f0 (λf7 v=>c5.keep j f7 (c1.prv j c2).2.1 v) c5.car
   have g8:=(HC g4).1
   have g9:am (i.hide K) f3 {D with heap:=c6,toks:=f4}:=g3.hide i9 c7 c8 λh a8=>(f5 A.target g8).ex _ _ f6 h a8
   have f8:cs (bh i) (bh<|i.hide K) D.heap c6 i (i.hide K):=cs.hide c7 c8
   have j3:=q.car _ _ _ _ _ j2 (λf7 v=>c8 j f7 v) f8
   have j4:=f5 A.target g8
   have j5:=h8 A (k+1) _ i0 i1 i2 m f3 g6 K i5 i D i D {D with heap:=c6,toks:=f4} g1 g4 f5 c7 j1 j0 g9 i3 j3 f6 f8<|cO.of (aH.grow c8)
   have h0:qx (az aq ap) f (.compLoop v (k+1) (.ref g6) (.ref j) p) (λu a3=>match u with
    | .ok c4=>an (az aq ap) f (dj ()) (λ_ a4=>∃a5 c3 l h1,cO j g0 e8 a5 a4/\am a5 c3 a4/\t a4.heap a5 l/\gD x.length c3 h1/\J B l h1) aB a3
    | .error v=>cn) {D with heap:=c6,toks:=f4}:=us j5 λu a3 b=>by
    cases u with
    |error v=>exact b.elim
    |ok c4=>
     revert b;refine gb λl s j6 a7 j7 j8=> ?_;refine aA (λj9 g7=> ?_)<|j6;refine ac (λk0 f1 f2=> ?_)<|j9
     exact bP ⟨i,s,l,k0,(cO.of c5).trans j8,a7,j7,f1,f2⟩
   exact aJ (wpAny_runOwn (us (Lj w z g2 h0<|j4.self (i.hide K) f3 _ 0 _ (λh a8=>eH _ a8) g9 i8 f8 f6 h0) λu a3 b=>by
    cases u with
    |error v=>exact b.elim
    |ok c4=>exact b))
  .cases u with
   |ok c4=>(revert b;refine dw λl s a6 a7=> ?_);exact⟨l,s,⟨e4 _ _ a6,(a1 _ _ _ a6).2.2⟩,a7⟩
   |error v=>exact b
theorem Ws(c:M (I×lE)):∀{d:ar} {b:M G} {a:al} {h:M (I×ao)} {e:M (I×N)},am d b a->eK d h e->
 ∃f,aH d a f {a with heap:=wT a.heap c}/\am f (b++ho c) {a with heap:=wT a.heap c}/\eK f (Fi a.heap.objs.size c h) (gH c b.length e):=by
 induction c with
 |nil=>intro d b a h e g l;exact⟨d,aH.refl d a,(cZ b).symm▸g,l⟩
 |cons s c p=>
  intro d b a h e g l
  obtain⟨i,j⟩:=s
  unfold wT Fi
  cases m:j==oJ with
  |true=>
   rw [bK O,bK O]
   have q:a.heap.get? a.heap.objs.size=U:=fD _<|ba _
   have r:aH d a (d.add a.heap.objs.size) {a with heap:=a.heap.push {cls:= .type "cell",data:= .cell U},toks:=a.toks}:=aH.led q<|hp _ _
   have t:am (d.add a.heap.objs.size) (b++ [.cell U]) {a with heap:=a.heap.push {cls:= .type "cell",data:= .cell U},toks:=a.toks}:=
    g.led g.tk q (hp _ _) (x:= .cell U) (show Heap.IsCell _ _ U from⟨_,gB _ O,O⟩) ⟨_,gB _ O⟩
   obtain⟨f,n,o,k⟩:=p t (h:=(i,a.heap.objs.size)::h) (e:=(i,b.length)::e) ⟨O,g.len▸ar.add_at d _,l.mono λ_ _ u=>r.at u⟩
   refine⟨f,r.trans n,?_,?_⟩
   .refine(?_:am _ (b++(bif j==oJ then .cell U::ho c else ho c)) _)
    rw [m]
    refine(?_:am _ (b++ .cell U::ho c) _)
    rw [List.append_cons];exact o
   .refine(?_:eK f _ (bif j==oJ then gH c (b.length+1) ((i,b.length)::e) else gH c b.length e))
    rw [m]
    refine(?_:eK f _ (gH c (b.length+1) ((i,b.length)::e)))
    rw [bN] at k
    rw [show(Heap.push a.heap {cls:= .type "cell",data:= .cell U}).objs.size=a.heap.objs.size+1 from Fd ..] at k
    exact k
  |false=>
   rw [bF jk,bF jk]
   obtain⟨f,n,o,k⟩:=p g l
   refine⟨f,n,?_,?_⟩
   .refine(?_:am _ (b++(bif j==oJ then .cell U::ho c else ho c)) _);rw [m];exact o
   .refine(?_:eK f _ (bif j==oJ then gH c (b.length+1) ((i,b.length)::e) else gH c b.length e));rw [m];exact k
theorem xw{r:ag ao}{n:ag bH}{u:bH->al->Prop}(s:am b c {e with toks:=a})(x:eK b l0 g8)(v:∀h w t,aH b {e with toks:=a} h {e with heap:=w,toks:=a}->(∀l d,e.heap.get? l=Q d->w.get? l=Q d)->am h (c++ .ns []::ho c8.names) {e with heap:=w,toks:=a}->eK h t (gH c8.names (c.length+1) g8)->h.l[c.length]? =Q (Q e.heap.objs.size)->
 an f8 f (mn b5 wB λ(d:I×aa) (_:zY)=>do Fx (qA c8 e.heap.objs.size j t g r k n a7) d.1 d.2;dj (rN wB)) (λ_ y=>u (qA c8 e.heap.objs.size j t g r k n a7) y) a6 {e with heap:=w}):
 an f8 f (wS c8 j l0 b5 g r k n a7) u a6 e:=by
 revert f8 b c e f a6 a c8 j l0 g8 b5 g r k n a7 u s x v
 apply U18
 generalize P17 _=j,Q17 _=a7,Q16 _=f,Q15 _=l0,Q14 _=g8,Q13 _=b5,Q12 _=f8,Q11 _=a,Q10 _=c8,Q9 _=e,Q8 _=g,Q7 _=k,Q6 _=a6,Q5 _=c,Q4 _=b,Q3 _=r,Q2 _=n,Q1 _=u
 intro s x v
 have D:e.heap.get? e.heap.objs.size=U:=fD _<|ba _
 have E:∀i:aa,i= .type "dict"\/i= .type "frame"->∃h,aH b {e with toks:=a} h {e with heap:=wT (e.heap.push {cls:=i,data:= .dict #[]}) c8.names,toks:=a}/\
  am h (c++ .ns []::ho c8.names) {e with heap:=wT (e.heap.push {cls:=i,data:= .dict #[]}) c8.names,toks:=a}/\
  eK h (Fi (e.heap.push {cls:=i,data:= .dict #[]}).objs.size c8.names l0) (gH c8.names (c.length+1) g8)/\h.l[c.length]? =Q (Q e.heap.objs.size):=λi Y=>by
  have o:aH b {e with toks:=a} (b.add e.heap.objs.size) {e with heap:=e.heap.push {cls:=i,data:= .dict #[]},toks:=a}:=aH.led (e:={e with toks:=a}) D<|hp _ _
  have K:=Heap.Ns.new e.heap i
  have P:am (b.add e.heap.objs.size) (c++ [.ns []]) {e with heap:=e.heap.push {cls:=i,data:= .dict #[]},toks:=a}:=
   s.led s.tk D (hp _ _) (x:= .ns []) ⟨_,K,λd Z S=>by cases S⟩ (lX K)
  obtain⟨h,L,p,q⟩:=Ws c8.names P<|x.mono λ_ _ T=>o.at T
  rw [bN] at q
  rw [eo] at p
  exact⟨h,o.trans L,p,q,L.at<|s.len▸ar.add_at b _⟩
 cases n with
 |none=>
  obtain⟨h,o,p,q,m⟩:=E (.type "frame")<|.inr O
  simp only [wS,NU,lq,mJ]
  refine aJ<|FB (aJ<|OZ _ (λV z t=>by cases A:z==oJ<;>simp [A]) _ _ _ _ ?_)
  exact aJ<|eO (v h _ _ o (λl d m=>OR _ _ l d<|hp _ _ l d m) p q m) (λ_ y B=>bP B) λ_ _ d=>d
 |some a0=>
  obtain⟨h,o,p,q,m⟩:=E (.type "dict")<|.inl O
  simp only [wS,Option.isSome_some,pp]
  refine aJ<|FB (aJ<|OZ _ (λV z t=>by cases A:z==oJ<;>simp [A]) _ _ _ _ ?_)
  exact aJ<|eO (v h _ _ o (λl d m=>OR _ _ l d<|hp _ _ l d m) p q m) (λ_ y B=>bP B) λ_ _ d=>d
def ow(i:kD)(j:bR)(k:ag (aa->cC ek))(g:aa->al->Prop)(h:aa)(b:ao)(l:Am)(c:al):Prop:=match l,k with
 | .error _,_=>cn
 | .ok _,U=>∃d,c.heap.Ns b d/\∀a e,a.Ns b e->kC b c.heap a->g h {c with heap:=a}
 | .ok _,Q m=>an i j (m h) (λ_ f=>∃d,f.heap.Ns b d/\∀a e,a.Ns b e->kC b f.heap a->g .none {f with heap:=a}) aB c
theorem RJ{d:cC aa}
 (i:clausesOf v=f7::d0) (j:∀a,Aw f7.iter p a=dj a) (k:Fj c8 p=dj l0)
 (g:c8.kind= .function) (l:∀a∈c8.names,a.2= .local ->c8.names.lookup a.1=Q .local)
 (m:an f8 f d (λa B=>an f8 f (kI a) (λD E=>an f8 f i3 (λn K=>an f8 f (wS c8 p.globals l0 [] p.qual U .none<|Q p) (λb L=>qx f8 f (.compStart v 0 D n {b with scope:=jv c8 p}) (ow f8 f j6 a6 n b.locals) L) aB K) aB E) aB B) aB e):
 an f8 f (oO v c8 p A i3 ai d j6) a6 aB e:=by
 revert f8 e f p v c8 A i3 d f7 d0 l0 j6 a6 i j k g l m
 apply U14
 generalize P13 _=f,Q13 _=f7,Q12 _=p,Q11 _=v,Q10 _=l0,Q9 _=d0,Q8 _=f8,Q7 _=j6,Q6 _=A,Q5 _=c8,Q4 _=i3,Q3 _=e,Q2 _=a6,Q1 _=d
 intro i j k g l m
 unfold oO
 rw [k,i]
 refine aJ<|bQ m λa B P=>aJ<|iT (aJ<|wW (j a) (aJ<|fk (bQ P λD E S=>wpAny_standIf<|aJ (bQ S λn K T=>aJ<|bP (aJ<|bQ T λb L V=> ?_)))))
 dsimp only
 have o:∀a∈(c8.names.filter λa=>(a.2== .local ||a.2== .cell)&&a.1 !=(".0":I)).reverse,a.2= .local ->
  jW {b with scope:=jv c8 p} a.1=Q .local :=λa q h=>lookup_relabel_local<|l a (rX.mp<|Nn.mp q).1 h
 have Y:∀a∈(c8.names.filter λa=>(a.2== .local ||a.2== .cell)&&a.1 !=(".0":I)).reverse.drop 1++(c8.names.filter λa=>(a.2== .local ||a.2== .cell)&&a.1 !=(".0":I)).reverse.take 1,
  a.2= .local ->jW {b with scope:=jv c8 p} a.1=Q .local :=λa q h=>by
  obtain r|r:=dQ.mp q
  .exact o a (List.mem_of_mem_drop r) h
  .exact o a (ql r) h
 refine fk<|aJ (OW<|fk (wpAny_run<|us V λZ a0 c=> ?_))
 cases Z with
 |ok a2=>
  cases j6 with
  |none=>
   revert c;refine ac λs t c=> ?_
   exact aJ<|fk (OX (cenv:={b with scope:=jv c8 p}) g _ a0 s o t λu w x y=>bP<|c u w x y)
  |some a3=>
   refine aJ<|wX (aJ<|fk (bQ c λ_ a1 z=> ?_))
   revert z;refine ac λs t z=> ?_
   exact aJ<|OX (cenv:={b with scope:=jv c8 p}) g _ a1 s Y t λu w x y=>bP<|z u w x y
 |error a=>cases j6<;>exact c.elim
theorem WD{d:I->lE->lE}:∀{a:M (I×lE)},a.lookup g=U->(a.map λc=>(c.1,d c.1 c.2)).lookup g=U:=by
 intro a
 induction a with
 |nil=>exact λ_=>O
 |cons e i f=>
  obtain⟨j,k⟩:=e
  exact λb=>by
   rw [ee] at b;rw [da,ee];split at b
   .exact rr b
   .next h=>rw [h];exact f b
theorem Ke(d:c8.names.lookup g=U):(jv c8 p).names.lookup g=U:=by
 have e:(jv c8 p).names=c8.names.map λc=>(c.1,(λb a=>if(a==wH&&p.scope.kind== .function&&p.kindOf b==Q .cell)=X then oJ else a) c.1 c.2):=by
  unfold jv;apply qi;intro f _;obtain⟨b,a⟩:=f
  dsimp only;split<;>rfl
 rw [e];exact WD (d:=λb a=>if(a==wH&&p.scope.kind== .function&&p.kindOf b==Q .cell)=X then oJ else a) d
structure uz(c:dJ):Prop where
 kind:c.kind= .function
 loc:∀h∈c.names,h.2= .local ->c.names.lookup h.1=Q .local
 d1:c.names.lookup ("__debug__":I)=U
 d2:c.names.lookup ("__classdict__":I)=U
theorem ab3(a:Db c8=X):uz c8:=by
 unfold Db at a;simp only [eJ,fX,hH,uh,mG,pS] at a;revert a;refine aA λc d=> ?_;refine aA (λe f=> ?_)<|c;refine aA (λg h=> ?_)<|e;refine⟨g,λi j k=> ?_,f,d⟩;obtain b|b:=h i j
 .exact bD k b
 .exact b
structure gL(j:Type)(a0:ao->aT->ar->j->Prop)(h:ar)(Y:al)(a1:N->j->M G->Prop)(i C:ao)(c:ar)(o:M G)(Z:j)(x:N)(y:al):Prop where
 np:i∉h.p
 nd:Y.heap.get? i=U
 at_:c.l[x]? =Q (Q C)
 p:c.p=i::h.p
 k:a1 x Z o
 ns:kj o x=X
 sim:am c o y
 acc:a0 i y.heap c Z
 ext:aH h Y ⟨c.l,h.p⟩ y
def oA(p:ah)(q:bG)(b:bR)(f:bH)(g:bf)(r:ar)(s:M G)(h:al)(t:M cK):Prop:=
 ∀d u,t=d::u->∀{i:M R->eg->ah->M G->Prop},iY q d.iter g s i->∀{j:aa->al->Prop},
  (∀k l c a e m n o,aH r h c a->am c e a->bp b p c f g->i m n o e->uy b c a e n o m k l->j k l)->
  an (az aq ap) b (cQ d.iter f) (λv a=>an (az aq ap) b (kI v) j aB a) aB h
theorem xS(h:ht gl)(i:∀g,bM.get? g=U->(g==cR)=ai)(j:fJ n a d u)(k:br a d f)(l:am b c e)(m:bp f n b p o): oA n u f p o b c e d0:=λs t _ _ q _ r=>CX h i j.E k l m q r
theorem Kw(b8:ht gl)(b9:∀k,bM.get? k=U->(k==cR)=ai)(c0:fJ n a d u)(c1:br a d f)(c2:bp f n b p o)(c3:oA n u f p o b c e d0)
 {b1:bf->E->(E->M G->Prop)->M G->Prop} (a7:jI v d0 k3) (a2:ao->aT->ar->E->Prop) (a3:E) (q:iR) (c4:∀(a6:aa->al->Prop) (e:al),a6 (.ref e.heap.objs.size) {e with heap:=e.heap.push q}->an (az aq ap) f i3 a6 aB e)
 (b2:q.isFreed=ai) (c5:∀g x b,x.get? g=Q q->a2 g x b a3) (c6:∀g g6 e7,pV n E f g u e7 g6 (a2 g) k3 (b1 e7)) {T:N->E->M G->Prop}
 (x:xl u d0 c8 o c (λo V B g7 c7 c9 c T=>kR u o (b1 o) V B g7 c7 c9 a3 c T) T)
 (d1:∀g C l D d2 d Y,gL E a2 b e T g C l D d2 d Y->ow (az aq ap) f j6 a6 (.ref g) C (.ok .next) Y):
 an (az aq ap) f (oO v c8 p A i3 ai (qy d0 p) j6) a6 aB e:=by
 revert E b8 b9 c0 c1 c2 c3 b1 a7 a2 a3 c4 b2 c5 c6 T x d1
 revert b c e f p o a d u n v d0 c8 A k3 q i3 j6 a6
 apply U19
 generalize P18 _=f,Q18 _=n,Q17 _=p,Q16 _=v,Q15 _=d0,Q14 _=a,Q13 _=d,Q12 _=j6,Q11 _=A,Q10 _=c8,Q9 _=i3,Q8 _=e,Q7 _=k3,Q6 _=a6,Q5 _=c,Q4 _=b,Q3 _=o,Q2 _=u,Q1 _=q
 intro E b8 b9 c0 c1 c2 c3 b1 a7 a2 a3 c4 b2 c5 c6 T x d1
 cases d0 with
 |nil=>exact x.elim
 |cons B V=>
  refine aA (λr x=> ?_)<|cz x
  refine ac (λg8 d3 x=> ?_)<|cF x
  refine aA (λr g9=> ?_)<|fp.mp r
  refine aA (λh0 h1=> ?_)<|fp.mp r
  obtain⟨e9,h2,h3,h4⟩:=ab3 h0
  have f0:B.is_async=0:=hd h1
  have h5:∀d4∈B::V,d4.is_async=0:=λd4 h6=>by
   obtain v|v:=bO.mp h6
   .subst v;exact f0
   .exact hd<|hH.mp g9 d4 v
  refine ac (λh7 h8 h9=> ?_)<|Gv c2.cells d3
  have i0:qy (B::V) p=cQ B.iter p:=by cases B;rfl
  rw [i0]
  refine RJ (f7:=B) (d0:=V) a7.cls (Hy x) h8 e9 h2<|c3 B V O x λm2 m3 l s D i1 c7 c9 y d5 a4 f1 i2=> ?_
  obtain⟨I,t,f3,w,L,P,d6,f4,b3,a8,f5,m4,f6⟩:=i2
  subst P d6
  refine aA (λi4 i5=> ?_)<|HC f1
  have d7:=f4 B.target i4
  have f7:∀h∈t,∃q,w.get? h=Q q:=λh r=>d7.ex _ _ f5 h r
  have i6:am (l.hide t) D {s with heap:=w,toks:=L}:=d5.hide f6 b3 a8 f7
  refine c4 _ _ ?_
  have b4:w.get? w.objs.size=U:=fD _<|ba _
  have d8:=am.hide (d9:=[w.objs.size]) (i:=w.push q) i6 f6 (λk Z=>by rw [bU] at Z;subst Z;exact b4) (hp _ _) λk Z=>by rw [bU] at Z;subst Z;exact⟨_,gB _ b2⟩
  have d9:am ⟨l.l,t++(w.objs.size::l.p)⟩ D {s with heap:=w.push q,toks:=L}:=am.unhide (b:=(l.hide t).hide [w.objs.size]) (d9:=t++(w.objs.size::l.p)) d8 λk Z=>by
   obtain j|j:=dQ.mp Z
   .exact ff _<|eH _ j
   .obtain j|j:=bO.mp j
    .subst j;exact eH _<|bU.mpr O
    .exact ff _<|ff _ j
  have e0:(w.push q).get? w.objs.size=Q q:=gB _ b2
  have a9:∀h i,w.get? h=Q i->(w.push q).get? h=Q i:=hp _ _
  generalize w.push q=S at d9 e0 a9 d8 ⊢
  generalize w.objs.size=g at d9 e0 b4 d8 ⊢
  refine(?_:an _ f (wS c8 p.globals h7 [] p.qual U .none<|Q p) _ aB {s with heap:=S,toks:=L})
  refine xw (e:={s with heap:=S,toks:=L}) (a:=L) d9 (h9.mono (μ':=⟨l.l,t++(g::l.p)⟩) λ_ _ x=>y.at x) λi7 K e1 a0 e2 i8 i9 f8=>bP ?_
  obtain⟨m,j0⟩:=i7
  have j1:j0=t++(g::l.p):=a0.p
  subst j1
  have b5:s.heap.get? g=U:=by
   cases j:s.heap.get? g with
   |none=>rfl
   |some i=>have:=a8 g i j;rw [b4] at this;exact aU this
  have e3:∀h i,s.heap.get? h=Q i->K.get? h=Q i:=λh i v=>e2 h i<|a9 h i (a8 h i v)
  have j2:g∉t:=λj=>by refine ay (λq v=> ?_)<|f7 g j;rw [b4] at v;exact aU v
  have j3:∀h∈l.p,h∉t:=λh r j=>by(refine dH (λe4 e4 e5=> ?_)<|d5.prv h r;refine ay (λi v=> ?_)<|e5);rw [b3 h j] at v;exact aU v
  have j4:∀h∈(⟨m,g::l.p⟩:ar).p,h∉t:=λh r=>by
   obtain rfl|r:=bO.mp r
   .exact j2
   .exact j3 h r
  have f9:f3 0 K:=d7.frame 0 w K f5 λh r q v=>e2 h q<|a9 h q v
  have g0:∀k i,Q k∉l.l->s.heap.get? k=Q i->Q k∉m:=λk i b6 v=>a0.nl b6<|a9 k i (a8 k i v)
  have e6:∀(z:N) (k:ao),l.l[z]? =Q (Q k)->m[z]? =Q (Q k):=λz k v=>a0.at v
  have g1:cs (bh l) (bh<|(⟨m,g::l.p⟩:ar).hide t) s.heap K l ((⟨m,g::l.p⟩:ar).hide t):=⟨λk i b6 v=>⟨g0 k i b6.1 v,λj=>by
   obtain j|j:=dQ.mp j
   .rw [b3 k j] at v;exact aU v
   .obtain j|j:=bO.mp j
    .subst j;rw [b5] at v;exact aU v
    .exact b6.2 j⟩,λk i _ v=>e3 k i v,e6⟩
  have j5:cO g (⟨m,g::l.p⟩:ar) s ⟨m,g::l.p⟩ {s with heap:=K,toks:=L}:=
   ⟨ba _,λ_ _=>O,λ_ _ a5 v=>bD (fO v)<|cq.mpr a5,O,λh i _ _ v=>e3 h i v,λh j7=>(by(revert j7;refine ay λi v=> ?_);exact⟨i,e3 h i v⟩),O,O,O⟩
  have j8:bp f n (⟨m,g::l.p⟩:ar) {qA c8 (wG S).size p.globals e1 p.qual U .none (Q p) p.builtins with scope:=jv c8 p} (GB o c8 D.length<|gH c8.names (D.length+1) g8):=by
   refine⟨(λb0=>(by refine gb (λp j9 k0 k1 k2 K=> ?_)<|(a4.top b0).ex;exact⟨p,j9,k0,k1,k2,e6 _ _ K⟩)),?_,e9,f8,eK.mono (b:=⟨m,t++(g::l.p)⟩) (μ':=⟨m,g::l.p⟩) (λ_ _ x=>x) i9,a4.gl,a4.bl,Ke h3,Ke h4,a4.q,λk4 k5=> ?_⟩
   .refine(?_:jv c8 p=jv c8 (gn o.scope));unfold jv jW gn;rw [a4.sc]
   .refine dd (λk6 k7 P d6 d3=> ?_)<|a4.ct k4 k5;exact⟨k6,k7,P,e6 _ _ d6,d3⟩
  have k8:a2 g K ((⟨m,g::l.p⟩:ar).hide t) a3:=c5 _ _ _<|e2 _ _ e0
  have g2:am ((⟨m,g::l.p⟩:ar).hide t) (D++ .ns []::ho c8.names) {s with heap:=K,toks:=L}:=i8
  have k9:∀z k,b.l.length<=z->m[z]? =Q (Q k)->e.heap.get? k=U:=λz k a5 v=>by
   by_cases g3:z<l.l.length
   .exact y.new z k a5<|(a0.pre z g3).symm.trans v
   .cases j:e.heap.get? k with
    |none=>rfl
    |some i=>
     refine ay (λb0 b7=> ?_)<|y.live k ⟨i,j⟩
     have l0:=a0.new z k (cq.mp g3) v
     have g4:=a9 k b0<|a8 k b0 b7
     rw [show S.get? k=U from l0] at g4;exact aU g4
  have l1:∀{Y},cO g (⟨m,g::l.p⟩:ar) s ⟨m,g::l.p⟩ Y->∀h i,Q h∉b.l->e.heap.get? h=Q i->Y.heap.get? h=Q i:=λa1 h i r v=>by have P:=y.keep h i r v;exact a1.keep h i (λj=>by subst j;rw [b5] at P;exact aU P) (g0 h i (y.nl r v) P) P
  have l2:=ZL (j:=g) b8 b9 c0 c1 a7 (c6 g _ _) (p:={qA c8 (wG S).size p.globals e1 p.qual U .none (Q p) p.builtins with scope:=jv c8 p}) h5 V B 0 (T D.length) i1 c7 c9 a3 (D++ .ns []::ho c8.names) I t f3 l s ⟨m,g::l.p⟩ s {s with heap:=K,toks:=L}
   O f1 f4 b3 j4 (rW ..) g2 j8 k8 f9 g1 j5
  have g5:qx (az aq ap) f (.compLoop v 0 (.ref I) (.ref g) {qA c8 (wG S).size p.globals e1 p.qual U .none (Q p) p.builtins with scope:=jv c8 p}) (ow (az aq ap) f j6 a6 (.ref g) (wG S).size) {s with heap:=K,toks:=L}:=by
   refine us l2 λu Y j=> ?_
   cases u with
   |error v=>exact j.elim
   |ok m5=>
    revert j;refine gb λd2 l3 l4 l5 l6 a1=> ?_;refine aA (λl7 l8=> ?_)<|l4;have l9:g∉b.p:=λj=>by rw [<-y.p] at j;(refine dH (λe4 e4 e5=> ?_)<|d5.prv g j;refine ay (λi v=> ?_)<|e5);rw [b5] at v;exact aU v
    have m0:e.heap.get? g=U:=by
     cases j:e.heap.get? g with
     |none=>rfl
     |some i=>refine ay (λb0 b7=> ?_)<|y.live g ⟨i,j⟩;rw [b5] at b7;exact aU b7
    have m1:=d1 g (wG S).size ⟨m,g::l.p⟩ l3 d2 D.length Y ⟨l9,m0,f8,bq (g:: ·) y.p,l7,l8,l5,l6,
     ⟨aK y.le a0.le,λz a5=>(a0.pre z<|ij a5 y.le).trans<|y.pre z a5,k9,O,l1 a1,λh v=>a1.live h<|y.live h v,a1.gens.trans y.gens,a1.drawn.trans y.drawn,a1.os.trans y.os⟩⟩
    cases j6<;>exact m1
  exact Lj a7 O f0 g5<|d7.self ((⟨m,g::l.p⟩:ar).hide t) (D++ .ns []::ho c8.names) _ 0 _ (λh r=>eH _ r) g2 i5 g1 f9 g5
theorem Ij(d:kj c a=X):∃e,c[a]? =Q (.ns e):=by refine ay (λf b=> ?_)<|NT.mp d;refine ac (λh g b=> ?_)<|eY b;cases yj b;exact⟨f,g⟩
theorem am.adopt(d:am ⟨i1,j::d9⟩ c e)(q:j∉d9)(r:ew e.heap ⟨i1++ [Q j],d9⟩ j b9):am ⟨i1++ [Q j],d9⟩ (c++ [b9]) e:=by
 revert c e j i1 d9 b9 d q r;apply U6;generalize P5 _=j,Q5 _=i1,Q4 _=d9,Q3 _=e,Q2 _=c,Q1 _=b9;intro d q r;refine dH (λw u x=> ?_)<|d.prv j (rW ..)
 have y:cs (bh ⟨i1,j::d9⟩) (bh ⟨i1++ [Q j],d9⟩) e.heap e.heap ⟨i1,j::d9⟩ ⟨i1++ [Q j],d9⟩:=by
  refine⟨λf b9 o _=>⟨λa=> ?_,λa=>o.2<|ub _ a⟩,λ_ _ _ k=>k,λi f k=> ?_⟩
  .obtain a|a:=dQ.mp a
   .exact o.1 a
   .rw [bU] at a;(revert a;refine aL λb=> ?_;subst b);exact o.2<|rW ..
  .refine(?_:(i1++ [Q j])[i]? =_);rw [jM (fq.mp k).1];exact k
 have s:i1.length=c.length:=d.len;refine⟨by simp [s],λi z f t p=> ?_,λi f A t p=> ?_,d.base,λi f k=> ?_,λi f k=> ?_,λf v=> ?_,d.tk⟩
 .obtain⟨_,g⟩|⟨m,g⟩:=iX t<;>obtain⟨_,h⟩|⟨B,h⟩:=iX p
  .exact d.inj i z f g h
  ·(revert h;refine aL λb=> ?_;subst b);exact bD (jP g) u
  ·(revert g;refine aL λb=> ?_;subst b);exact bD (jP h) u
  .exact m.trans B.symm
 .obtain⟨m,g⟩|⟨m,g⟩:=iX t
  .obtain⟨_,h⟩|⟨n,_⟩:=iX p
   .exact(d.mo i f A g h).car y λ_ o=>o
   .exact bD m<|by exact cp (.q 1 C J<|.p 1 (aj+1) C (.f 1 aj J .z)) (bk _ _ _) O s m n
  ·(revert g;refine aL λb=> ?_;subst b)
   obtain⟨n,_⟩|⟨_,h⟩:=iX p
   .exact bD n<|by exact cp (.f 1 C J<|.f 1 aj C (.p 1 (aj+1) J .z)) (bk _ _ _) O s m n
   .subst h;exact r
 .obtain⟨_,l⟩|⟨_,l⟩:=iX k
  .exact d.out i f l
  ·(revert l;refine aL λb=> ?_;subst b);exact w
 .obtain⟨_,l⟩|⟨_,l⟩:=iX k
  .exact d.ex i f l
  ·(revert l;refine aL λb=> ?_;subst b);exact x
 .refine dH (λg h n=> ?_)<|d.prv f (ub _ v)
  refine⟨g,λa=> ?_,n⟩;obtain a|a:=dQ.mp a
  .exact h a
  .rw [bU] at a;(revert a;refine aL λb=> ?_;subst b);exact q v
theorem aH.snoc(a:aH b e ⟨i1,b.p⟩ S)(g:e.heap.get? j=U):aH b e ⟨i1++ [Q j],b.p⟩ S:=
 ⟨aK a.le<|by simp,λd c=>(jM<|ij c a.le).trans<|a.pre d c,λd h c i=>by
  obtain⟨_,f⟩|⟨_,f⟩:=iX i
  .exact a.new d h c f
  ·(revert f;refine aL λk=> ?_;subst k);exact g,O,a.keep,a.live,a.gens,a.drawn,a.os⟩
structure lu(Y:Type)(y:ao->aT->ar->Y->Prop)(a1:Y->R)(a2:N->Y->G):Prop where
 car:∀c j Z o i h,y c j o h->(∀a0,j.get? c=Q a0->Z.get? c=Q a0)->cs (bh o) (bh i) j Z o i->y c Z i h
 frz:(∀h,bM.get? h=U->(h==cR)=ai)->∀c j o i h,y c j o h->bM.get? c=U->(∀v,bh o v->bh i v)->bh i c->aR j i (.ref c) (a1 h)
 led:∀c j o i h,y c j o h->(∀v,bh o v->bh i v)->∃a3,ew j i c (a2 a3 h)
theorem GS:lu (M R) (on) .lst (λ_ f=> .list f) where
 car:=λ_=>AP
 frz:=λ_ g h i j k ⟨e,a,b,c⟩ _ d l=> .lst l a<|b.cut d c
 led:=λg h i j k ⟨e,a,b,c⟩ d=>⟨0,e,a,b.cut d c⟩
theorem GR:lu (M<|I×R) (om) .dct (λa h=> .dict a h) where
 car:=λ_=>AO
 frz:=λi f j k l m ⟨g,b,c,d⟩ n e o=> .dct o (i f n) b<|c.cut e d
 led:=λf j k l m ⟨g,b,c,d⟩ e=>(by refine ay (λa p=> ?_)<|xr b;exact⟨a,g,p,c.cut e d⟩)
theorem HM{k:ao->aT->ar->E->Prop}{l:E->R}{u:N->E->G}{o:E}(h:∀a,bM.get? a=U->(a==cR)=ai)(i:lu E k l u)(d:x.p=j::b.p)(v:e.heap.get? j=U)(m:j∉b.p)(f:am x c S)(n:k j S.heap x o):
 am ⟨x.l,b.p⟩ c S/\aR S.heap ⟨x.l,b.p⟩ (.ref j) (l o):=by
 have p:j∈x.p:=by rw [d];exact rW ..
 refine dH (λq r w=> ?_)<|f.prv j p
 exact⟨f.unhide λa s=>by rw [d];exact ub _ s,i.frz h j _ _ _ _ n q (λy g=>⟨g.1,λt=>g.2<|by rw [d];exact ub _ t⟩) ⟨r,m⟩⟩
theorem HN{l:ao->aT->ar->E->Prop}{v:E->R}{m:N->E->G}{p:E}(k:lu E l v m)(d:x.p=j::b.p)(n:j∉b.p)(h:am x c e)(o:l j e.heap x p):
 ∃f,am ⟨x.l++ [Q j],b.p⟩ (c++ [m f p]) e/\aR e.heap ⟨x.l++ [Q j],b.p⟩ (.ref j) (.loc c.length):=by
 have q:j∈x.p:=by rw [d];exact rW ..
 obtain⟨i,r⟩:=x
 have d:r=j::b.p:=d
 subst d
 obtain⟨f,s⟩:=k.led j _ _ ⟨i++ [Q j],b.p⟩ _ o λw g=>⟨λa=>by
  obtain a|a:=dQ.mp a
  .exact g.1 a
  .rw [bU] at a;(revert a;refine aL λt=> ?_;subst t);exact g.2 q,λa=>g.2<|ub _ a⟩
 have u:i.length=c.length:=h.len
 exact⟨f,am.adopt h n s,.loc<|by rw [<-u];simp⟩
theorem gL.left{n:ao->aT->ar->E->Prop}{D:E->R}{K:N->E->G}{L:N->E->M G->Prop}{r:E}(q:lu E n D K)(d:gL E n b e L j a7 x c r a S):∃h,S.heap.Ns a7 h/\∀f i,f.Ns a7 i->kC a7 S.heap f->
 am x (mR c a) {S with heap:=f}/\n j f x r/\aH b e ⟨x.l,b.p⟩ {S with heap:=f}:=by
 refine ay (λP s=> ?_)<|Ij d.ns
 refine ac (λh t o=> ?_)<|d.sim.mo _ _ _ d.at_ s
 refine⟨h,t,λf i g p=> ?_⟩
 have k:∀l m,l≠a7->S.heap.get? l=Q m->f.get? l=Q m:=iF p
 have u:j∈x.p:=by rw [d.p];exact rW ..
 refine dH (λo v o=> ?_)<|d.sim.prv j u
 have w:j≠a7:=λy=>v<|y▸iZ d.at_
 exact⟨d.sim.upd (n:=S.toks) d.sim.tk d.at_ k (x:= .ns []) ⟨i,g,λm T z=>by exact aU z⟩<|lX g,q.car j _ _ _ _ _ d.acc (λA B=>k j A w B)<|oj (e:=S) d.at_ p (lX g),d.ext.trans<|aH.upd (b:=⟨x.l,b.p⟩) (n:=S.toks) d.at_ k (lX g)⟩
theorem GQ{w:ao->aT->ar->E->Prop}{y:E->R}{z:N->E->G}{V:E}(v:∀o,bM.get? o=U->(o==cR)=ai)(g:lu E w y z)(d:gL E w b e (λh p i=>eQ n (∀k,s (.loc (mR i h).length) (mR i h++ [z k p]))<|s (y p) (mR i h)) j a7 x c V a S):
 ow (az aq ap) f U (bg b e s) (.ref j) a7 (.ok .next) S:=by
 refine ac (λA B D=> ?_)<|d.left g
 refine⟨A,B,λK L P T=> ?_⟩
 refine dH (λq r t=> ?_)<|D K L P T
 have u:=d.k
 cases n with
 |false=>
  refine aA (λl m=> ?_)<|HM v g d.p d.nd d.np q r
  exact⟨⟨x.l,b.p⟩,_,_,t,l,m,u⟩
 |true=>
  refine ac (λk l m=> ?_)<|HN g d.p d.np q r
  exact⟨_,_,_,t.snoc d.nd,l,m,u k⟩
theorem IX(p:aH b e x S)(f:am x c S)(g:x.l[a]? =Q (Q j))(h:rI Z a c):
 ∃i,S.heap.Ns j i/\∀d k,d.Ns j k->kC j S.heap d->dV b e Z .next {S with heap:=d}:=by
 refine aA (λq h=> ?_)<|cz h
 refine ay (λv r=> ?_)<|Ij q
 refine ac (λi s w=> ?_)<|f.mo _ _ _ g r
 refine⟨i,s,λd k l t=> ?_⟩
 have o:∀m n,m≠j->S.heap.get? m=Q n->d.get? m=Q n:=iF t
 exact⟨x,_,.next,p.trans<|aH.upd (n:=S.toks) g o (lX l),f.upd (n:=S.toks) f.tk g o (x:= .ns []) ⟨k,l,λn y u=>by exact aU u⟩<|lX l,eG,h⟩
theorem Si{w:ao->aT->ar->E->Prop}{y:E->R}{V:N->E->G}{Y:E}(l:∀h,bM.get? h=U->(h==cR)=ai)(m:ej n a d u.E)(q:br a d f)(r:bp f n b p o)(s:lu E w y V)
 (g:gL E w b e (λd z A=>kN u v (y z) o A<|rI Z d) j a7 x c Y t S):
 ow (az aq ap) f (Q λB=>nt v p B) (λ_ i=>dV b e Z .next i) (.ref j) a7 (.ok .next) S:=by
 refine aA (λD K=> ?_)<|HM l s g.p g.nd g.np g.sim g.acc
 refine bQ (vE m q D (r.ext g.ext) K g.k) λ_ i L=> ?_
 obtain⟨a0,a1,k,P,T⟩:=L
 exact IX (g.ext.trans k) P (k.at (μ:=⟨x.l,b.p⟩) g.at_) T
theorem Sj{y:ao->aT->ar->E->Prop}{V:E->R}{z:N->E->G}{Y:E}(q:ej n a d u.E)(r:br a d f)(s:bp f n b p o)(w:lu E y V z)
 (g:gL E y b e (λd A i=>∀h,kN u v (.loc i.length) o (i++ [z h A]) (rI Z d)) j a7 x c Y t S):
 ow (az aq ap) f (Q λB=>nt v p B) (λ_ k=>dV b e Z .next k) (.ref j) a7 (.ok .next) S:=by
 refine ac (λh D K=> ?_)<|HN w g.p g.np g.sim g.acc
 have l:=g.ext.snoc g.nd
 refine bQ (vE q r D (s.ext l) K<|g.k h) λ_ k L=> ?_
 obtain⟨a0,a1,m,P,T⟩:=L
 exact IX (l.trans m) P (m.at (μ:=⟨x.l++ [Q j],b.p⟩)<|by refine(?_:(x.l++ [Q j])[t]? =_);rw [jM (fO g.at_)];exact g.at_) T
theorem gL.imp{g:ao->aT->ar->E->Prop}{h i:N->E->M G->Prop}{f:E}(d:gL E g b e h j a7 x c f a S)(k:h a f c->i a f c):gL E g b e i j a7 x c f a S:= ⟨d.np,d.nd,d.at_,d.p,k d.k,d.ns,d.sim,d.acc,d.ext⟩
theorem xm{d:bf->M cK->cK->M R->eg->ah->M G->(E->M G->Prop)->Prop}{e:N->E->M G->Prop}(f:xl u d0 c8 o c d e):wP d0=ai:=by
 cases d0 with
 |nil=>rfl
 |cons g i=>
  refine aA (λa b=> ?_)<|cz f;refine aA (λa b=> ?_)<|fp.mp a;refine aA (λb a=> ?_)<|fp.mp a;obtain⟨j,k,l,h⟩:=g
  have a:h=0:=hd a;subst a;rfl
theorem Ky(z:ht gl)(B:∀a,bM.get? a=U->(a==cR)=ai)(t:fJ n a d u)(w:br a d f)(D:bp f n b p o){h:N->M R->M G->Prop}(l:oA n u f p o b c e d0)(i:sB u v d0 c8 o c h)
 (m:∀g j q r s d k,gL (M R) (on) b e h g j q r s d k->ow (az aq ap) f j6 a6 (.ref g) j (.ok .next) k):
 an (az aq ap) f (oO (.ListComp v d0 c8 A) c8 p e4 (Fq []) ai (qy d0 p) j6) a6 aB e:=
 Kw z B t w D l (TV v d0 c8 A) (on) [] {cls:= .type "list",data:= .seq ([]:M aa).toArray} (λa6 e x=>AF x<|cy _) O (λg i b y=>⟨[],⟨_,y⟩,.nil,O⟩) (b1:=λo=>uQ u v o) (λg E K=>Tm t w) i m
theorem Kx(B:ht gl)(D:∀a,bM.get? a=U->(a==cR)=ai)(t:fJ n a d u)(w:br a d f)(E:bp f n b p o){h:N->M (I×R)->M G->Prop}(l:oA n u f p o b c e d0)(i:uL u v c5 d0 c8 o c h)
 (m:∀g j q r s d k,gL (M<|I×R) (om) b e h g j q r s d k->ow (az aq ap) f j6 a6 (.ref g) j (.ok .next) k):
 an (az aq ap) f (oO (.DictComp v c5 d0 c8 A) c8 p e4 Ax ai (qy d0 p) j6) a6 aB e:=
 Kw B D t w E l (TU v c5 d0 c8 A) (om) [] {cls:= .type "dict",data:= .dict #[]} (λa6 e x=>by simp only [Ax,newObj];exact aJ<|FB (bP x)) O (λg i b y=>⟨[],⟨_,#[],0,y,⟨O,O,O⟩,O,λ_ z=>by simp at z,Pairs.nil,oD⟩,.nil,O⟩) (b1:=λo=>CM u v c5 o) (λg K L=>Tl t w) i m
theorem Kt(q:ht gl)(l:∀a,bM.get? a=U->(a==cR)=ai)(r:fJ h5 a d u)(t:br a d f)(w:bp f h5 b p o)(i:oA h5 u f p o b c e d0)
 (g:sB u v d0 c8 o c λd j k=>sX n j (mR k d) s):
 an (az aq ap) f (cQ (.ListComp v d0 c8 A) p) (bg b e s) aB e:=by
 refine(?_:an _ f (oO (.ListComp v d0 c8 A) c8 p (Av d0 A) (Fq []) (wP d0)<|qy d0 p) _ aB e)
 rw [xm g]
 exact Ky q l r t w i g λx y z B D E K m=>GQ l GS (n:=n) (m.imp λh=>by
  cases n with
  |false=>exact h
  |true=>exact λ_=>h)
theorem Zo(j:ht gl)(k:∀a,bM.get? a=U->(a==cR)=ai)(l:fJ h5 a d u)(m:br a d f)(q:bp f h5 b p o)(r:am b c e)
 (g:sB u v d0 c8 o c λd h i=>sX n h (mR i d) s):
 an (az aq ap) f (cQ (.ListComp v d0 c8 A) p) (bg b e s) aB e:=Kt j k l m q (xS j k l m r q) g
theorem Zi(k:ht gl)(h:∀a,bM.get? a=U->(a==cR)=ai)(l:fJ h5 a d u)(m:br a d f)(q:bp f h5 b p o)(w:am b c e)
 (g:uL u v c5 d0 c8 o c λd i j=>Bt n i (mR j d) s):
 an (az aq ap) f (cQ (.DictComp v c5 d0 c8 A) p) (bg b e s) aB e:=by
 refine(?_:an _ f (oO (.DictComp v c5 d0 c8 A) c8 p (Av d0 A) Ax (wP d0)<|qy d0 p) _ aB e)
 rw [xm g]
 exact Kx k h l m q (xS k h l m w q) g λx y z B D E K r=>GQ h GR (n:=n)<|r.imp λt=>t
theorem Ze{h:M lD}(l:∀g,bM.get? g=U->(g==cR)=ai)(i:ej n a d u.E)(j:br a d f)(m:am b c e)(q:bp f n b p o)(r:c6.all fQ=X)
 (t:u.E v o c λg w=>lO u g h c6 o w λx y=>s (.bool x) y):an (az aq ap) f (cQ (.Compare v h c6 A) p) (bg b e s) aB e:=by
 refine(?_:an _ f (do OP A (<-cQ v p) h (markedEach h c6<|Au c6 p)) _ aB e)
 rw [Oc _ _ _ (IV _ _ r)]
 refine aJ<|ez i j m q t λg a0 a1 a2 a3 z B D E K=>bQ (ZC l i j K B D E) λa4 a5 L=> ?_
 obtain⟨k,P,S,T,V,Y,Z⟩:=L
 subst P
 exact⟨S,T,.bool k,z.trans V,Y,.bool k,Z⟩
theorem Zf{h:M lD}(k:∀g,bM.get? g=U->(g==cR)=ai)(i:ej n a d u.E)(j:br a d f)(l:am b c e)(m:bp f n b p o)(q:c6.all fQ=X)
 (r:u.E v o c λg s=>lO u g h c6 o s k7):an (az aq ap) f (qz (.Compare v h c6 A) p i3) (fy b e k7) aB e:=by
 refine(?_:an _ f (do Fy A (<-cQ v p) h (markedEach h c6<|Au c6 p)) _ aB e)
 rw [Oc _ _ _ (IV _ _ q)]
 exact aJ<|ez i j l m r λg D E K L t w x y z=>gh (ZD k i j z w x y) λP S B=>B.trans t
theorem KF(k:ej n a d u.E)(l:br a d f)(m:am b c e)(q:bp f n b p o)(r:u.E v o c λg s=>pO g λh=>k7 h s)
 (t:qz v p (cQ v p)=(do let g<-cQ v p;nC v.pos;oP [g] (uw g))):an (az aq ap) f (qz v p<|cQ v p) (fy b e k7) aB e:=
 aw5 (ez k l m q r λg w i x K y j L z A=>yF j z A λh B D E=>⟨i,x,y.trans<|aH.toks i w B,j.toks D,E⟩) t
theorem Zq(j:ej n a d u.E)(k:br a d f)(l:am b c e)(m:bp f n b p o)(q:u.E v o c λr t=>pO r λg=>s (.bool !g) t):
 an (az aq ap) f (cQ (.UnaryOp .Not v A) p) (bg b e s) aB e:=
 Oa (ez j k l m q λL w h x P y i S z B=>ax1<|yF i z B λg D E K=>⟨h,x,.bool !g,y.trans<|aH.toks h w D,i.toks E,.bool _,K⟩)
theorem Zp(h:ej n a d u.E)(i:br a d f)(j:am b c e)(k:bp f n b p o)(l:u.E v o c λm q=>kT m λg=>s (.int<|-g) q):
 an (az aq ap) f (cQ (.UnaryOp .USub v A) p) (bg b e s) aB e:=
 Oa (ez h i j k l λD E K L P r t S w x=>by refine ac (λg y z=> ?_)<|hO x;obtain rfl:=y;exact gh (aa0 t w z) λ_ _ B=>B.trans r)
theorem Zm(g:fJ n a d u)(h:br a d f)(x:am b c e)(y:bp f n b p o)(z:u.T v o c λi k=>eQ i (u.E c5 o k s)<|u.E i7 o k s):
 an (az aq ap) f (cQ (.IfExp v c5 i7 A) p) (bg b e s) aB e:=
 au6 (oa g.T h x y z λi l m B q r t w=>by
  cases i with
  |true=>exact gh (g.E _ _ _ _ w f p m l h r t) λ_ _ j=>j.trans q
  |false=>exact gh (g.E _ _ _ _ w f p m l h r t) λ_ _ j=>j.trans q)
theorem Zd(g:ej n a d u.E)(h:br a d f)(l:am b c e)(m:bp f n b p o)(q:u.E v o c λi r=>u.E c5 o r λj t=>AW h2 i j t s):
 an (az aq ap) f (cQ (.BinOp v h2 c5 A) p) (bg b e s) aB e:=
 wpAny_BinOp (ez g h l m q λi P S T V w x y z B=>ez g h x y B λj Y Z a0 a1 k D a2 E K=>gh (Zx D (k.rel z) E K) λ_ _ L=>L.trans<|w.trans k)
theorem Zl(g:fJ n a d u)(h:br a d f)(s:am b c e)(t:bp f n b p o)(w:u.T v o c λi k=>eQ i (bz u d4 o k Z)<|bz u l7 o k Z):
 an (az aq ap) f (jX (.If v d4 l7 A) p) (dV b e Z) aB e:=by
 rw [Fp]
 refine aJ<|iT (aJ<|oa g.T h s t w λi x y z l m q r=> ?_)
 cases i with
 |true=>exact gh (tt g.S h r m q) λ_ _ j=>j.trans l
 |false=>exact gh (tt g.S h r m q) λ_ _ j=>j.trans l
theorem Zr(h:ej n a d u.E)(i:br a d f)(j:am b c e)(k:bp f n b p o)(l:u.E v o c λg=>Z<|.ret g):
 an (az aq ap) f (jX (.Return (Q v) A) p) (dV b e Z) aB e:=
 OU (ez h i j k l λg y m q r s t z w x=>⟨m,q,.ret r,s,t,w,x⟩)
theorem Za(j:ss n a d u.T)(h:br a d f)(k:am b c e)(l:bp f n b p o)(m:u.T v o c λi q=>bW i<|Z .next q):
 an (az aq ap) f (jX (.Assert v U A) p) (dV b e Z) aB e:=by
 refine wpAny_Assert_new h.hh<|oa j h k l m λi y r s t w z g=> ?_
 refine aA (λx g=> ?_)<|cz g;obtain rfl:=x
 exact⟨r,s,.next,t,w,eG,g⟩
theorem Zg(i:ej n a d u.E)(j:br a d f)(m:am b c e)(q:bp f n b p o)(r:u.E v o c λk s=>u.E c5 o s λg t=>Bw k g t<|Z .next):
 an (az aq ap) f (jX (.Delete [.Subscript v c5 A] e4) p) (dV b e Z) aB e:=by
 refine(?_:an _ f (do nC e4;deleteEach [.Subscript v c5 A] p;dj oH:cC io) _ aB e)
 refine aJ<|iT (aJ ?_)
 refine(?_:an _ f (do delete (.Subscript v c5 A) p;deleteEach [] p:cC ek) _ aB e)
 refine aJ ?_
 refine(?_:an _ f (do let h<-cQ v p;let g<-oP [h] (cQ c5 p);nC A;oP [h,g] (Fn h g);release [h,g] []:cC ek) _ aB _)
 refine aJ<|ez i j m q r λk a0 a1 a2 a3 w x y z B=>aJ<|fk (ez i j x y B λg a4 a5 a6 a7 l D a8 E K=> ?_)
 refine aJ<|iT (aJ<|fk (bQ (ZI D (l.rel z) E K) λ_ a9 L=>(by obtain⟨P,S,T,V,Y⟩:=L;exact Oh<|bP (bP ⟨P,S,.next,(w.trans l).trans T,V,eG,Y⟩))))
theorem yN(e:bp f n b p o)(a:aC)(c:ag aC)(d:N):ka a c d p=ka a c d (gn o.scope):=by unfold ka On jW gn;rw [e.sc]
theorem Lk(d:bp f n b p o)(a:M aC)(c:aC):mB a c p=mB a c (gn o.scope):=by unfold mB On jW gn;rw [d.sc]
theorem ys{a:cC E}{b:E->Prop}(c:rn a b):∃d,a= .pure d/\b d:=by cases a<;>first|exact⟨_,O,c⟩|exact c.elim
theorem cJ.reverse(a:cb y i b K q):cb y i b K.reverse q.reverse:= a.ind (M:=λK q=>cb y i b K.reverse q.reverse) .nil λ_ _ _ _ c _ d=>by rw [jR,jR];exact d.append<|.cons c .nil
theorem BA(a:kN u v h o c e0):iS [v] p=[(ai,nt v p)]:=by cases v<;>first|rfl|exact a.elim
theorem ak9(a:aa->cC ek):ut (.ListComp v d0 c8 A) p a=(oO (.ListComp v d0 c8 A) c8 p (Av d0 A) (Fq []) (wP d0) (qy d0 p) (Q a)>>=λ_=>dj ()):=O
theorem ak8(a:aa->cC ek):ut (.DictComp v c5 d0 c8 A) p a=(oO (.DictComp v c5 d0 c8 A) c8 p (Av d0 A) Ax (wP d0) (qy d0 p) (Q a)>>=λ_=>dj ()):=O
theorem KD(s:ej n a d u.E)(i:br a d f)(j:am b c e)(l:bp f n b p o)(m:aR e.heap b k h)(g:rn (mB [v] c5<|gn o.scope) (Dq u v h o c<|Z .next)):
 an (az aq ap) f (do sm p k (<-mB [v] c5 (gn o.scope)) ((iS [v] p).map (·.2)):cC io) (dV b e Z) aB e:=by
 revert b c e f p o a d u n v c5 k h Z s i j l m g
 apply U15
 generalize P14 _=f,Q14 _=n,Q13 _=p,Q12 _=v,Q11 _=c5,Q10 _=a,Q9 _=d,Q8 _=e,Q7 _=k,Q6 _=h,Q5 _=c,Q4 _=b,Q3 _=Z,Q2 _=o,Q1 _=u
 intro s i j l m g
 refine ac (λB D g=> ?_)<|ys g
 rw [D]
 cases B with
 |none=>
  refine(?_:an _ f (sm p k U ((iS [v] p).map (·.2))) _ aB e)
  rw [BA g]
  refine(?_:an _ f (do wN k [nt v p];dj oH:cC io) _ aB e)
  exact aJ<|bQ (vE s i j l m g) λ_ E K=>(by obtain⟨y,z,q,t,w⟩:=K;exact bP ⟨y,z,.next,q,t,eG,w⟩)
 |some r=>
  refine ac (λA L g=> ?_)<|cF g
  refine aA (λx w=> ?_)<|cz g
  have x:A.length=r.length:=hd x
  refine(?_:an _ f (sm p k (Q r) ((iS [v] p).map (·.2))) _ aB e)
  refine(?_:an _ f (do rule "assign.swapped-stores";let P<-AB k r.length U;Fh (r.reverse.map λd=>bindName p d) P.reverse;dj oH:cC io) _ aB e)
  rw [<-x]
  refine aJ<|wX (aJ<|bQ (KG i.hh j m L (h6:=λS T=>S=A/\T=c) ⟨O,O⟩) λa8 E V=> ?_)
  obtain⟨y,z,a9,q,t,Y,a0,a1⟩:=V
  subst a0 a1
  exact aJ<|bQ (ZP w t (l.ext q) Y.reverse) λ_ b0 a2=>(by obtain⟨a3,a4,a5,a6,a7⟩:=a2;exact bP ⟨a3,a4,.next,q.trans a5,a6,eG,a7⟩)
theorem ab0(r:ht gl)(h:∀i,bM.get? i=U->(i==cR)=ai)(j:fJ n a d u)(k:br a d f)(l:bp f n b p o)(s:oA n u f p o b c e d0)
 (m:sB u c5 d0 c8 o c (λd t w=>kN u v (.lst t) o w<|rI Z d)):an (az aq ap) f (do ut (.ListComp c5 d0 c8 A) p λx=>wN x ((iS [v] p).map (·.2));dj oH:cC io) (dV b e Z) aB e:=by
 rw [ak9]
 refine aJ ?_
 rw [xm m]
 refine aJ<|Ky r h j k l s m (a6:=λ_ g=>an (az aq ap) f (dj ()) (λ_ g=>an (az aq ap) f (dj oH) (dV b e Z) aB g) aB g) λS T V Y a0 a1 a2 q=> ?_
 rw [BA q.k]
 exact bQ (Si h j.E k l GS q) λ_ g y=>(by(revert y;refine ac λz B D=> ?_);exact⟨z,B,λE K L P=>bP<|bP (D E K L P)⟩)
theorem FQ{d:io->al->Prop}(c:bp f n b p o)(g:ka c5 (Q v) A.line (gn o.scope)=dj ai)
 (h:an (az aq ap) f (cQ c5 p) (λa i=>an (az aq ap) f (do sm p a (<-mB [v] c5 (gn o.scope)) ((iS [v] p).map (·.2)):cC io) d a6 i) a6 e):an (az aq ap) f (jX (.Assign [v] c5 A) p) d a6 e:=by
 refine(?_:an _ f (do nC A;if<-ka c5 (Q v) A.line p then(do ut c5 p λa=>wN a ((iS [v] p).map (·.2));dj oH) else(do let a<-cQ c5 p;sm p a (<-mB [v] c5 p) ((iS [v] p).map (·.2))):cC io) _ a6 e)
 rw [yN c,Lk c,g]
 exact aJ<|iT (aJ<|bP (aJ h))
theorem Zb(l:ht gl)(m:∀t,bM.get? t=U->(t==cR)=ai)(i:fJ n a d u)(j:br a d f)(q:am b c e)(h:bp f n b p o)(g:xb u v c5 A o c Z):an (az aq ap) f (jX (.Assign [v] c5 A) p) (dV b e Z) aB e:=by
 revert b c e f p o a d u n v c5 A Z l m i j q h g;apply U14;generalize P13 _=f,Q13 _=n,Q12 _=p,Q11 _=v,Q10 _=c5,Q9 _=a,Q8 _=d,Q7 _=A,Q6 _=e,Q5 _=c,Q4 _=b,Q3 _=Z,Q2 _=o,Q1 _=u;intro l m i j q h g;refine(?_:an _ f (do nC A;if<-ka c5 (Q v) A.line p then(do ut c5 p λk=>wN k ((iS [v] p).map (·.2));dj oH) else(do let k<-cQ c5 p;sm p k (<-mB [v] c5 p) ((iS [v] p).map (·.2))):cC io) _ aB e);rw [yN h,Lk h];refine ac (λa9 B g=> ?_)<|ys g;rw [B];refine aJ<|iT ?_;replace g:=uF g;obtain⟨rfl,g⟩|⟨rfl,g⟩:=g
 .refine(?_:an _ f (do ut c5 p λk=>wN k ((iS [v] p).map (·.2));dj oH:cC io) _ aB e)
  cases c5 with
  |ListComp b0 w x D=>exact ab0 l m i j h (xS l m i j q h) g
  |DictComp E K w x D=>
   have g:uL u E K w x o c (λd L y=>∀c5,kN u v (.loc y.length) o (y++ [.dict c5 L]) (rI Z d)):=g
   rw [ak8]
   refine aJ ?_
   rw [xm g]
   refine aJ<|Kx l m i j h (xS l m i j q h) g (a6:=λ_ r=>an (az aq ap) f (dj ()) (λ_ r=>an (az aq ap) f (dj oH) (dV b e Z) aB r) aB r) λb1 C P S b3 b4 b5 z=> ?_
   rw [BA (z.k 0)]
   exact bQ (Sj i.E j h GR z) λ_ r T=>(by(revert T;refine ac λV Y s=> ?_);exact⟨V,Y,λa0 a1 a2 a3=>bP<|bP (s a0 a1 a2 a3)⟩)
  |_=>exact g.elim
 .refine(?_:an _ f (do let k<-cQ c5 p;sm p k (<-mB [v] c5 (gn o.scope)) ((iS [v] p).map (·.2)):cC io) _ aB e);exact aJ<|ez i.E j q h g λk b6 P S b7 X a5 a6 a7 a8=>bQ (KD i.E j a5 a6 a7 a8) λ_ _ s=>s.trans X
theorem Zj(m:ej n a d u.E)(q:br a d f)(r:am b c e)(h:bp f n b p o)
 (g:rn (ka v U A.line<|gn o.scope) λi=>bW (!i)<|u.E v o c λk s=>Jv (Z .next s) k):an (az aq ap) f (jX (.Expr v A) p) (dV b e Z) aB e:=by
 refine ac (λi t g=> ?_)<|ys g
 refine aA (λj g=> ?_)<|cz g
 have j:i=ai:=(lr _).mp j
 subst j
 refine wpAny_Expr (ez m q r h g λk E w x y z B K D l=> ?_) ?_<|by rw [yN h,t];rfl
 .cases y with
  |none=>cases D.none_inv;exact⟨w,x,.next,z,B,eG,l⟩
  |_=>exact l.elim
 .unfold OQ
  rw [h.sc,h.kind]
  rfl
theorem ZQ(a:am b c e)(h:FU h2=X)(d:xd h2 a5 g1 c s):an (az aq ap) f (inplaceOp h2 (.int a5 c1)<|.int g1 i5) (bg b e s) aB e:=by
 cases h2 with
 |Add=>exact dC a.tk<|P.iadd_int (hX a d)
 |Sub=>exact dC a.tk<|P.isub_int (hX a d)
 |LShift=>refine dH (λg i d=> ?_)<|kQ d;exact dC a.tk<|av7 g.1 (Jf g.2 i) (hX a d)
 |BitOr=>exact dC a.tk<|av9 (hX a d)
 |_=>exact cY h
theorem ZV(j:am b c e)(d:bp f n b p o)(i:AT o g=X)(a:mO gl o c g=Q h)(q:s h c):an (az aq ap) f (loadName p g) (bg b e s) aB e:=by
 have r:p.scope.kind= .function:=d.sc▸d.kind;refine ac (λt k a=> ?_)<|eY a;unfold AT at i;rw [k] at i
 cases t with
 |«local»=>refine ac (λu v a=> ?_)<|eY a;refine ac (λA w a=> ?_)<|eY a;cases yj w;refine ac (λu i x=> ?_)<|j.mo _ _ _ d.ns v;refine ac (λy l m=> ?_)<|x g h a;exact Pc r (by unfold jW;rw [d.sc];exact k) i l<|bg.here j m q
 |cell=>refine dd (λB y l m z=> ?_)<|Bf j d a;exact Pb r (by unfold jW;rw [d.sc];exact k) l m<|bg.here j z q
 |_=>exact cY i
theorem Zc(k:ej n a d u.E)(l:br a d f)(m:am b c e)(j:bp f n b p o)(h:FT u g h2 v o c Z):an (az aq ap) f (jX (.AugAssign (.Name g A) h2 v e4) p) (dV b e Z) aB e:=by
 revert b c e f p o a d u n g A e4 h2 v Z k l m j h;apply U16;generalize P15 _=f,Q15 _=n,Q14 _=p,Q13 _=v,Q12 _=a,Q11 _=d,Q10 _=h2,Q9 _=A,Q8 _=e4,Q7 _=e,Q6 _=g,Q5 _=c,Q4 _=b,Q3 _=Z,Q2 _=o,Q1 _=u;intro k l m j h;refine aA (λq h=> ?_)<|cz h;refine ac (λy z h=> ?_)<|cF h;rw [eJ] at q;refine wpAny_AugAssign_Name<|bQ (ZV m j q.2 z (s:=λs r=>s=y/\r=c) ⟨O,O⟩) λb4 b5 B=> ?_;obtain⟨b6,b7,b8,t,D,E,K,L⟩:=B
 subst K L;refine ez k l D (j.ext t) h λs b9 c0 c1 c2 w P S T V=> ?_;have Y:=w.rel E;refine ac (λc3 i a0=> ?_)<|hO V;obtain rfl:=i;refine ac (λc4 i a1=> ?_)<|hO a0;obtain rfl:=i;(refine ay (λc5 i=> ?_)<|Y.int_inv;obtain rfl:=i);(refine ay (λc6 i=> ?_)<|T.int_inv;obtain rfl:=i);refine bQ (ZQ P q.1 a1) λc7 c8 a2=> ?_;obtain⟨c9,d0,d1,x,a3,a4,a5⟩:=a2
 refine ac (λd2 a6 a7=> ?_)<|cF a5;exact bQ (tu a3 (S.ext x) a4 a6 (e0:=λr=>Z .next r) a7) λ_ d3 a8=>(by obtain⟨a9,b0,W,b2,b3⟩:=a8;exact⟨a9,b0,.next,((t.trans w).trans x).trans W,b2,eG,b3⟩)
structure jh(h:ah)(i:gx)(j:N):Prop where
 gl:ht gl
 hs:∀c,bM.get? c=U->(c==cR)=ai
 phi:zZ h j i
theorem ad7(i:jh n e6 a)(e:fJ n a d u):ej n a (d+1) (LO e6 u):=by
 revert e6 a d u n i e;apply U5;generalize P4 _=n,Q4 _=a,Q3 _=d,Q2 _=u,Q1 _=e6;intro i e;intro k P S T b V Y Z a0 r c f;have g:=r.less
 cases k with
 |Constant s t h=>
  cases s with
  |none=>exact au5<|bg.here c .none b
  |bool o=>exact au4<|bg.here c (.bool o) b
  |int p=>exact dC c.tk<|OT (hX c b)
  |str v=>exact dC c.tk<|EY λw=>bg.of c w (.str _ _) b
  |_=>exact b.elim
 |Name v h=>refine ac (λx y z=> ?_)<|cF b;exact CY i.gl c f y z
 |BoolOp l j h=>exact Zz e.E g b c f
 |BinOp A l k h=>exact Zd e.E g c f b
 |UnaryOp l k h=>
  cases l with
  |Not=>exact Zq e.E g c f b
  |USub=>exact Zp e.E g c f b
  |_=>exact b.elim
 |Lambda a1 a2 q h=>exact ZU i.gl c f b
 |IfExp a3 a4 o h=>exact Zm e g c f b
 |Dict B a5 h=>refine aA (λD b=> ?_)<|cz b;refine aA (λm E=> ?_)<|fp.mp D;cases jN.mp m;cases jN.mp E;exact Zh c b
 |List j h=>exact Zn e.E g c f (cz b).1 (cz b).2
 |Tuple j t h=>exact Zs e.E g c f (cz b).1 (cz b).2
 |ListComp a6 K q h=>exact Zo i.gl i.hs e g f c b
 |DictComp a7 a8 K q h=>exact Zi i.gl i.hs e g f c b
 |Compare A a9 j h=>exact Ze i.hs e.E g c f (cz b).1 (cz b).2
 |Subscript x p h=>
  cases p with
  |Slice b0 b1 b2 b3=>exact aa6 e.E g c f b
  |_=>exact aa7 i.hs e.E g c f (by intros;simp) b
 |Call L j B h=>
  cases L with
  |Attribute b4 b5 b6=>refine aA (λm b=> ?_)<|cz b;cases jN.mp m;exact ZX i.hs e.E g c f b
  |_=>exact ZA i.hs e.E i.phi g c f (by intros;simp) b
 |_=>exact b.elim
theorem ad9(k:jh n e6 a)(c:fJ n a d u):ss n a (d+1) (LQ u):=by
 intro i v w x b y z A B l e f;have g:=l.less
 cases i with
 |UnaryOp j i h=>
  cases j with
  |Not=>exact aw2<|oa c.T g e f b λm D o p q r E s=>⟨o,p,q,r,s⟩
  |_=>exact KF c.E g e f b O
 |BoolOp j t h=>exact Zw c.T g b e f
 |IfExp K L m h=>exact b.elim
 |Compare P S t h=>exact Zf k.hs c.E g e f (cz b).1 (cz b).2
 |_=>exact KF c.E g e f b O
theorem ad8(k:jh n e6 a)(c:fJ n a d u):sr n a (d+1) (LP u):=by
 revert e6 a d u n k c;apply U5;generalize P4 _=n,Q4 _=a,Q3 _=d,Q2 _=u,Q1 _=e6;intro k c;intro g x r y b z A o s t f h;have i:=t.less
 cases g with
 |Pass j=>exact wpAny_Pass ⟨o,r,.next,aH.refl o s,f,eG,b⟩
 |Expr l j=>exact Zj c.E i f h b
 |Return l j=>refine ac (λl m b=> ?_)<|cF b;obtain rfl:=m;exact Zr c.E i f h b
 |If g p q j=>exact Zl c i f h b
 |Assert g B j=>refine aA (λe b=> ?_)<|cz b;cases uh.mp e;exact Za c.T i f h b
 |While g p q j=>refine aA (λe b=> ?_)<|cz b;cases jN.mp e;exact Zt c i f h b
 |For g l p q j=>refine aA (λe b=> ?_)<|cz b;cases jN.mp e;exact Zk k.gl k.hs c i f h b
 |AugAssign g D l j=>refine ac (λE e b=> ?_)<|cF b;refine ay (λv m=> ?_)<|Lx e;obtain rfl:=m;exact Zc c.E i f h b
 |Delete w j=>
  refine ac (λg e b=> ?_)<|cF b;cases CJ e
  cases g with
  |Subscript K L v=>exact Zg c.E i f h b
  |_=>exact b.elim
 |Assign w l j=>refine ac (λg e b=> ?_)<|cF b;cases CJ e;exact Zb k.gl k.hs c i f h b
 |_=>exact b.elim
theorem mf(c:jh n e6 a):∀d,fJ n a d (bt e6 d):=by
 intro f
 induction f with
 |zero=>exact⟨λ_ _ _ _ b=>b.elim,λ_ _ _ _ b=>b.elim,λ_ _ _ _ b=>b.elim⟩
 |succ d e=>exact⟨ad7 c<|e,ad9 c<|e,ad8 c<|e⟩
structure ca where
 gaps:N
 mask:M (I×N)
 fin:N
instance:fx ca:=⟨⟨0,[],0⟩⟩
noncomputable def ca.av(a:ca):R:= .tup [.int a.gaps,.dct (a.mask.map λb=>(b.1,.int b.2)),.int a.fin]
structure ca.Ok(c:ca):Prop where
 g:c.gaps<1048576
 m:∀h∈c.mask,h.2<1048576
variable{d1:ca}
noncomputable def sY(a:ca)(b:I):N:=(a.mask.lookup b).getD 0
noncomputable def yl(a:ca)(b:N)(c:I):N:=(b&&&a.gaps)|||((b&&&sY a c)<<<1)
noncomputable def hU(a:ca)(b:N)(c:I):N:=yl a b c|||(yl a b c<<<1&&&a.gaps)
theorem kd(a b:N):nn (a:H) (b:H)=((a&&&b:N):H):=by unfold nn;rw [ck (cj a),ck (cj b)];rfl
theorem uD(c d:N):EX (c:H) (d:H)=((c|||d:N):H):=by
 have b:∀a:N,si (si (a:H))=a:=λa=>by unfold si;exact kw (aw 0 ((iL<|(iL F)-1)-1) F .z (aG _) O)<|aw 0 F ((iL<|(iL F)-1)-1) .z (aG _) O
 have e:∀a:N,aI (0<=si (a:H))=ai:=λa=>cN (by unfold si;exact λf=>aD (.p 1 0 ((iL F)-1)<|.p 1 0 F .z) (aG _) O f<|cj _);unfold EX nn;rw [e,e];refine(?_:si (si _)=_);rw [b,b,b];rfl
theorem Dg(a:N):(a:H)*(2:H)^cw 1=((a<<<1:N):H):=by rw [ug];rfl
theorem WB(b:M (I×N))(c:I):((b.map λa=>(a.1,R.int a.2)).lookup c).getD (.int 0)= .int ((b.lookup c).getD 0:N):=by
 induction b with
 |nil=>rfl
 |cons a f d=>
  obtain⟨e,g⟩:=a
  simp only [ft,fa];cases c==e<;>simp [d]
theorem Jj(d:d1.Ok)(b:I):sY d1 b<1048576:=by
 unfold sY
 cases a:d1.mask.lookup b with
 |none=>decide
 |some e=>exact d.m (b,e) (by
  have:=a;revert this;generalize d1.mask=f;intro a
  induction f with
  |nil=>exact aU a
  |cons g k h=>
   obtain⟨i,l⟩:=g
   rw [ee] at a
   cases c:b==i with
   |true=>rw [c] at a;(revert a;refine aL λj=> ?_;subst j);rw [hd c];exact .head _
   |false=>rw [c] at a;exact .tail _<|h a)
theorem oW{c a b:N}(d:a<b):c&&&a<b:=cd Nat.and_le_right d
theorem Xi(c:d1.Ok)(a:N)(b:I):yl d1 a b<2097152:=by
 have d:a&&&d1.gaps<2^21:=fh (oW c.g) (by decide);have e:(a&&&sY d1 b)<<<1<2^21:=by rw [ug];have:= @oW a _ _<|Jj c b;exact af 0 ((hy C<|2^1)+1) (qn<|2^21) (.p 2 (C+1) 1048576 .z) (bj _) O this
 exact zS d e
theorem Rf(c:d1.Ok)(a:N)(b:I)(d:I):
 bz (bt w 20) (bu 67) ⟨bI 67,0,[],d,U⟩ [.ns [("plan",d1.av),("can",.int a),("sign",.str b)]] λe _=>e= .ret (.int (hU d1 a b:N)):=by
 conv=>whnf
 rw [WB]
 have f:=Xi c a b
 have g:= @oW a _ _<|Jj c b
 refine bc (by rw [kd];exact fh g<|by decide) ?_
 refine bc (by rw [kd,kd,Dg,uD];exact fh f<|by decide) ?_
 conv=>whnf
 rw [kd,kd,Dg,uD,Dg,kd,uD]
 rfl
noncomputable def wZ(b:ca)(a:N)(c:M N):N:=c.foldl (λa d=>hU b a ⟨#[d]⟩) a
noncomputable def gG(a:ca)(b:I):N:=wZ a (1|||(2&&&a.gaps)) b.cps.toList
theorem Qk(i:∀(c:N) (l:I) m n,n (.int (hU d1 c l:N)) m->w (.raw<|bS 67) [d1.av,.int c,.str l] [] m n)(b:I)(d:I):
 bz (bt w 20) (bu 68) ⟨bI 68,0,[],d,U⟩ [.ns [("plan",d1.av),("text",.str b)]] λo _=>o= .ret (.int (gG d1 b:N)):=by
 revert w d1 i b d
 apply U2
 generalize P1 _=w,Q1 _=d1
 intro i b d
 revert b d
 apply U2
 generalize P1 _=b,Q1 _=d
 refine⟨λj f=>∃(a:M N) (c:N),j=a.map (λk=> .str ⟨#[k]⟩)/\f=[.ns [("plan",d1.av),("text",.str b),("can",.int c)]]/\wZ d1 c a=gG d1 b,⟨_,pL _,b.cps.toList,_,O,?_,O⟩,?_,?_,?_⟩
 .rw [<-uD,<-kd];rfl
 .intro j f p;(revert p;refine dd λa c q e g=> ?_;obtain rfl:=q;obtain rfl:=e);exact⟨cW,O⟩
 .intro v j f r;(revert r;refine dd λa c h e g=> ?_;obtain rfl:=e)
  cases a with
  |nil=>exact hq h
  |cons k a=>
   (revert h;refine gW λs t=> ?_;subst s;subst t)
   refine i _ _ _ _ ?_
   exact⟨_,cG (by rfl) (by rfl)<|.ns O .nil,a,_,O,O,g⟩
 .intro f u;(revert u;refine dd λa c h e g=> ?_;obtain rfl:=e)
  cases a with
  |cons k a=>exact jc h
  |nil=>rw [<-g];rfl
abbrev bw:=M<|M (I×N)
noncomputable def rA(b:M (I×N)):R:= .dct<|b.map λa=>(a.1,.int a.2)
noncomputable def bw.av(a:bw):R:= .lst<|a.map rA
noncomputable def au(a:N):I:=⟨#[a]⟩
noncomputable def iB(a:bw)(b:N)(c:I):N:=((a.getD b []).lookup c).getD 0
noncomputable def pB(b:bw)(a:N)(c:M N):N:=c.foldl (λa d=>iB b a<|au d) a
noncomputable def fZ(a:bw)(b:I):N:=pB a 0 b.cps.toList
structure bw.Ok(c:bw)(i:M N):Prop where
 len:c.length<1048576
 pos:0<c.length
 row:∀j∈c,∀o∈i,∃h,h<c.length/\j.lookup (au o)=Q h
variable{a0:bw}{m3:ag bw}
theorem ye(b:g8.lookup g=Q a):(g8.map λc=>(c.1,R.int c.2)).lookup g=Q (.int a):=by
 induction g8 with
 |nil=>exact aU b
 |cons c i e=>
  obtain⟨f,j⟩:=c
  rw [ee] at b;rw [da,ee]
  cases d:g==f with
  |true=>rw [d] at b;(revert b;refine aL λh=> ?_;subst h);rfl
  |false=>rw [d] at b;exact e b
theorem HE(f:a<q.length):lT q (a:H)=q[a]? :=by
 have b:¬((a:H)<0):=by exact λc=>aD (.p 1 (F+1) 0<|.p 1 0 F .z) (aG _) O c<|cj _
 have d:(0:H)<=(a:H):=by exact aw 0 0 F (.p 1 0 F .z) (aG _) O<|cj _
 have e:(a:H)<(q.length:H):=by exact jn.mpr ‹_›
 unfold lT qB;simp only [bF b,ck d,ck e];rfl
theorem TY(b:lf c h=Q q)(d:q[a]? =Q L)(j:q.length<1048577)(e:s L c):
 vh h a c s:=by
 have f:a<q.length:=(fq.mp d).1
 have g:q.length<4611686018427387904:=by exact aK ‹_› (bA O)
 have i:cm (lf c h) λq=>bW (aI<|q.length<4611686018427387904) (cm (lT q a) λL=>s L c):=by rw [b];refine(?_:bW (aI<|q.length<4611686018427387904) (cm (lT q a) λL=>s L c));rw [ck g,HE f,d];exact e
 unfold vh
 cases h with
 |str k=>exact aU b
 |_=>exact i
theorem fL(d:lf c h=Q q)(b:q[a]? =Q L)(e:q.length<1048577)(f:s L c):
 bW (aI<|(a:H).natAbs<9223372036854775808) (vh h a c s):=by
 have g:a<q.length:=(fq.mp b).1
 exact Bh (by lia)<|TY d b e f
def Mx(a:bw)(g:M N)(e:I)(h:M R)(i:M G):Prop:=∀f:M G->Prop,(∀(b:M N) (c:N) (j:h=b.map (λd=> .str ⟨#[d]⟩)) (k:pB a c b=fZ a e) (l:c<a.length) (m:∀d∈b,d∈g),f [.ns [("moves",a.av),("text",.str e),("state",.int c)]])->f i
theorem Re(f:a0.Ok m)(c:I)(g:∀b∈c.cps.toList,b∈m)(h:I):
 bz (bt w 20) (bu 71) ⟨bI 71,0,[],h,U⟩ [.ns [("moves",a0.av),("text",.str c)]] λr _=>r= .ret (.int (fZ a0 c:N)):=by
 revert w a0 m f c g h
 apply U3
 generalize P2 _=m,Q2 _=w,Q1 _=a0
 intro f c g h
 revert g
 revert c h
 apply U2
 generalize P1 _=c,Q1 _=h
 intro g
 refine⟨Mx a0 m c, ⟨_,pL _,λ_ l=>l _ 0 O O f.pos g⟩,?_,?_,?_⟩
 .intro s o a;apply a;clear a;intro d e i a j k;exact⟨cW,O⟩
 .intro y s o a
  apply a;clear a;intro d e i a j k
  cases d with
  |nil=>exact hq i
  |cons b d=>
   (revert i;refine gW λt u=> ?_;subst t;subst u)
   have p:a0[e]? =Q a0[e]:=gz j
   refine ac (λn v q=> ?_)<|f.row _ (mu j) b (k b<|.head _)
   refine fL O (L:=rA a0[e]) ?_ ?_ ?_
   .rw [gj,p];rfl
   .rw [aW];have:=f.len;exact hf ‹_›
   refine be (ye q) ?_
   refine⟨_,cG (by rfl) (by rfl)<|.ns O .nil,λ_ l=>l d n O ?_ v λb x=>k b<|.tail _ x⟩
   rw [<-a]
   refine(?_:_=pB a0 (iB a0 e<|au b) d)
   have:iB a0 e (au b)=n:=by unfold iB;rw [ed,p];refine(?_:(a0[e].lookup _).getD 0=n);rw [q];rfl
   rw [this]
 .intro o a;apply a;clear a;intro d z i a j k
  cases d with
  |cons b d=>exact jc i
  |nil=>rw [<-a];rfl
noncomputable def dr(c:N->ah):N->N->N->N
 |0,a,_=>a
 |d+1,a,b=>bif aI (a<b) then(bif c ((a+b)/2) then dr c d a ((a+b)/2) else dr c d ((a+b)/2+1) b) else a
theorem lM(c:N->ah)(d a b:N):dr c (d+1) a b=bif aI (a<b) then(bif c ((a+b)/2) then dr c d a ((a+b)/2) else dr c d ((a+b)/2+1) b) else a:=O
theorem qI(b:¬d<t):dr c7 a d t=d:=by
 cases a with
 |zero=>rfl
 |succ a=>rw [lM,cN b];rfl
theorem xe(h:N->ah):∀(g c a b:N),b - a<=g->b - a<=c->dr h g a b=dr h c a b:=by
 intro j
 induction j with
 |zero=>exact λc a b d e=>by rw [qI (by exact cp (.p 1 C 0<|.p 1 J (C+aj) (.p 1 (aj+1) J .z)) (bk _ _ _) O d<|dz _ _),qI (by exact cp (.p 1 C 0<|.p 1 J (C+aj) (.p 1 (aj+1) J .z)) (bk _ _ _) O d<|dz _ _)]
 |succ g i=>
  intro k
  cases k with
  |zero=>exact λa b d e=>by rw [qI (by exact cp (.p 1 C 0<|.p 1 J (C+aj) (.p 1 (aj+1) J .z)) (bk _ _ _) O e<|dz _ _),qI (by exact cp (.p 1 C 0<|.p 1 J (C+aj) (.p 1 (aj+1) J .z)) (bk _ _ _) O e<|dz _ _)]
  |succ c=>
   exact λa b d e=>by
    rw [lM,lM];by_cases f:a<b
    .rw [i c a ((a+b)/2) (sL f d) (sL f e),i c ((a+b)/2+1) b (sM (dx f) d) (sM (dx f) e)]
    .rw [cN f];rfl
noncomputable def cV(c:N->ah)(a b:N):N:=dr c (b - a) a b
theorem Gg(b:a<d)(c:c7 ((a+d)/2)=X):cV c7 a d=cV c7 a ((a+d)/2):=by unfold cV;rw [xe c7 (d - a) (d - a+1) a d (ba _) (nj _),xe c7 _ (d - a) a ((a+d)/2) (ba _) (sL b<|nj _)];rw [lM,ck b,c];rfl
theorem Gf(b:a<d)(c:c7 ((a+d)/2)=ai):cV c7 a d=cV c7 ((a+d)/2+1) d:=by unfold cV;rw [xe c7 (d - a) (d - a+1) a d (ba _) (nj _),xe c7 _ (d - a) ((a+d)/2+1) d (ba _) (sM (dx b)<|nj _)];rw [lM,ck b,c];rfl
theorem Ge(b:¬a<d):cV c7 a d=a:=qI b
theorem xJ(a b:N):((a:H)+(b:H)).fdiv 2=(((a+b)/2:N):H):=by rw [<-Int.natCast_add];exact(MJ _ _).symm
theorem hn{c:E->f5}{b:M E}(d:a<b.length)(e:E):(b.map c)[a]? =Q (c<|b.getD a e):=by rw [gj,ed,gz d];rfl
theorem xL(a:E->f5)(c:E):∀(b:N) (d:M E),(d.map a).insertIdx b (a c)=(d.insertIdx b c).map a
 |0,_=>O
 |_+1,[]=>O
 |b+1,e::f=>bq (a e:: ·)<|xL a c b f
noncomputable def me(a b:I):ah:=aI<|a.cps.toList<b.cps.toList
def DW(d e:N)(f:N->N->N)(g:M I)(h:I)(i:N)(j:M G):Prop:=∀c:M G->Prop,(∀(b a:N) (k:i=a - b) (l:b<=a) (m:a<=e) (n:f b a=d),c [.list (g.map .str),.ns [("a",.loc 0),("x",.str h),("lo",.int b),("hi",.int a),("key",.none)]])->c j
theorem Gm(b:a<d):(a+d)/2 - a<d - a:=Nat.sub_lt_sub_right (pn<|dx b)<|kS b
theorem Gn(b:a<d):d - ((a+d)/2+1)<d - a:=EM b<|uf (pn<|dx b)
noncomputable def fE(b:M I)(a:I)(c:N):ah:=me a<|b.getD c a
theorem Rc(a:M I)(c:I)(i:a.length<1048577)(d:I):
 bz (bt w 20) (bu 2) ⟨bI 2,1,[],d,U⟩ [.list (a.map .str),.ns [("a",.loc 0),("x",.str c),("lo",.int 0),("hi",.none),("key",.none)]] λo l=>o= .ret (.int (cV (fE a c) 0 a.length:N))/\l[0]? =Q (.list<|a.map .str):=by
 revert w a c i d
 apply U3
 generalize P2 _=w,Q2 _=a,Q1 _=c
 intro i d
 revert d
 apply U1
 generalize Z1 _=d
 have e:(a.map R.str).length=a.length:=aW ..
 refine bc (by rw [e];exact fh i<|by decide) ?_
 rw [e]
 refine⟨DW (cV (fE a c) 0 a.length) a.length (cV<|fE a c) a c,⟨_,λ_ f=>f 0 a.length O (cy _) (ba _) O⟩,?_⟩
 intro r l m
 apply m;clear m;intro g h p q n j
 subst p
 refine⟨O,?_⟩
 refine nH (λb=> ?_) λb=> ?_
 .conv=>whnf
  rw [xJ]
  have b:g<h:=jn.mp b
  have e:(g+h)/2<a.length:=ij (kS b) n
  refine fL (q:=a.map .str) O (hn e c) (by rw [aW];exact i) ?_
  refine fc (λk=> ?_) λk=> ?_
  .exact⟨_,_,Gm b,cG (by rfl) (by rfl)<|.same O (.ns O .nil),λ_ f=>f g ((g+h)/2) O (pn q) (dx e)<|(Gg b k).symm.trans j⟩
  .exact⟨_,_,Gn b,cG (by rfl) (by rfl)<|.same O (.ns O .nil),λ_ f=>f ((g+h)/2+1) h O (kS b) n<|(Gf b k).symm.trans j⟩
 .exact⟨by rw [<-j,Ge (λd=>b<|jn.mpr d)],O⟩
noncomputable def iE(b:M I)(a:I)(c:N):ah:= !me (b.getD c a) a
theorem QY(a:M I)(b:I)(j:a.length<1048577)(d:I):
 bz (bt w 20) (bu 4) ⟨bI 4,1,[],d,U⟩ [.list (a.map .str),.ns [("a",.loc 0),("x",.str b),("lo",.int 0),("hi",.none),("key",.none)]] λo l=>o= .ret (.int (cV (iE a b) 0 a.length:N))/\l[0]? =Q (.list<|a.map .str):=by
 revert w a b j d
 apply U3
 generalize P2 _=w,Q2 _=a,Q1 _=b
 intro j d
 revert d
 apply U1
 generalize Z1 _=d
 have h:(a.map R.str).length=a.length:=aW ..
 refine bc (by rw [h];exact fh j<|by decide) ?_
 rw [h]
 refine⟨DW (cV (iE a b) 0 a.length) a.length (cV<|iE a b) a b,⟨_,λ_ i=>i 0 a.length O (cy _) (ba _) O⟩,?_⟩
 intro r l m
 apply m;clear m;intro e f p q n k
 subst p
 refine⟨O,?_⟩
 refine nH (λc=> ?_) λc=> ?_
 .conv=>whnf
  rw [xJ]
  have c:e<f:=jn.mp c
  have h:(e+f)/2<a.length:=ij (kS c) n
  refine fL (q:=a.map .str) O (hn h b) (by rw [aW];exact j) ?_
  refine fc (λg=> ?_) λg=> ?_
  rotate_left
  .replace g:iE a b ((e+f)/2)=X:=by unfold iE;rw [show me _ _=ai from g];rfl
   exact⟨_,_,Gm c,cG (by rfl) (by rfl)<|.same O (.ns O .nil),λ_ i=>i e ((e+f)/2) O (pn q) (dx h)<|(Gg c g).symm.trans k⟩
  .replace g:iE a b ((e+f)/2)=ai:=by unfold iE;rw [show me _ _=X from g];rfl
   exact⟨_,_,Gn c,cG (by rfl) (by rfl)<|.same O (.ns O .nil),λ_ i=>i ((e+f)/2+1) f O (kS c) n<|(Gf c g).symm.trans k⟩
 .exact⟨by rw [<-k,Ge (λd=>c<|jn.mpr d)],O⟩
theorem Qx(a:M I)(b:I)(j:a.length<1048576)(e:I)
 (f:∀(c:M G) (d:aQ),c[0]? =Q (.list<|a.map .str)->d (.int (cV (fE a b) 0 a.length:N)) c->w (.raw<|bS 2) [.loc 0,.str b,.int 0,.none] [] c d)
 (k:cV (fE a b) 0 a.length<=a.length):
 bz (bt w 20) (bu 1) ⟨bI 1,1,[],e,U⟩ [.list (a.map .str),.ns [("a",.loc 0),("x",.str b),("lo",.int 0),("hi",.none),("key",.none)]] λg h=>g= .next/\h[0]? =Q (.list<|(a.insertIdx (cV (fE a b) 0 a.length) b).map .str):=by
 refine f _ _ O ?_
 refine bc (by rw [aW];lia) ?_
 exact⟨O,bq (λi=>Q<|G.list i)<|xL _ _ _ _⟩
noncomputable abbrev eE:I:=bC "..."
noncomputable def mI(a:I)(b:N):N->M I->ah
 |_,[]=>X
 |d,c::e=>match fj a c d b 1 with
  |[]=>ai
  |f::_=>mI a b (f+c.length) e
theorem xt(a:I)(b d:N)(c:I)(e:M I):mI a b d (c::e)=(match fj a c d b 1 with
 |[]=>ai
 |f::_=>mI a b (f+c.length) e):=O
noncomputable def lQ(c:I)(a b:N)(d:M I):ah:= !aI (a>b)&&mI c b a d
noncomputable def lR(a:I)(c:N)(b:M I):ah:= bif (b.getLastD eE).length !=0 then qs a (b.getLastD eE)&&lQ a c (a.length - (b.getLastD eE).length) b.dropLast else lQ a c a.length b
noncomputable def nK(b a:I)(c:M I):ah:=bif a.length !=0 then qt b a&&lR b a.length c else lR b 0 (a::c)
noncomputable def hz(a b:I):ah:=bif (fj a eE 0 a.length 1).isEmpty then aI (a=b) else nK b ((hI a eE).headD eE) (hI a eE).tail
theorem af2(a:qt g T=X):T.length<=g.length:=by unfold qt at a;have:=hW (fp.mp a).1;lia
theorem Sl(a:qs g T=X):T.length<=g.length:=by unfold qs at a;have:=hW (fp.mp a).1;lia
theorem Ts(a:R)(b:M R):lT (a::b) 0=Q a:=(HE (a:=0)<|fT _)
theorem Tr(a:q≠[]):lT q (-1)=Q (q.getLast a):=by
 have e:0<q.length:=Ni.mpr a;have i:aI ((-1:H)<0)=X:=by decide
 refine ay (λb c=> ?_)<|Nat.exists_eq_succ_of_ne_zero (wv e);have d: -1+(q.length:H)=(b:H):=by rw [c,Int.natCast_succ,Int.add_comm,Int.add_neg_cancel_right]
 have f:(0:H)<= -1+(q.length:H):=d▸cj b;have g: -1+(q.length:H)<(q.length:H):=by rw [d,c];exact jn.mpr<|lA b
 have h:(-1+(q.length:H)).toNat=q.length - 1:=by rw [d,c];rfl
 unfold lT qB;simp only [bK (show(-1:H)<0 by decide),ck f,ck g,h];refine(?_:q[q.length - 1]? =_);rw [<-List.getLast?_eq_getElem?,Ep a]
noncomputable def vw(a b:I)(c d:N)(e:I)(f:M I):M G:= [.ns [("want",.str a),("got",.str b),("ws",.loc 1),("endpos",.int d),("startpos",.int c),("w",.str e)],.list (f.map .str)]
def Pj(c a:I)(e:aY)(f:M G):Prop:=e= .ret (.bool<|hz c a)\/(e= .next/\∃d g b,f=vw c a d a.length g b/\b≠[]/\d<=a.length/\lR a d b=hz c a/\(∀h∈b,h.length<1048576)/\b.length<1000002)
theorem Qn(a e:I)(p:a.length<1048576)(q:e.length<1048576)(g:I)
 (h:(fj a eE 0 a.length 1).isEmpty=ai->∃b f c,hI a eE=b::f::c/\(∀m∈b::f::c,m.length<1048576)/\c.length<1000000):
 bz (bt w 20) ((bu 9).take 6) ⟨bI 9,0,[],g,U⟩ [.ns [("want",.str a),("got",.str e)]] (Pj a e):=by
 revert w a e p q g h
 apply U3
 generalize P2 _=w,Q2 _=a,Q1 _=e
 intro p q g h
 revert h
 revert g
 apply U1
 generalize Z1 _=g
 intro h
 refine fc (λd=> ?_) λd=> ?_
 .refine .inl ?_
  replace d:(fj a eE 0 a.length 1).isEmpty=X:=(zh _).symm.trans d
  unfold hz;rw [d];rfl
 .replace d:(fj a eE 0 a.length 1).isEmpty=ai:=(zh _).symm.trans d
  refine nT (λb f c r i n=> ?_)<|h d
  have o:hz a e=nK e b (f::c):=by unfold hz;rw [d,r];rfl
  refine bc ⟨by decide,by exact dx ‹_›⟩ ?_
  rw [r]
  conv=>whnf
  have j:(ft R.str (b::f::c)).length=c.length+2:=by simp
  refine bc (by rw [j];exact af 0 (C+2+1) 4611686018427387904 (.p 1 (C+1) 1000000 .z) (bj _) O n) ?_
  conv=>whnf
  refine sA (ck<|by rw [j];exact aw 0 2 (F+2) (.p 1 0 F .z) (aG _) O<|cj _) ?_
  conv=>whnf
  refine bc (by exact aK ‹_› (bA O)) ?_
  conv=>whnf
  refine Bh (by rw [j];exact af 0 (C+2+1) 4611686018427387904 (.p 1 (C+1) 1000000 .z) (bj _) O n) ?_
  refine be (Ts _ _) ?_
  refine bc (dx<|i _ (.head _)) ?_
  refine fc (λk=> ?_) λk=> ?_
  .refine fc (λl=> ?_) λl=> ?_
   .refine bc (by have:=i _<|.head _;exact aK ‹_› (bA O)) ?_
    refine bc ⟨by simp,by rw [j];exact cd ‹_› (bA O)⟩ ?_
    refine .inr ⟨O,b.length,b,f::c,O,by simp,?_,?_,λm s=>i m<|.tail _ s,by rw [gO];exact cd ‹_› (bA O)⟩
    .exact af2 l
    .rw [o];unfold nK;rw [k,l];rfl
   .refine .inl ?_;rw [o];unfold nK;rw [k,l];rfl
  .refine .inr ⟨O,0,b,b::f::c,O,by simp,cy _,?_,i,by rw [gO,gO];exact af 0 (C+1+1+1) 1000002 (.p 1 (C+1) 1000000 .z) (bj _) O n⟩;rw [o];unfold nK;rw [k];rfl
def Pk(g a:I)(e:ah)(f:aY)(h:M G):Prop:=f= .ret (.bool e)\/(f= .next/\∃b c i d,h=vw g a b c i d/\b<=a.length/\c<=a.length/\lQ a b c d=e/\∀j∈d,j.length<1048576)
theorem Qo(k c:I)(n:c.length<1048576)(h:I)(d:N)(i:I)(a:M I)(b:a≠[])(f:a.length<1000002)(g:d<=c.length)(e:∀m∈a,m.length<1048576):
 bz (bt w 20) (((bu 9).drop 6).take 2) ⟨bI 9,0,[],h,U⟩ (vw k c d c.length i a) (Pk k c<|lR c d a):=by
 revert w k c n h d i a b f g e
 apply U3
 generalize P2 _=w,Q2 _=k,Q1 _=c
 intro n h d i a b f g e
 revert b f g e
 revert h d i a
 apply U4
 generalize P3 _=h,Q3 _=d,Q2 _=i,Q1 _=a
 intro b f g e
 have o:(a.map R.str).length=a.length:=aW ..
 have j:a.map R.str≠[]:=by simpa using b
 have p:(a.map R.str).getLast j= .str (a.getLastD eE):=by rw [List.getLast_map,Nb,Ep b];rfl
 have q:=e (a.getLastD eE)<|by rw [Nb,Ep b];exact List.getLast_mem b
 refine Bh (by exact af 0 (C+1) 4611686018427387904 (.p 1 (J+1) 1000002<|.q 1 C J .z) (aN _ _) O f o) ?_
 refine be ((Tr j).trans<|bq Q p) ?_
 refine bc (dx q) ?_
 refine fc (λb=> ?_) λb=> ?_
 .refine fc (λl=> ?_) λl=> ?_
  .have r:=Sl l
   refine bc (by exact aK ‹_› (bA O)) ?_
   refine bc ⟨j,by exact af 0 C 1048576 (.p 1 (J+1) 1000002<|.q 1 C J .z) (aN _ _) O f o⟩ ?_
   refine .inr ⟨O,d,c.length - (a.getLastD eE).length,a.getLastD eE,a.dropLast,?_,g,lC _ _,?_,λm j=>e m<|List.dropLast_subset _ j⟩
   .unfold vw;rw [List.map_dropLast,Int.ofNat_sub r];rfl
   .unfold lR;rw [b,l];rfl
  .refine .inl ?_;unfold lR;rw [b,l];rfl
 .refine .inr ⟨O,d,c.length,a.getLastD eE,a,O,g,ba _,?_,e⟩;unfold lR;rw [b];rfl
def Mq(f d:I)(a:N)(g:ah)(h:M I)(i:M R)(j:M G):Prop:=∀e:M G->Prop,(∀(b:N) (k:I) (c:M I) (m:i=c.map .str) (n:b<=a) (o:mI d a b c=g) (p:∀l∈c,l.length<1048576),e [.ns [("want",.str f),("got",.str d),("ws",.loc 1),("endpos",.int a),("startpos",.int b),("w",.str k)],.list (h.map .str)])->e j
theorem SJ(b:fj g T a d 1=t::m):ph g T a d=t:=by unfold ph;rw [b]
theorem SK(b:fj g T a d 1=[]):ph g T a d= -1:=by unfold ph;rw [b]
theorem Qp(o b:I)(s:b.length<1048576)(j:I)(e c:N)(f:I)(a:M I)(p:e<=b.length)(h:c<=b.length)(k:∀q∈a,q.length<1048576):
 bz (bt w 20) ((bu 9).drop 8) ⟨bI 9,0,[],j,U⟩ (vw o b e c f a) (λA _=>A= .ret (.bool<|lQ b e c a)):=by
 revert w o b s j e c f a p h k
 apply U3
 generalize P2 _=w,Q2 _=o,Q1 _=b
 intro s j e c f a p h k
 revert p h k
 revert j e c f a
 apply U5
 generalize P4 _=j,Q4 _=e,Q3 _=c,Q2 _=f,Q1 _=a
 intro p h k
 refine nH (λd=> ?_) λd=> ?_
 .conv=>whnf
  unfold lQ;rw [ck (by exact bd<|aw 0 (F+1) W (.p 1 (F+1) W .z) (aP _ _) O d)];rfl
 .have B:lQ b e c a=mI b c e a:=by unfold lQ;rw [cN (by exact λD=>aD (.p 1 F W<|.p 1 (W+1) F .z) (aP _ _) O (mq.mp d)<|ak D)];rfl
  rw [B]
  conv=>whnf
  refine⟨Mq o b c (mI b c e a) a,⟨_,pL _,λ_ t=>t e f a O (by exact bd<|aw 0 F W (.p 1 F W .z) (aP _ _) O (mq.mp d)) O k⟩,?_,?_,?_⟩
  .intro E y d
   apply d;clear d;intro i f a l u m r
   exact⟨λi d=>by(revert d;refine aL λv=> ?_;subst v);rfl,O⟩
  .intro q E y d
   apply d;clear d;intro i f a l u m r
   cases a with
   |nil=>exact hq l
   |cons g a=>
    (revert l;refine gW λv K=> ?_;subst v;subst K)
    refine bc ⟨by exact aw 0 0 F (.p 1 0 F .z) (aG _) O<|cj _,by exact aw 0 0 F (.p 1 0 F .z) (aG _) O<|cj _,by exact aw 0 F W (.p 1 aF W<|.p 1 F aF .z) (cg _ _ _) O (ak h)<|ak u,by exact aw 0 F W (.p 1 F W .z) (aP _ _) O<|ak h⟩ ?_
    cases n:fj b g i c 1 with
    |nil=>
     rw [show ph b g (i:H).toNat (c:H).toNat= -1 from SK n]
     conv=>whnf
     rw [<-m];rw [xt,n]
    |cons x P=>
     rw [show ph b g (i:H).toNat (c:H).toNat=x from SJ n]
     have z:=(StrLaws.occ_spec b g i c 1 x<|by rw [n];exact .head _).1
     refine bc (by have:=r g<|.head _;exact af 0 (C+1) 4611686018427387904 (.p 1 (J+1) 1048576<|.p 1 aj J (.p 1 (bo+C) aj .z)) (di _ _ _ _) O s h z) ?_
     conv=>whnf
     refine⟨_,cG (by rfl) (by rfl)<|.same O (.same O .nil),λ_ t=>t (x+g.length) g a O z ?_ λq L=>r q<|.tail _ L⟩
     rw [<-m];rw [xt,n]
  .intro y d
   apply d;clear d;intro i f a l u m r
   cases a with
   |cons g a=>exact jc l
   |nil=>
    conv=>whnf
    rw [<-m];rfl
theorem QB(a:H)(b:I):bz (bt w 20) (bu 62) ⟨bI 62,0,[],b,U⟩ [.ns [("x",.int a)]] (λc _=>c= .ret (.bool<|aI (a<256))):=by conv=>whnf
theorem QA(a:H)(b:I):bz (bt w 20) (bu 63) ⟨bI 63,0,[],b,U⟩ [.ns [("x",.int a)]] (λc _=>c= .ret (.bool<|aI (a>=256))):=by conv=>whnf
theorem Qz(a:H)(b:I):bz (bt w 20) (bu 64) ⟨bI 64,0,[],b,U⟩ [.ns [("x",.int a)]] (λc _=>c= .ret (.bool<|a==0)):=by conv=>whnf
noncomputable def ib:M N->N->N->N×M N
 |[],a,c=>(a,[])
 |b::d,a,c=>bif (c&&&64) !=0 then ib d ((a<<<6)|||(b&&&63)) b else(a,b::d)
theorem LR(a:N)(b:M N)(c d:N):ib (a::b) c d=bif (d&&&64) !=0 then ib b ((c<<<6)|||(a&&&63)) a else(c,a::b):=O
noncomputable def mZ:N->N->M N->ah
 |0,a,_=>(a&&&64)==0
 |b+1,a,[]=>(a&&&64)==0
 |b+1,a,c::d=>((a&&&64)==0)||mZ b c d
theorem DJ(b:(d&&&64)=0):ib m a d=(a,m):=by
 cases m with
 |nil=>rfl
 |cons c m=>rw [LR,b];rfl
noncomputable def cX(a:M N):M R:=a.map λ(b:N)=> .int b
def MF(e:N×M N)(d:N)(f:M G):Prop:= ∃(a b:N) (c:M N),f=[.liter (cX c),.ns [("iterator",.loc 0),("b",.int b),("val",.int a)]]/\ib c a b=e/\mZ d b c=X/\(a+1)*64^d<=1152921504606846976
theorem ac2(a:N):(a:H)*(2:H)^cw 6=((a<<<6:N):H):=by rw [ug];rfl
theorem af4(a b:N):(a<<<6)|||(b&&&63)<(a+1)*64:=by have c:b&&&63<2^6:=oW (by decide);rw [<-NM c,ug];exact af 0 (((hy C<|2^6)+J)+1) (hy (C+1) 64) (.p 1 (J+1) (qn<|2^6) .z) (aN _ _) O c
theorem Rr(a:N)(b:M N)(i:mZ 9 a b=X)(g:I):
 bz (bt w 20) (bu 6) ⟨bI 6,1,[],g,U⟩ [.liter (cX (a::b)),.ns [("iterator",.loc 0)]] (λo k=>o= .ret (.int (ib b (a&&&63) a).1)/\k[0]? =Q (.liter<|cX (ib b (a&&&63) a).2)):=by
 revert w a b i g
 apply U3
 generalize P2 _=w,Q2 _=a,Q1 _=b
 intro i g
 revert g
 apply U1
 generalize Z1 _=g
 refine⟨MF<|ib b (a&&&63) a,⟨9,_,a,b,?_,O,i,?_⟩,?_⟩
 .rw [<-kd];rfl
 .have:a&&&63<64:=oW (by decide);exact af 0 (hy (C+1)<|64^9) 1152921504606846976 (.p 18014398509481984 (C+1) 64 .z) (bj _) O this
 .intro d k e
  revert e;refine mP λf a b p l c q=> ?_
  subst p
  refine⟨O,?_⟩
  have m:(nn (a:H) 64 !=0)=((a&&&64) !=0):=by rw [show nn (a:H) 64=((a&&&64:N):H) from kd a 64];cases a&&&64<;>rfl
  refine fc (λe=> ?_) λe=> ?_
  .rw [m] at e
   have j:((a&&&64)==0)=ai:=by simpa using e
   cases d with
   |zero=>have c:((a&&&64)==0)=X:=c;rw [j] at c;exact cY c
   |succ d=>cases b with
    |nil=>have c:((a&&&64)==0)=X:=c;rw [j] at c;exact cY c
    |cons h b=>
     have c:(((a&&&64)==0)||mZ d h b)=X:=c
     rw [j] at c
     have t:0<64^d:=ww<|by decide
     have u:f+1<=(f+1)*64^(d+1):=Nat.le_mul_of_pos_right _<|ww (by decide)
     refine bc (by lia) ?_
     refine⟨d,_,by exact ba _,cG (by rfl) (by rfl)<|.same O (.same O .nil),(f<<<6)|||(h&&&63),h,b,?_,?_,c,?_⟩
     .rw [<-uD,<-kd,<-ac2];rfl
     .rw [<-l,LR,e];rfl
     .have r:=af4 f h
      have n:((f<<<6|||h&&&63)+1)*64^d<=(f+1)*64*64^d:=Nat.mul_le_mul_right _ r
      rw [NK,Nat.mul_comm 64,<-wx] at n
      exact aK n q
  .rw [m] at e
   have s:(a&&&64)=0:=by simpa using e
   rw [<-l,DJ s];exact⟨O,O⟩
noncomputable def ge(a:N->ah):M N->N->M N
 |[],_=> []
 |d::c,b=>bif a d then b::ge a c (b+1) else ge a c (b+1)
noncomputable def ke(a:N)(b:M N):M N:=b.map λc=>2^(c+a)
noncomputable def ec(e:M (I×N))(a:I)(b:N):M (I×N):=match e with
 |[]=> [(a,b)]
 |c::d=>bif aI (c.1=a) then(c.1,b)::d else c::ec d a b
theorem ak5(a:I×N)(b:M (I×N))(c:I)(d:N):ec (a::b) c d=bif aI (a.1=c) then(a.1,d)::b else a::ec b c d:=O
noncomputable def mN(a:M N)(b:N):N:=(ke 0<|ge (λc=>aI<|au c=au b) a 0).sum
noncomputable def nJ(b:M N):M N->M (I×N)->M (I×N)
 |[],a=>a
 |c::d,a=>nJ b d<|ec a (au c) (mN b c)
noncomputable def vA(a:M N):ca:=⟨(ke 1<|ge (λb=>aI<|au b=bC "\n") a 0).sum,nJ a a [],2^a.length⟩
noncomputable def lS(a:N->ah)(b:N):R->ag R
 | .tup c=>(match c with
  |[d,e]=>(match d,e with
   | .int f,.str g=>bif a (g.cps.toList.headD 0) then Q (.int ((2^(f.toNat+b):N):H)) else U
   |_,_=>U)
  |_=>U)
 |_=>U
theorem Yt(c:N->ah)(g:N):∀(d:M N) (a:N),((d.map λb=>R.str ⟨#[b]⟩).mapIdx λe f=>R.tup [.int ((a+e:N):H),f]).filterMap (lS c g)=cX (ke g<|ge c d a):=by
 intro h
 induction h with
 |nil=>exact λa=>O
 |cons b d i=>
  exact λa=>by
   have j:=i<|a+1;rw [da,zC,ii];have k:((d.map λb=>R.str ⟨#[b]⟩).mapIdx λe f=>R.tup [.int ((a+(e+1):N):H),f])=((d.map λb=>R.str ⟨#[b]⟩).mapIdx λe f=>R.tup [.int ((a+1+e:N):H),f]):=by congr 1;funext e f;rw [lz,fS 1 e]
   rw [k,j];have l:lS c g (.tup [.int ((a+0:N):H),.str ⟨#[b]⟩])=bif c b then Q (.int ((2^(a+g):N):H)) else U:=O
   rw [l];have m:ge c (b::d) a=bif c b then a::ge c d (a+1) else ge c d (a+1):=O
   rw [m];cases c b<;>rfl
theorem GY(a:N->ah)(b:N)(c:M N):(dW<|c.map λd=>R.str ⟨#[d]⟩).filterMap (lS a b)=cX (ke b<|ge a c 0):=by rw [<-Yt];unfold dW;congr 2;funext e f;rw [fw]
theorem HX:∀a:M N,nN (cX a)=Q (a.map λ(b:N)=>(b:H)):=by
 intro c
 induction c with
 |nil=>exact O
 |cons b a d=>exact by refine(?_:(nN<|cX a).map _=_);rw [d];rfl
theorem Dw:∀a:M N,(a.map λ(b:N)=>(b:H)).sum=(a.sum:N):=by
 intro c
 induction c with
 |nil=>exact O
 |cons b a d=>exact by rw [da,ud,d,ud];rfl
theorem ag4:∀(b:M N) (a:N),(b.take a).sum<=b.sum:=by
 intro c
 induction c with
 |nil=>exact λa=>by rw [Ez];exact ba _
 |cons f b d=>
  intro e
  cases e with
  |zero=>exact cy _
  |succ a=>exact by rw [zI,ud,ud];exact kB (d a) _
theorem Lo(c:m.sum<4611686018427387904):yM (m.map λ(a:N)=>(a:H)):=λb _=>by rw [<-zG,Dw];have:=ag4 m b;lia
theorem xv(c:h∈dW (m.map λb=>R.str ⟨#[b]⟩)):∃(a b:N),a<m.length/\h= .tup [.int (a:H),.str ⟨#[b]⟩]:=by
 unfold dW at c;obtain⟨a,d,e⟩:=wh.mp c
 rw [rU,aW] at d;rw [zz,ua] at e;exact⟨a,_,d,e.symm⟩
theorem GW(a:M N):(dW<|a.map λb=>R.str ⟨#[b]⟩).length=a.length:=by unfold dW;rw [rU,aW]
theorem Hl(b:c7 t=X):lS c7 a (.tup [.int d,.str ⟨#[t]⟩])=Q (.int ((2^(d+a):N):H)):=by
 have c:lS c7 a (.tup [.int d,.str ⟨#[t]⟩])=bif c7 t then Q (.int ((2^(d+a):N):H)) else U:=O
 rw [c,b];rfl
theorem Hj(b:c7 t=ai):lS c7 a (.tup [.int d,.str ⟨#[t]⟩])=U:=by
 have c:lS c7 a (.tup [.int d,.str ⟨#[t]⟩])=bif c7 t then Q (.int ((2^(d+a):N):H)) else U:=O
 rw [c,b];rfl
theorem Hk(b:lS c7 a (.tup [.int a5,.str g])=Q h):h.flat=X:=by
 have c:lS c7 a (.tup [.int a5,.str g])=bif c7 (g.cps.toList.headD 0) then Q (.int ((2^(a5.toNat+a):N):H)) else U:=O
 rw [c] at b;revert b
 cases c7 (g.cps.toList.headD 0) with
 |true=>intro b;(revert b;refine aL λd=> ?_;subst d);rfl
 |false=>intro b;exact aU b
theorem Qe(d:N->ah)(b:N):∀(c:M N) (a:N),(ke b<|ge d c a).sum+2^(a+b)<=2^(a+c.length+b):=by
 intro g
 induction g with
 |nil=>exact λa=>by refine(?_:0+2^(a+b)<=2^(a+0+b));simp
 |cons e c h=>
  exact λa=>by
   have f:=h<|a+1;have i:ge d (e::c) a=bif d e then a::ge d c (a+1) else ge d c (a+1):=O
   have j:2^(a+1+b)=2^(a+b)+2^(a+b):=by rw [fg,wx];exact nS (hy C 2) (C+C) (bj _) O
   rw [j] at f;rw [i,gO,show a+(c.length+1)+b=a+1+c.length+b by exact nS (C+(J+1)+aj) (C+1+J+aj) (bk _ _ _) O]
   cases d e with
   |true=>show((2^(a+b))::ke b (ge d c<|a+1)).sum+_<=_;rw [ud];exact af 0 (C+J+C) aj (.p 1 (J+(C+C)) aj .z) (bk _ _ _) O f
   |false=>show(ke b<|ge d c (a+1)).sum+_<=_;have:=ww (n:=a+b) (show 0<2 by decide);exact af 0 (C+J) aj (.p 1 (C+(J+J)) aj .z) (bk _ _ _) O f
theorem xg(b:N->ah)(c:a<=1)(d:m.length<=16):(ke a<|ge b m 0).sum<131072:=by have e:=Qe b a m 0;have f:2^(0+m.length+a)<=2^17:=EK (by decide) (by exact af 0 (0+C+J) 17 (.p 1 J 1<|.p 1 C 16 .z) (aN _ _) O c d);have g:0<2^(0+a):=ww (by decide);exact af 0 (C+1) 131072 (.p 1 (C+J) aj<|.p 1 aj (qn<|2^17) (.p 1 (0+1) J .z)) (bk _ _ _) O e f g
noncomputable def dY(b:M (I×N)):M (I×R):=b.map λa=>(a.1,.int a.2)
def Mt(a:M N)(e f:I)(g:N)(h:M R)(i:M (I×R))(j:M G):Prop:=∀d:M (I×R)->M G->Prop,(∀(b:M N) (c:M (I×N)) (k:ag R) (m:h=b.map (λl=> .str ⟨#[l]⟩)) (n:nJ a b c=nJ a a []) (o:c.length+b.length<=16),d (dY c) [.ns [("want",.str f),("gaps",.int g)],.cell (Q<|.str e),.ns [],.ns [],.cell k])->d i j
theorem yY(a:I)(d:N):∀b:M (I×N),gK (dY b) a (.int d)=dY (ec b a d):=by
 intro f
 induction f with
 |nil=>exact O
 |cons g b h=>
  obtain⟨c,e⟩:=g
  exact by refine(?_:(bif aI (c=a) then(c,R.int d)::dY b else(c,.int e)::gK (dY b) a (.int d))=dY (bif aI (c=a) then(c,d)::b else(c,e)::ec b a d));rw [h];cases aI (c=a)<;>rfl
theorem vK(b:I)(d:N):∀a:M (I×N),(ec a b d).length<=a.length+1:=by
 intro e
 induction e with
 |nil=>exact ba _
 |cons f a g=>
  obtain⟨c,h⟩:=f
  exact by
   refine(?_:(bif aI (c=b) then(c,d)::a else(c,h)::ec a b d).length<=_);have:=g
   cases aI (c=b) with
   |true=>exact nj _
   |false=>exact fi this
theorem Rb(f k l m a:I)(u:I)(v:fU f "..." "\n"=k)(x:fU k "\n\n" "\n"=l)(y:fU l "\n\n" "\n"=m)(z:fU m "\n\n" "\n"=a)
 (A:f.length<=1000) (B:k.length<=1000) (D:l.length<=1000) (E:m.length<=1000) (c:a.length<=16):
 bz (bt w 20) (bu 66) ⟨bI 66,0,[("items",1)],u,U⟩ [.ns [("want",.str f)],.cell U] (λY K=>Y= .ret (vA a.cps.toList).av):=by
 revert w f k l m a u v x y z A B D E c
 apply U7
 generalize P6 _=w,Q6 _=f,Q5 _=k,Q4 _=l,Q3 _=m,Q2 _=a,Q1 _=u
 intro v x y z A B D E c
 have q:(bC "\n").length=1:=by decide+kernel
 refine bc (by rw [q];exact af 0 (C+(hy (C+1) 1)) 16777216 (.p 2 C 1000 .z) (bj _) O A) ?_
 rw [v]
 refine bc (by rw [q];exact af 0 (C+(hy (C+1) 1)) 16777216 (.p 2 C 1000 .z) (bj _) O B) ?_
 rw [x]
 refine bc (by rw [q];exact af 0 (C+(hy (C+1) 1)) 16777216 (.p 2 C 1000 .z) (bj _) O D) ?_
 rw [y]
 refine bc (by rw [q];exact af 0 (C+(hy (C+1) 1)) 16777216 (.p 2 C 1000 .z) (bj _) O E) ?_
 rw [z]
 refine kW (lS (λg=>aI<|au g=bC "\n") 1) cW O ?_ ?_ ?_ ?_
 .rw [GW];exact cd c<|by decide
 .intro r h Z d
  refine dw (λL e n i=> ?_)<|xv h;obtain rfl:=i
  refine fc (λb=> ?_) λb=> ?_
  .rw [Hl b] at d
   refine uJ O (by exact aw 0 0 (F+1) (.p 1 0 F .z) (aG _) O<|cj _) (by have:a.cps.toList.length=a.length:=O;exact as6 _ _ _ c n this) ?_
   exact d _<|cG (by rfl) (by rfl) (.same O<|.same O (.ns O .nil))
  .rw [Hj b] at d;exact d _<|cG (by rfl) (by rfl) (.same O<|.same O (.ns O .nil))
 .intro r h a0 P
  refine dw (λL e n i=> ?_)<|xv h;obtain rfl:=i
  exact Hk P
 rw [GY]
 refine be (HX _) ?_
 refine bc (Lo<|fh (xg _ (ba _) c) (by decide)) ?_
 rw [Dw]
 refine⟨Mt a.cps.toList a f (ke 1<|ge (λg=>aI<|au g=bC "\n") a.cps.toList 0).sum,λ_ S=>S a.cps.toList [] U O O<|aK (dM<|fw _) c,?_,?_,?_⟩
 .intro a1 T K b
  apply b;clear b;intro j o V p s t
  exact⟨cW,O,O⟩
 .intro r a1 T K b
  apply b;clear b;intro j o V p s t
  cases j with
  |nil=>exact hq p
  |cons e j=>
   (revert p;refine gW λa2 a3=> ?_;subst a2;subst a3)
   refine kW (lS (λg=>aI<|au g=au e) 0) cW O ?_ ?_ ?_ ?_
   .rw [GW];exact cd c<|by decide
   .intro r h Z d
    refine dw (λL g n i=> ?_)<|xv h;obtain rfl:=i
    refine fc (λb=> ?_) λb=> ?_
    .rw [Hl b] at d
     refine uJ O (by exact aw 0 0 F (.p 1 0 F .z) (aG _) O<|cj _) (by have:a.cps.toList.length=a.length:=O;exact an2 _ _ _ c n this) ?_
     exact d _<|cG (by rfl) (by rfl) (.same O<|.same O (.same O<|.same O (.same O<|.ns O .nil)))
    .rw [Hj b] at d;exact d _<|cG (by rfl) (by rfl) (.same O<|.same O (.same O<|.same O (.same O<|.ns O .nil)))
   .intro r h a0 P
    refine dw (λL g n i=> ?_)<|xv h;obtain rfl:=i
    exact Hk P
   rw [GY]
   refine be (HX _) ?_
   refine bc (Lo<|fh (xg _ (cy _) c) (by decide)) ?_
   rw [Dw]
   refine bc (by unfold dY;rw [aW];exact cd (aK (dS _ _) t)<|by decide) ?_
   refine⟨_,rF (by rfl)<|.ns (v:=[("want",.str f),("gaps",.int _)]) (extra:=[]) O O (.same O O<|.same O O (.same O O<|.same O O .nil)),?_⟩
   rw [yY]
   exact λ_ S=>S j (ec o (au e)<|mN a.cps.toList e) (Q<|.str (au e)) O s<|aK (jS (vK (au e) (mN a.cps.toList e) o) _) (by rw [fg];exact t)
 .intro T K b
  apply b;clear b;intro j o V p s t
  cases j with
  |cons e j=>exact jc p
  |nil=>
   have a4:a.cps.toList.length=a.length:=O
   refine bc (by exact cd ‹_› (bA O)) ?_
   refine uJ O (by exact aw 0 0 F (.p 1 0 F .z) (aG _) O<|cj _) (by exact aK ‹_› (bA O)) ?_
   rw [show o=nJ a.cps.toList a.cps.toList [] from s]
   refine(?_:aY.ret _=aY.ret _)
   rw [show((2:H)^(a.length:H).toNat)=((2^a.cps.toList.length:N):H) from(zq 2 _).symm]
   rfl
noncomputable def yb(a:aC)(b:I)(c:M (I×N)):R:=match a with
 | .Lambda d e f _=> .clo d e f b c
 |_=> .none
noncomputable def nG(a:ag cD):aC:=match a with
 |some (.Assign _ b _)=>b
 |_=> .Constant .none 0 ⟨0,0,0,0⟩
noncomputable def Py:aC:=nG (bu 74)[5]?
abbrev bv:=M<|I×ah
variable{a8:bv}
noncomputable def bv.av(b:bv):M (I×R):=b.map λa=>(a.1,.bool a.2)
structure bx where
 f:I->ah
 S:M N
 V:I->Prop
variable{z:bx}
instance:fx bx:=⟨⟨λ_=>X,[],λ_=>kc⟩⟩
def dE(a:bx)(b:I):Prop:=∀c∈b.cps.toList,c∈a.S
def lp(a:bx)(b:I):Prop:=dE a b/\a.V b
structure cc(h:bx)(i:bv):Prop where
 ok:∀c∈i,c.2=h.f c.1/\lp h c.1/\c.1.length<1000000
 nod:(i.map (·.1)).Nodup
theorem XU(d:dE z g)(e:dE z T):dE z (g++T):=λb c=>by
 rw [Fe,tK] at c;obtain a|a:=dQ.mp c
 .exact d b a
 .exact e b a
theorem IH(b:cc z a8)(a:a8.av.lookup g=Q h):h= .bool (z.f g):=by
 replace b:=b.ok;unfold bv.av at a
 induction a8 with
 |nil=>exact aU a
 |cons c k e=>
  obtain⟨f,l⟩:=c
  rw [da,ee] at a
  cases d:g==f with
  |true=>rw [d] at a;(revert a;refine aL λi=> ?_;subst i);rw [hd d];exact bq R.bool (b _<|.head _).1
  |false=>rw [d] at a;exact e a λc j=>b c<|.tail _ j
theorem VU(a:a8.av.lookup g=U):g∉a8.map (·.1):=by
 unfold bv.av at a
 induction a8 with
 |nil=>nofun
 |cons d i e=>
  obtain⟨c,j⟩:=d
  rw [da,ee] at a
  cases b:g==c with
  |true=>rw [b] at a;cases a
  |false=>rw [b] at a;exact λf=>(bO.mp f).elim (λh=>by rw [show g=c from h,jx] at b;cases b)<|e a
theorem VX(c:cc z a8)(a:I)(d:lp z a)(e:a.length<1000000)(f:a8.av.lookup a=U):cc z (a8++ [(a,z.f a)]):=⟨λg h=>by
 obtain b|b:=dQ.mp h
 .exact c.ok g b
 .rw [bU] at b;rw [b];exact⟨O,d,e⟩,by
 rw [de];exact zH.mpr ⟨c.nod,lx.mpr ⟨nofun,oD⟩,λi j m k l=>VU f<|(l.trans (bU.mp k):i=a)▸j⟩⟩
theorem VV(a:bv)(b:I)(c:ah):a.av++ [(b,.bool c)]=bv.av (a++ [(b,c)]):=by unfold bv.av;rw [de];rfl
theorem Kf(b:N->ag R):∀a:bv,R.rend b a.av=Q a.av:=by
 intro a
 induction a with
 |nil=>exact O
 |cons c d e=>
  obtain⟨f,g⟩:=c
  exact by refine(?_:(R.rend b<|bv.av d).map (λh=>(f,R.bool g)::h)=_);rw [e];rfl
noncomputable def aX(a:M I):M R:=a.map .str
theorem jB(b:N->ag R):∀a:M I,R.rens b (aX a)=Q (aX a):=by
 intro a
 induction a with
 |nil=>exact O
 |cons c d e=>exact by refine(?_:(R.rens b<|aX d).map (λa=>R.str c::a)=_);rw [e];rfl
theorem Dr:∀a:M I,mg (aX a)=Q a:=by
 intro a
 induction a with
 |nil=>exact O
 |cons b c d=>exact by refine(?_:(mg<|aX c).map (λa=>b::a)=_);rw [d];rfl
noncomputable def kM(a:I)(b c:N):R:=yb Py a [("want",c),("known",b)]
noncomputable def te(a:I)(b:N)(c:bv):M G:=[.cell (Q<|.loc 2),.cell (Q<|.str a),.dict b c.av]
noncomputable def mM(a:bx)(b:I)(c:M I):M I:=c.map λd=>if a.f (b++d) then "1" else "0"
theorem eh{a:ag E}{b:E}{c:E->ag f5}{d:f5}(e:a=Q b)(f:c b=Q d):bL a c=Q d:=by subst e;exact f
theorem yH(b:c[a]? =Q b9):c.set a b9=c:=by refine ay (λd e=> ?_)<|fq.mp b;rw [<-e];exact List.set_getElem_self d
theorem al0(h:c[a]? =Q (.cell<|Q (.loc t)))(i:c[d]? =Q (.cell<|Q (.str g)))(b:c[t]? =Q (.dict a2 a8.av))
 (e:cc z a8) (v:a8.length<1000000) (o:lp z T) (p:T.length<1000000) (q:∀(c:M G) (s:aQ),s (.bool<|z.f T) c->w (.raw<|bS 9) [.str g,.str T] [] c s)
 (j:∀r k,cc z k->a8.length<=k.length->k.length<=a8.length+1->s (.bool<|z.f T) (c.set t (.dict r<|bv.av k)++ [.ns [("word",.str T)]])):
 rB (bt w<|b8+10) (kM f9 a d) (.str T) c s:=by
 revert w z g T f9 c a d t a2 b8 a8 s h i b e v o p q j
 apply U13
 generalize P12 _=a,Q12 _=d,Q11 _=t,Q10 _=a2,Q9 _=b8,Q8 _=g,Q7 _=T,Q6 _=f9,Q5 _=c,Q4 _=s,Q3 _=w,Q2 _=a8,Q1 _=z
 intro h i b e v o p q j
 have u:(c++ [G.ns [("word",.str T)]])[a]? =Q (.cell<|Q (.loc t)):=by rw [jM (fq.mp h).1];exact h
 have x:(c++ [G.ns [("word",.str T)]])[d]? =Q (.cell<|Q (.str g)):=by rw [jM (fq.mp i).1];exact i
 have l:(c++ [G.ns [("word",.str T)]])[t]? =Q (.dict a2 a8.av):=by rw [jM (fq.mp b).1];exact b
 have m:(c++ [G.ns [("word",.str T)]])[c.length]? =Q (.ns [("word",.str T)]):=by simp
 refine be (eh O<|eh m O) ?_
 refine be (eh O<|eh O (eh u O)) ?_
 refine be l ?_
 refine fc (λn=> ?_) λn=> ?_
 .refine be (eh O<|eh O (eh u O)) ?_
  refine be (eh O<|eh m O) ?_
  refine be (eh l O) ?_
  refine ay (λy f=> ?_)<|NT.mp n
  refine be f ?_
  rw [IH e f]
  have:=j a2 a8 e (ba _)<|nj _
  rw [yH b] at this
  exact this
 .refine be (eh O<|eh O (eh u O)) ?_
  refine be (eh (eh l O) O) ?_
  refine be (eh O<|eh m O) ?_
  refine be (eh O<|eh O (eh x O)) ?_
  refine be (eh O<|eh m O) ?_
  refine q _ _ ?_
  refine be l ?_
  refine bc (by unfold bv.av;rw [aW];exact aK ‹_› (bA O)) ?_
  have f:fa T a8.av=U:=by
   cases a2:fa T a8.av with
   |none=>rfl
   |some y=>rw [a2] at n;exact gX n
  rw [f]
  intro r
  have:=j r _ (VX e T o p f) (by rw [bN];exact dS _ _)<|by rw [bN];exact ba _
  rw [VV,List.set_append_left _ _ (fq.mp b).1]
  exact this
theorem DO:(bC "").length=0:=by decide+kernel
theorem Td:∀(b:M I) (c:N),(∀a∈b,a.length=1)->b.foldl (λe a=>e+a.length+(bC "").length) c=c+b.length:=by
 intro f
 induction f with
 |nil=>exact λc _=>O
 |cons a b g=>exact λc d=>by rw [Em,g _ λh i=>d h<|.tail _ i,d a (.head _),DO,gO];exact nS (C+1+0+J) (C+(J+1)) (aN _ _) O
theorem Wu(a:bx)(b:I)(d:M I):∀c∈mM a b d,c.length=1:=λc e=>by
 refine ac (λf h g=> ?_)<|cT.mp e;obtain rfl:=g
 cases a.f (b++f) with
 |true=>show(bC "1").length=1;decide+kernel
 |false=>show(bC "0").length=1;decide+kernel
def DY(b:bx)(h c:I)(d:M I)(i:N)(j:I)(k:M R)(l:M R)(m:M G):Prop:=∀f:M R->M G->Prop,(∀(a g:M I) (e:bv) (n:N) (p:k=aX a) (q:cc b e) (r:e.length+a.length<=i) (s:g++mM b c a=mM b c d) (t:∀o∈a,o∈d),f (aX g) (te h n e++ [.list (aX d),.ns [("tails",.loc 3)],.cell (Q<|kM j 0 1),.cell (Q<|.str c),.ns []]))->f l m
def nf(j:bY)(c:bx)(k:I)(l:I)(g h:N):Prop:=∀(d:I) (a:M G) (f m:N) (b:bv) (i:aQ),a[g]? =Q (.cell<|Q (.loc f))->a[h]? =Q (.cell<|Q (.str k))->a[f]? =Q (.dict m b.av)->cc c b->b.length<1000000->d.length<1000000->lp c d-> (∀n e,cc c e->b.length<=e.length->e.length<=b.length+1->i (.bool<|c.f d) (a.set f<|.dict n (bv.av e)))->j (kM l g h) [.str d] [] a i
theorem Ra(c:bx)(j d:I)(a:M I)(k:N)(e:bv)(B l:I)(D:cc c e)(x:a.length<=100)(g:N)(n:e.length+a.length<=g)(o:g<1000000)(p:∀f∈a,d.length+f.length<1000000)(q:∀f∈a,lp c (d++f))
 (r:nf w c j l 0 1):
 bz (bt w 20) (bu 69) ⟨bI 69,4,[("head",6),("ask",5)],B,U⟩ (te j k e++ [.list (aX a),.ns [("tails",.loc 3)],.cell (Q<|kM l 0 1),.cell (Q<|.str d)]) (λa3 y=>a3= .ret (.str<|oG "" (mM c d a))/\∃k e,y.take 4=te j k e++ [.list (aX a)]/\cc c e/\e.length<=g):=by
 revert w c j d a k e B l D x g n o p q r
 apply U9
 generalize P8 _=w,Q8 _=c,Q7 _=j,Q6 _=d,Q5 _=a,Q4 _=k,Q3 _=e,Q2 _=B,Q1 _=l
 intro D x g n o p q r
 revert n o p q r
 revert g
 apply U1
 generalize Z1 _=g
 intro n o p q r
 refine⟨DY c j d a g l,λ_ E=>E a [] e k O D n O λ_ h=>h,?_,?_,?_⟩
 .intro a4 S y h
  apply h;clear h;intro i b e k s z t u v
  exact⟨λb5 a5=>by(revert a5;refine aL λK=> ?_;subst K);rfl,O,O⟩
 .intro T a4 S y h
  apply h;clear h;intro i b A V s z t u v
  cases i with
  |nil=>exact hq s
  |cons f i=>
   (revert s;refine gW λK a6=> ?_;subst K;subst a6)
   have Y:=p f<|v f (.head _)
   have a7:A.length+1+i.length<=g:=by rw [fg];exact t
   refine bc (aK (dx Y)<|by decide) ?_
   refine r _ _ 2 _ A _ O O O z (cd (aK (dS _ _) t) o) (by rw [AA];exact Y) (q f<|v f (.head _)) λZ a0 a8 b6 a9=> ?_
   have b0:b.length+(i.length+1)=a.length:=by have:=bq iM u;unfold mM at this;rw [bN,aW,aW] at this;exact this
   have a1:(aX b).length<1048576:=by rw [show(aX b).length=b.length from aW ..];exact cd (aK (dS _ _)<|aK (dM b0) x)<|by decide
   have a2:∀m,(if c.f (d++f) then "1" else "0":I)=m->hj 8 (DY c j d a g l (aX i)<|aX b++ [.str m])
    (te j Z a0++ [.list (aX a),.ns [("tails",.loc 3)],.cell (Q<|kM l 0 1),.cell (Q<|.str d),.ns [("tail",.str f)]]):=λm b1=>by
    refine⟨_,cG (by rfl) (by rfl)<|.same O (.same O<|.same O (.same O<|.same O (.same O<|.same O (.ns (v:=[]) (extra:=[_]) O .nil)))),?_⟩
    rw [show aX b++ [.str m]=aX (b++ [m]) from(de (f:=R.str) (l₁:=b) (l₂:=[m])).symm]
    exact λ_ E=>E i (b++ [m]) a0 Z O a8 (aK (jS a9 _) a7) (by rw [<-u,<-b1];simp [mM]) λT b2=>v T<|.tail _ b2
   refine fc (λL=> ?_) λL=> ?_
   .exact bc a1<|a2 _ (by rw [L];rfl)
   .exact bc a1<|a2 _ (by rw [L];rfl)
 .intro S y h
  apply h;clear h;intro i b A V s z t u v
  cases i with
  |cons f i=>exact jc s
  |nil=>
   have P:b=mM c d a:=(cZ b).symm.trans u
   refine be (Dr b) ?_
   refine bc ?_ ?_
   .have b3:=Td b 0<|by rw [P];exact Wu c d a
    have b4:b.length=a.length:=by rw [P];exact aW ..
    exact aK (dM b3)<|aK (dM<|by rw [fw,b4]) (aK x<|by decide)
   .rw [P];exact⟨O,V,A,O,z,t⟩
noncomputable def cS(a:bx)(b:M I)(c:I):I:=oG ""<|mM a c b
noncomputable def xu:N->M I->M R
 |_,[]=> []
 |a,b::c=> .tup [.int a,.str b]::xu (a+1) c
theorem So:∀(d:M I) (a:N),(aX d).mapIdx (λb c=>R.tup [.int ((a+b:N):H),c])=xu a d:=by
 intro d
 induction d with
 |nil=>exact λa=>O
 |cons f e g=>
  exact λa=>by
   have h:((aX e).mapIdx λb c=>R.tup [.int ((a+(b+1):N):H),c])=((aX e).mapIdx λb c=>R.tup [.int ((a+1+b:N):H),c]):=by congr 1;funext b c;rw [lz,fS 1 b]
   refine(?_:(R.str f::aX e).mapIdx _=_);rw [zC,h,g (a+1)];rfl
theorem Sp(a:M I):dW (aX a)=xu 0 a:=by rw [<-So];unfold dW;congr 1;funext b c;rw [fw]
noncomputable def jD(b:I->I):M I->N->M (I×N)->M (I×N)
 |[],_,a=>a
 |d::e,c,a=>jD b e (c+1)<|ec a (b d) c
noncomputable def ra(a:I)(b:N)(c:bv)(d:M I):M G:=te a b c++ [.list (aX d)]
def oS(a:bx)(b:M I)(c:I):Prop:=∀d∈b,lp a (c++d)
def rS(i:bY)(b:bx)(f j:I)(a:M I)(k:N):Prop:= ∀(c:I) (g:M G) (l:N) (d:bv) (h:aQ),c.length<900000/\oS b a c->cc b d->d.length+a.length<=k->(∀m e,cc b e->e.length<=d.length+a.length->h (.str<|cS b a c) (ra f m e a++g))-> i (.raw<|bS 69) [kM j 0 1,.str c,.loc 3] [] (ra f l d a++g) h
noncomputable def rb(a:I)(b:N)(c:bv)(d:M I)(e:I)(f:M (I×R))(g:ag R)(h:M G):M G:= ra a b c d++ .ns f:: .cell (Q<|kM e 0 1):: .cell (Q<|.loc 3):: .cell g::h
def MA(c:bx)(j k:I)(a l f:M I)(m:N)(n:M R)(o:M (I×R))(p:M G):Prop:=∀g:M (I×R)->M G->Prop,(∀(h:N) (b:M I) (d:M (I×N)) (q:N) (e:bv) (r:n=xu h b) (s:cc c e) (t:e.length+(b.length+16)*a.length<=m) (u:jD (cS c a) b h d=jD (cS c a) f 0 []) (v:∀i∈b,i.length<900000/\oS c a i) (w:d.length+b.length<=8),g (dY d) (rb j q e a k [("pair",.lst (aX l)),("kept",.lst (aX f))] U [.ns []]))->g o p
theorem Rj(x:rS w z g T a4 a)(f c:M I)(h:N)(d:bv)(j:I)(k:cc z d)(l:d.length+(c.length+16)*a4.length<=a)(m:c.length<=8)(n:∀b∈c,b.length<900000/\oS z a4 b):
 bz (bt w 20) ((bu 70).take 1) ⟨bI 70,4,[("shelf",7),("tails",6),("ask",5)],j,U⟩ (rb g h d a4 T [("pair",.lst (aX f)),("kept",.lst (aX c))] U []) (λP r=>P= .next/\∃S y V,r=rb g S y a4 T [("pair",.lst (aX f)),("kept",.lst (aX c)),("states",.loc 9)] U [.ns [],.dict V (dY<|jD (cS z a4) c 0 [])]/\cc z y/\y.length+16*a4.length<=a):=by
 revert w z g T a4 a x f c h d j k l m n
 apply U6
 generalize P5 _=a4,Q5 _=a,Q4 _=g,Q3 _=T,Q2 _=w,Q1 _=z
 intro x f c h d j k l m n
 revert k l m n
 revert f c h d j
 apply U5
 generalize P4 _=f,Q4 _=c,Q3 _=h,Q2 _=d,Q1 _=j
 intro k l m n
 refine⟨MA z g T a4 f c a,λ_ A=>A 0 c [] h d (Sp c) k l O n<|aK (dM<|fw _) m,?_,?_,?_⟩
 .intro Y K r b
  apply b;clear b;intro o e p h d q s i t u v
  exact⟨cW,O,O⟩
 .intro L Y K r b
  apply b;clear b;intro o e p B D q s i t u v
  cases e with
  |nil=>exact hq q
  |cons b e=>
   (revert q;refine gW λZ a0=> ?_;subst Z;subst a0)
   have a1:(b::e).length=e.length+1:=O
   rw [a1,fg,NR,<-lz] at i
   refine x b _ B D _ (u b<|.head _) s (aK (jS (dS _ _) _) i) λE a2 a3 a5=> ?_
   refine bc (by unfold dY;rw [aW];exact cd (aK (dS _ _) v)<|by decide) ?_
   refine⟨_,cG (by rfl) (by rfl)<|.same O (.same O<|.same O (.same O<|.same O (.same O<|.same O (.same O<|.ns O .nil)))),?_⟩
   rw [yY]
   exact λ_ A=>A (o+1) e (ec p (cS z a4 b) o) E a2 O a3 (aK (jS a5 _)<|by rw [fg];exact i) t (λL a6=>u L<|.tail _ a6)<|aK (jS (vK (cS z a4 b) o p) _) (by rw [fg];exact v)
 .intro K r b
  apply b;clear b;intro o e p B D q s i t u v
  cases e with
  |cons b e=>exact jc q
  |nil=>
   intro E
   refine⟨O,B,D,E,?_,s,by rw [wf,fw] at i;exact i⟩
   rw [show p=jD (cS z a4) c 0 [] from t]
   rfl
noncomputable def mL(c:M I)(d:M I):M I:=d.foldl (λa b=>a.insertIdx (cV (fE a b) 0 a.length) b) c
def pY(f:bY):Prop:=∀(b:N) (a:M I) (c:I) (d:M G) (e:aQ),d[b]? =Q (.list<|aX a)->a.length<100000->e .none (d.set b<|.list (aX<|a.insertIdx (cV (fE a c) 0 a.length) c))->f (.raw<|bS 1) [.loc b,.str c] [] d e
noncomputable def JA(b:I)(c:N)(d:bv)(e:M I)(f:I)(g a:M I)(h:N)(i:M (I×N))(j:M I)(k:M (I×R))(l:M G):M G:= rb b c d e f (("pair",.lst (aX g))::("kept",.lst (aX a))::("states",.loc 9)::("heads",.loc 10)::("moves",.loc 12)::k) (Q<|.loc 11) (.ns []:: .dict h (dY i):: .list (aX a):: .list (aX j):: .list []:: .ns []::l)
def MB(f:I)(g:N)(h:bv)(i:M I)(j:I)(k l:M I)(m:N)(n:M (I×N))(o:M I)(c:N)(p:M R)(q:M R)(r:M G):Prop:=∀d:M R->M G->Prop,(∀(a b:M I) (e:N) (s:p=aX a) (t:mL b a=o) (u:b.length+a.length<=c) (v:e+a.length<=c),d (cP e .none) (JA f g h i j k l m n b [] []))->d q r
theorem Rk(t:pY w)(d c:M I)(e:N)(f:bv)(h:N)(a:M (I×N))(l:I)(m:c.length<=8)(i:a.length<=8):
 bz (bt w 20) (((bu 70).drop 1).take 2) ⟨bI 70,4,[("shelf",7),("tails",6),("ask",5)],l,U⟩ (rb g e f a4 T [("pair",.lst (aX d)),("kept",.lst (aX c)),("states",.loc 9)] U [.ns [],.dict h (dY a)]) (λz p=>z= .next/\∃j,p=JA g e f a4 T d c h a (mL [] (a.map (·.1))) [("laid",.lst (cP j .none))] []/\j<=8):=by
 revert w g T a4 t d c e f h a l m i
 apply U4
 generalize P3 _=a4,Q3 _=g,Q2 _=T,Q1 _=w
 intro t d c e f h a l m i
 revert m i
 revert d c e f h a l
 apply U7
 generalize P6 _=d,Q6 _=c,Q5 _=e,Q4 _=f,Q3 _=h,Q2 _=a,Q1 _=l
 intro m i
 have x:0+(a.map (·.1)).length<=a.length:=by rw [fw,aW];exact ba _
 refine bc (by unfold aX;rw [aW];exact aK m<|by decide) ?_
 refine⟨MB g e f a4 T d c h a (mL [] (a.map (·.1))) a.length,λ_ u=>u (a.map (·.1)) [] 0 ?_ O x x,?_,?_,?_⟩
 .refine(?_:ft _ (dY a)=_);unfold dY aX;rw [jq,jq];rfl
 .intro A y p b
  apply b;clear b;intro k q j n r s o
  exact⟨λE B=>by(revert B;refine aL λv=> ?_;subst v);rfl,O,O⟩
 .intro K A y p b
  apply b;clear b;intro k q j n r s o
  cases k with
  |nil=>exact hq n
  |cons b k=>
   (revert n;refine gW λv D=> ?_;subst v;subst D)
   refine t 11 q _ _ _ O (cd (aK (dS _ _)<|aK s i)<|by decide) ?_
   refine bc (by rw [rV];exact cd (aK (dS _ _)<|aK o i)<|by decide) ?_
   refine⟨_,cG (by rfl) (by rfl)<|.same O (.same O<|.same O (.same O<|.same O (.same O<|.same O (.same O<|.same O (.same O<|.same O (.same O<|.same O (.ns O .nil))))))),?_⟩
   rw [<-Ex]
   exact λ_ u=>u k _ (j+1) O r (aK (jS (Nh ..) _)<|by rw [fg];exact s)<|by rw [fg];exact o
 .intro y p b
  apply b;clear b;intro k q j n r s o
  cases k with
  |cons b L=>exact jc n
  |nil=>
   refine⟨O,j,?_,aK o i⟩
   rw [show mL [] (a.map (·.1))=q from r.symm]
   rfl
structure Tb where
 hl:M I
 sh:M I
 st:M (I×N)
 mv:bw
variable{f4:Tb}
instance:fx Tb:=⟨⟨[],[],[],[]⟩⟩
noncomputable def ha(a:M I)(b:I):N:=cV (iE a b) 0 a.length
noncomputable def lW(a:M I)(b:I):ah:=(ha a b==a.length)|| !aI (a.getD (ha a b) b=b)
noncomputable def Dz(a:Tb)(c b:I):Tb:=⟨a.hl++ [c],a.sh.insertIdx (cV (fE a.sh b) 0 a.sh.length) b,ec a.st b a.hl.length,a.mv⟩
noncomputable def hb(c:I->I)(a:Tb)(b:I):Tb:=bif lW a.sh (c b) then Dz a b (c b) else a
noncomputable def mU(c:I->I)(d:N)(a:Tb×M (I×N))(b:I):Tb×M (I×N):= (hb c a.1<|a.1.hl.getD d ""++b,ec a.2 b (((hb c a.1<|a.1.hl.getD d ""++b).st.lookup<|c (a.1.hl.getD d ""++b)).getD 0))
noncomputable def pN(b:I->I)(c:N):M I->Tb×M (I×N)->Tb×M (I×N)
 |[],a=>a
 |d::e,a=>pN b c e<|mU b c a d
noncomputable def tz(a:Tb×M (I×N)):Tb:=⟨a.1.hl,a.1.sh,a.1.st,a.1.mv++ [a.2]⟩
noncomputable def jf(c:I->I)(d:M I)(b:N)(a:Tb):Tb:=bif aI (b<a.hl.length) then tz (pN c b d (a,[])) else a
noncomputable def li(b:I->I)(c:M I):N->N->Tb->Tb
 |0,_,a=>a
 |e+1,d,a=>li b c e (d+1)<|jf b c d a
structure hL(j:I->Prop)(h:N)(c:Tb):Prop where
 hl:c.hl.length<=h
 sh:c.sh.length<=h
 st:c.st.length<=h
 mv:c.mv.length<=8
 len:∀i∈c.hl,i.length<=100000+h/\j i
 key:∀o∈c.sh,∃v,c.st.lookup o=Q v
theorem yZ(a:I)(b:N):∀c:M (I×N),(ec c a b).lookup a=Q b:=by
 intro g
 induction g with
 |nil=>exact by refine(?_:fa a [(a,b)]=_);simp
 |cons h c i=>
  obtain⟨d,f⟩:=h
  exact by
   refine(?_:fa a (bif aI (d=a) then(d,b)::c else(d,f)::ec c a b)=_);by_cases e:d=a
   .subst e;simp
   .rw [cN e];refine(?_:fa a ((d,f)::ec c a b)=_);rw [ee,eP.mpr (jr e)];exact i
theorem LN(b:N)(d:T≠g):∀a:M (I×N),(ec a g b).lookup T=a.lookup T:=by
 intro h
 induction h with
 |nil=>exact by refine(?_:fa T [(g,b)]=U);rw [ee,eP.mpr d];rfl
 |cons i a j=>
  obtain⟨c,e⟩:=i
  exact by
   refine(?_:fa T (bif aI (c=g) then(c,b)::a else(c,e)::ec a g b)=_);by_cases f:c=g
   .subst f;rw [ck O];refine(?_:fa T ((c,b)::a)=_);rw [ee,ee,eP.mpr d]
   .rw [cN f];refine(?_:fa T ((c,e)::ec a g b)=_);rw [ee,ee,j]
theorem kP(d:N->ah):∀(f b a:N),b<=a->dr d f b a<=a:=by
 intro h
 induction h with
 |zero=>exact λb a e=>e
 |succ f g=>
  exact λb a e=>by
   rw [lM];by_cases c:b<a
   .rw [ck c]
    refine(?_:(bif d ((b+a)/2) then _ else _)<=a)
    cases d ((b+a)/2) with
    |true=>exact aK (g b _<|by exact af 1 C J (.p 1 (C+1) aj<|.p 1 (bn 2 J) (C+aj) (.p 2 (C+aj+1) (bn 2<|J+1) .z)) (bk _ _ _) O c (jV _ _)<|qp _ (bA O))<|by exact af 1 C J (.p 1 (aj+1) J<|.p 1 (bn 2 C) (aj+J) .z) (bk _ _ _) O c<|jV _ _
    |false=>exact g _ a<|by exact af 1 (C+1) J (.p 1 (aj+1) J<|.p 1 (bn 2 C) (aj+J) .z) (bk _ _ _) O c<|jV _ _
   .rw [cN c];exact e
theorem hL.new{row:I->I}{w:I}(b:hL m8 a f4)(l:w.length<=100000+a+1/\m8 w):hL m8 (a+1) (hb row f4 w)/\∃g,(hb row f4 w).st.lookup (row w)=Q g:=by
 unfold hb
 cases e:lW f4.sh (row w) with
 |false=>
  refine⟨⟨hf b.hl,hf b.sh,hf b.st,b.mv,λd f=>⟨hf (b.len d f).1,(b.len d f).2⟩,b.key⟩,?_⟩;unfold lW at e;rw [Bool.or_eq_false_iff] at e;have c:ha f4.sh (row w)≠f4.sh.length:=by simpa using e.1
  have i:f4.sh.getD (ha f4.sh<|row w) (row w)=row w:=by simpa using e.2
  have m:ha f4.sh (row w)<=f4.sh.length:=kP _ _ _ _<|cy _;refine b.key _ ?_;have j:ha f4.sh (row w)<f4.sh.length:=iO m c;rw [ed,gz j] at i;exact(show f4.sh[ha f4.sh (row w)]=row w from i)▸mu j
 |true=>
  refine⟨⟨?_,?_,?_,b.mv,λd f=> ?_,λk n=> ?_⟩,f4.hl.length,yZ _ _ _⟩
  .refine(?_:(f4.hl++ [w]).length<=_);rw [bN];exact fi b.hl
  .exact aK Nh<|fi b.sh
  .exact aK (vK _ _ _)<|fi b.st
  .obtain c|c:=dQ.mp<|show d∈f4.hl++ [w] from f
   .exact⟨hf (b.len d c).1,(b.len d c).2⟩
   .rw [bU] at c;subst c;exact l
  .by_cases h:k=row w
   .subst h;exact⟨_,yZ _ _ _⟩
   .refine ay (λg o=> ?_)<|b.key k ((Eu<|kP _ _ _ _ (cy _)).mp n|>.resolve_left h);exact⟨g,(LN _ h _).trans o⟩
noncomputable def mQ(b:I)(c:N)(d:bv)(e:M I)(f:I)(g h:M I)(i:M R)(j:N)(a:Tb)(k:M R)(l:M (I×R))(m:M G):M G:= rb b c d e f (("pair",.lst (aX g))::("kept",.lst (aX h))::("states",.loc 9)::("heads",.loc 10)::("moves",.loc 12)::("laid",.lst i)::l) (Q<|.loc 11) (.ns []:: .dict j (dY a.st):: .list (aX a.hl):: .list (aX a.sh):: .list k:: .ns []::m)
noncomputable def dv(a:bw):M R:=a.map rA
noncomputable def tp:N->N->M R
 |_,0=> []
 |a,b+1=> .int a::tp (a+1) b
def tM(f:bY):Prop:=∀(c:N) (a:M I) (d:I) (b:M G) (e:aQ),b[c]? =Q (.list<|aX a)->a.length<100000->e (.int (cV (iE a d) 0 a.length:N)) b->f (.raw<|bS 4) [.loc c,.str d] [] b e
theorem HL(a:ve .Or n=X):n=ai:=by cases n with
 |true=>exact cY a
 |false=>rfl
theorem HK(a:ve .Or n=ai):n=X:=by cases n with
 |false=>exact gX a
 |true=>rfl
noncomputable def fz(b:N)(c:R)(a:N):ag R:=bif aI (a<b) then Q (.loc a) else bif aI (a=b) then Q c else U
theorem yw(b:N->ag R):∀a:M (I×N),R.rend b (dY a)=Q (dY a):=by
 intro a
 induction a with
 |nil=>exact O
 |cons c d e=>
  obtain⟨f,g⟩:=c
  exact by refine(?_:(R.rend b<|dY d).map (λa=>(f,R.int g)::a)=_);rw [e];rfl
theorem Ho:∀a:M (I×N),R.flatd (dY a)=X:=by
 intro a
 induction a with
 |nil=>exact O
 |cons b d c=>
  obtain⟨e,f⟩:=b
  exact c
theorem YH(a:N->ag R)(d:a 14=Q h):∀(b:bw),R.rens a (dv b++ [.loc 14])=Q (dv b++ [h]):=by
 intro e
 induction e with
 |nil=>exact by refine(?_:bL (a 14) _=_);rw [d];rfl
 |cons c b f=>exact by refine(?_:bL ((R.rend a<|dY c).map .dct) (λg=>(R.rens a<|dv b++ [.loc 14]).map (g:: ·))=_);rw [yw a c,f];rfl
theorem WP(c:N->ag R)(a:N)(b:M (I×N)):G.ren c (.dict a<|dY b)=Q (.dict a<|dY b):=bq (eU<|G.dict a)<|yw c b
theorem hT(b:N->ag R)(a:M I):G.ren b (.list<|aX a)=Q (.list<|aX a):=bq (eU G.list)<|jB b a
theorem kZ(c:N->ag R)(a:N)(b:bv):G.ren c (.dict a b.av)=Q (.dict a b.av):=bq (eU<|G.dict a)<|Kf c b
theorem WQ(a:N->ag R)(c:a 14=Q h)(b:bw):G.ren a (.list<|dv b++ [.loc 14])=Q (.list<|dv b++ [h]):=bq (eU G.list)<|YH a c b
noncomputable def Ls(a b:M I)(c:M R):M (I×R):=[("pair",.lst (aX a)),("kept",.lst (aX b)),("states",.loc 9),("heads",.loc 10),("moves",.loc 12),("laid",.lst c)]
theorem YI(a:N->ag R)(b:a 9=Q (.loc 9))(c:a 10=Q (.loc 10))(d:a 12=Q (.loc 12))(e:R.rens a q=Q q):
 R.rend a (Ls a4 d6 q)=Q (Ls a4 d6 q):=by
 exact hr (rx<|jB a _)<|hr (rx<|jB a _) (hr b<|hr c (hr d<|hr (rx e) O))
theorem Ds(a:M I)(b:I):aX a++ [.str b]=aX (a++ [b]):=by unfold aX;rw [de];rfl
theorem nM{b:M E}(c:a<b.length)(d:E):b.getD a d∈b:=by rw [ed,gz c];exact mu c
theorem Tp(b:a0.length=a):(dv a0++ [h])[a]? =Q h:=by
 have:(dv a0).length=a:=by unfold dv;rw [aW];exact b
 rw [<-this];simp
noncomputable def vo:ag cD->M cD
 |some (.For _ _ a _ _)=>a
 |some (.While _ a _ _)=>a
 |_=> []
noncomputable def BR(a:ag cD):M cD:=match a with
 |some (.If _ b _ _)=>b
 |_=> []
noncomputable def ah2:M cD:=vo ((bu 70).drop 3)[0]?
noncomputable def Lw:M cD:=BR ah2[0]?
noncomputable def yR:M cD:=vo Lw[1]?
noncomputable def Lv:M cD:=BR yR[2]?
noncomputable def ty(a:I):bf:=⟨bI 70,4,[("shelf",7),("tails",6),("ask",5)],a,U⟩
structure lK where
 want:I
 tails:M I
 q0:I
 pair:M I
 kept:M I
 nl:M R
variable{k2:lK}
instance:fx lK:=⟨by constructor<;>first|exact kv|exact Classical.choice inferInstance|exact λ_ _ _ _=>True⟩
noncomputable def lZ(a:lK)(b:N)(c:bv)(d:N)(e:Tb)(f:M R)(g:M (I×R))(h:M G):M G:=mQ a.want b c a.tails a.q0 a.pair a.kept a.nl d e f g h
def My(e:bx)(c:lK)(h:N)(i:Tb)(j:M R)(k:M G):Prop:=∀g:M G->Prop,(∀(a d:N) (b:Tb) (l m:N) (f:bv) (n:j=tp a d) (o:cc e f) (p:f.length+(2*d)*c.tails.length<=h) (q:a+d=8) (r:hL (dE e) (8+2*a) b) (s:b.mv.length=a\/b.hl.length<=a) (t:li (cS e c.tails) c.pair d a b=i),g (lZ c l f m b (dv b.mv) [] []))->g k
def Mz(d:bx)(e:lK)(j c:N)(k:Tb×M (I×N))(l:M R)(m:M G):Prop:=∀i:M G->Prop,(∀(a:M I) (b:Tb) (f:M (I×N)) (n o p:N) (g:bv) (q:l=aX a) (r:cc d g) (s:g.length+a.length*e.tails.length<=j) (t:hL (dE d) (8+2*(c+1) - a.length) b) (u:a.length<=2) (v:f.length+a.length<=2) (w:b.mv.length=c) (x:c<b.hl.length) (y:pN (cS d e.tails) c a (b,f)=k) (z:∀h∈a,(h.length=1/\dE d h)/\h∈e.pair),i (lZ e n g o b (dv b.mv++ [.loc 14]) [("turn",.int c)] [.dict p (dY f)]))->i m
theorem WX(a:T∈f4.hl):T∈(hb m9 f4 g).hl:=by
 unfold hb
 cases lW f4.sh (m9 g) with
 |false=>exact a
 |true=>exact eH _ a
theorem Dj{d:I->I}{e:N}{f:I}:∀{b:M I} {a:Tb×M (I×N)},f∈a.1.hl->f∈(pN d e b a).1.hl
 |[],_,c=>c
 |g::b,a,c=>Dj (b:=b) (a:=mU d e a g)<|WX c
theorem BO{e:I->I}{f:M I}{g:I}:∀{d b:N} {a:Tb},g∈a.hl->g∈(li e f d b a).hl
 |0,_,_,c=>c
 |d+1,b,a,c=>BO (d:=d) (b:=b+1) (a:=jf e f b a) (by
  unfold jf
  cases aI (b<a.hl.length) with
  |false=>exact c
  |true=>exact Dj (a:=(a,[])) c)
noncomputable abbrev vH(a:N)(b c:I)(d:H):M (I×R):=[("turn",.int a),("sign",.str b),("told",.str c),("spot",.int d)]
theorem Gr(e:f4.st.lookup T=Q a2)(c:f4.mv.length=a)(f:a<=8)(h:g8.length<=2)
 (i:∀b,Z .next (lZ k2 d a8 t f4 (dv f4.mv++ [.loc 14]) (vH a g T a5) [.dict b (dY<|ec g8 g a2)])):
 bz (bt w 17) (yR.drop 3) (ty f9) (lZ k2 d a8 t f4 (dv f4.mv++ [.loc 14]) (vH a g T a5) [.dict b8 (dY g8)]) Z:=by
 refine be (ye e) ?_
 refine fL O (L:= .loc 14) (Tp c) (by unfold dv;rw [bN,aW,c];exact cd (fi f)<|by decide) ?_
 refine bc (by unfold dY;rw [aW];exact cd h<|by decide) λb=> ?_
 rw [yY]
 exact i b
theorem Ri{k:I}(l:pY w)(b:hL (dE z) a2 f4)(e:a2<=30)(j:a<f4.hl.length)(m:f4.hl.getD a ""++g=T)(n:g.length=1)
 (o:∀h,Z .next (lZ k2 d a8 h (Dz f4 T f9) (dv f4.mv++ [.loc 14]) (vH a g f9 a5) c)):
 bz (bt w 16) Lv (ty k) (lZ k2 d a8 t f4 (dv f4.mv++ [.loc 14]) (vH a g f9 a5) c) Z:=by
 have f:(aX f4.hl).length=f4.hl.length:=aW ..
 have p:(dY f4.st).length=f4.st.length:=aW ..
 have i:=aK b.hl e
 have q:=aK b.st e
 have r:=(b.len _<|nM j "").1
 refine l 11 f4.sh f9 _ _ O (cd (aK b.sh e)<|by decide) ?_
 refine bc (by rw [f];exact cd i<|by decide) ?_
 refine bc (by rw [p];exact cd q<|by decide) λh=> ?_
 rw [f,yY]
 refine fL O (L:= .str<|f4.hl.getD a "") (hn j "") (by rw [f];exact cd i<|by decide) ?_
 refine bc (by rw [n];exact aK (fi<|aK r (kB e _))<|by decide) ?_
 refine bc (by rw [f];exact cd i<|by decide) ?_
 rw [m,Ds]
 exact o h
theorem Rh(v:rS w z k2.want k2.q0 k2.tails a)(x:pY w)(y:tM w)(A:cc z a8)(B:a8.length+k2.tails.length<=a)(e:hL (dE z) j4 f4)(i:j4<=30)(l:f4.mv.length=d)(f:d<f4.hl.length)(j:g.length=1/\dE z g)(D:oS z k2.tails (f4.hl.getD d ""++g))(o:g8.length<=2)(p:∀E m b4 k c K b5,cc z m->m.length<=a8.length+k2.tails.length->hL (dE z) (j4+1) k->k.mv=f4.mv->d<k.hl.length->mU (cS z k2.tails) d (f4,g8) g=(k,ec g8 g c)->e0 (lZ k2 E m b4 k (dv k.mv++ [.loc 14]) (("turn",.int d)::b5) [.dict K (dY<|ec g8 g c)])):
 bz (bt w 17) yR (ty T) (lZ k2 t a8 a2 f4 (dv f4.mv++ [.loc 14]) [("turn",.int d),("sign",.str g)] [.dict b8 (dY g8)]) (qO e0 Z):=by
 revert w z k2 a d t a8 a2 f4 g b8 j4 g8 T e0 Z v x y A B e i l f j D o p
 apply U16
 generalize P15 _=g8,Q15 _=a,Q14 _=d,Q13 _=t,Q12 _=a2,Q11 _=b8,Q10 _=j4,Q9 _=g,Q8 _=T,Q7 _=e0,Q6 _=Z,Q5 _=w,Q4 _=a8,Q3 _=z,Q2 _=f4,Q1 _=k2
 intro v x y A B e i l f j D o p
 have b6:(aX f4.hl).length=f4.hl.length:=aW ..
 have q:(aX f4.sh).length=f4.sh.length:=aW ..
 have b7:=aK e.hl i
 have L:=aK e.sh i
 refine aA (λa0 b9=> ?_)<|e.len _ (nM f "")
 have a1:(f4.hl.getD d ""++g).length=(f4.hl.getD d "").length+1:=(AA _ _).trans<|bq _ j.1
 have a3:=aK a0<|kB i _
 refine fL O (L:= .str<|f4.hl.getD d "") (hn f "") (by rw [b6];exact cd b7<|by decide) ?_
 refine bc (by rw [j.1];exact aK (fi a3)<|by decide) ?_
 refine v (f4.hl.getD d ""++g) _ t a8 _ ⟨by rw [a1];exact cd (fi a3)<|by decide,D⟩ A B λE m a4 a5=> ?_
 refine aA (λr s=> ?_)<|e.new (row:=cS z k2.tails) (w:=f4.hl.getD d ""++g) ⟨by rw [a1];exact fi a0,XU b9 j.2⟩
 have u:∀c,(hb (cS z k2.tails) f4<|f4.hl.getD d ""++g).st.lookup (cS z k2.tails<|f4.hl.getD d ""++g)=Q c->mU (cS z k2.tails) d (f4,g8) g=(hb (cS z k2.tails) f4<|f4.hl.getD d ""++g,ec g8 g c):=λc h=>by unfold mU;rw [h];rfl
 generalize c0:f4.hl.getD d ""++g=n at*
 generalize a6:cS z k2.tails n=b at*
 have a7:d<=8:=l▸e.mv
 have a9:∀b0,lW f4.sh b=X->bz (bt w 16) Lv (ty T) (lZ k2 E m a2 f4 (dv f4.mv++ [.loc 14]) (vH d g b b0) [.dict b8 (dY g8)]) (md (bz (bt w 17)<|yR.drop 3) (ty T)<|qO e0 Z):=λb0 P=>by
  have S:hb (cS z k2.tails) f4 n=Dz f4 n b:=by unfold hb;rw [a6,P];rfl
  rw [S] at r s u;revert s;refine ay λc h=> ?_;exact Ri x e i f c0 j.1 λc3=>Gr h l a7 o λK=>p _ _ _ _ _ _ _ a4 a5 r O (ij f<|by refine(?_:_<=(f4.hl++ [n]).length);rw [bN];exact dS _ _)<|u c h
 refine y 11 f4.sh b _ _ O (cd L<|by decide) ?_
 refine bc (by rw [q];exact cd L<|by decide) ?_
 have c1:ha f4.sh b<=f4.sh.length:=kP (iE f4.sh b) (f4.sh.length - 0) 0 f4.sh.length<|cy _
 refine fc (λV=> ?_) λV=> ?_
 .have b1:ha f4.sh b≠f4.sh.length:=λT=>by
   have b2:((ha f4.sh b:H)==((aX f4.sh).length:H))=ai:=HL V;rw [q,T,jx] at b2;exact gX b2
  have c2:=iO c1 b1;refine fL O (L:= .str<|f4.sh.getD (ha f4.sh b) b) (hn c2 b) (by rw [q];exact cd L<|by decide) ?_;refine fc (λY=> ?_) λY=> ?_
  .have P:lW f4.sh b=ai:=by unfold lW;rw [eP.mpr b1,show(!aI (f4.sh.getD (ha f4.sh b) b=b))=ai from HL Y];rfl
   have S:hb (cS z k2.tails) f4 n=f4:=by unfold hb;rw [a6,P];rfl
   rw [S] at r s u;revert s;refine ay λc h=> ?_;exact Gr h l a7 o λK=>p _ _ _ _ _ _ _ a4 a5 r O f<|u c h
  .exact a9 _<|by unfold lW;rw [show(!aI (f4.sh.getD (ha f4.sh b) b=b))=X from HK Y];exact zi _
 .exact a9 _<|by have b3:(ha f4.sh b:H)=((aX f4.sh).length:H):=hd<|HK V;rw [q] at b3;unfold lW;rw [MI b3,jx];rfl
theorem Rg(y:rS w z k2.want k2.q0 k2.tails a)(A:pY w)(B:tM w)(j:k2.pair.length=2)(D:∀b∈k2.pair,b.length=1/\dE z b)(E:cc z a8)(K:a8.length+2*k2.tails.length<=a)(L:hL (dE z) (8+2*d) f4)(n:d<8)(o:f4.mv.length=d)(P:d<f4.hl.length)(S:∀p∈(pN (cS z k2.tails) d k2.pair (f4,[])).1.hl,∀b∈k2.pair,oS z k2.tails (p++b))(T:∀t k a2 f e l,cc z k->k.length<=a8.length+2*k2.tails.length->hL (dE z) (8+2*(d+1)) f->f.mv.length=d->pN (cS z k2.tails) d k2.pair (f4,[])=(f,e)->Z .next (lZ k2 t k a2 f (dv f.mv++ [.loc 14]) [("turn",.int d)] [.dict l (dY e)])):
 bz (bt w 18) Lw (ty g) (lZ k2 t a8 a2 f4 (dv f4.mv) [("turn",.int d)] []) Z:=by
 revert w z k2 a d t a8 a2 f4 g Z y A B j D E K L n o P S T
 apply U11
 generalize P10 _=a,Q10 _=d,Q9 _=t,Q8 _=a2,Q7 _=g,Q6 _=Z,Q5 _=w,Q4 _=a8,Q3 _=z,Q2 _=f4,Q1 _=k2
 intro y A B j D E K L n o P S T
 intro l
 refine bc (by unfold dv;rw [aW,o];exact fh n<|by decide) ?_
 refine⟨Mz z k2 (a8.length+2*k2.tails.length) d<|pN (cS z k2.tails) d k2.pair (f4,[]),⟨_,pL _,λ_ V=>V k2.pair f4 [] t a2 l a8 O E (dM<|by rw [j]) (by rw [j];exact L) (dM j) (dM<|(fw _).trans j) o P O λb q=>⟨D b q,q⟩⟩,?_,?_,?_⟩
 .intro a6 a3 h
  apply h;intros
  exact⟨cW,O⟩
 .intro p a6 a3 h
  apply h;clear h;intro c f4 e t a2 l a8 r Y i s m u v a0 x a1
  cases c with
  |nil=>exact hq r
  |cons b c=>
   (revert r;refine gW λa7 a9=> ?_;subst a7;subst a9)
   refine aA (λq b0=> ?_)<|a1 b (.head _)
   have b1:(b::c).length=c.length+1:=O
   rw [b1] at i s m u
   rw [NR] at i
   have b2:e.length+1<=2:=aK (kB (fi<|cy _) _) u
   refine Rh y A B (g:=b) (j4:=8+2*(d+1) - (c.length+1)) Y (aK (kB (EE _ _) _)<|aK i K) s (aK (lC _ _)<|aK (kB (wu 2 n) 8) (by decide)) v a0 q (S _ (x▸Dj (a:=(f4,e)) (nM a0 _)) b b0) (EF b2) λb3 k b4 f a4 b5 c2 b6 b7 a5 b8 b9 c0=> ?_
   refine⟨_,cG (by rfl) (by rfl)<|.same O (.same O<|.same O (.same O<|.ns (v:=[("pair",.lst (aX k2.pair)),("kept",.lst (aX k2.kept)),("states",.loc 9),("heads",.loc 10),("moves",.loc 12),("laid",.lst k2.nl),("turn",.int d)]) O (.same O<|.same O (.same O<|.same O (.same O<|.same O (.same O<|.same O (.same O<|.same O .nil))))))),λ_ V=>V c f (ec e b a4) b3 b4 b5 k O b6 (aK (jS b7 _)<|by rw [lz,fS k2.tails.length];exact i) ?_ (EF m) ?_ (b8▸v) b9 ?_ λp c1=>a1 p<|.tail _ c1⟩
   .rw [show 8+2*(d+1) - (c.length+1)+1=8+2*(d+1) - c.length by exact aZ (af 0 (C+1) J (.q 1 (C+(aj+1)) (8+(bn 2<|bo+1))<|.p 1 (8+(bn 2<|bo+1)) (J+aj) .z) (di _ _ _ _) O (dD<|af 0 (C+1) (8+(bn 2<|J+1)) (.p 1 (C+1) 2 .z) (aN _ _) O m)<|dz _ _)<|af 0 C (J+1) (.p 1 (8+(bn 2<|aj+1)) (J+(bo+1))<|.q 1 (C+bo) (8+(bn 2<|aj+1)) .z) (di _ _ _ _) O (dz _ _) (dD<|af 0 C (8+(bn 2<|J+1)) (.p 1 (C+1) 2 .z) (aN _ _) O m)] at a5;exact a5
   .have:=vK b a4 e;exact af 0 (C+J) 2 (.p 1 (aj+(J+1)) 2<|.p 1 C (aj+1) .z) (bk _ _ _) O u this
   .rw [<-x,<-c0];rfl
 .intro a3 h
  apply h;clear h;intro c f4 e t a2 l a8 r Y i s m u v a0 x a1
  cases c with
  |cons b c=>exact jc r
  |nil=>exact T _ _ _ _ _ _ Y (by rw [wf,Nat.zero_mul] at i;exact i) s v x.symm
theorem WR(a:N->ag R)(c:a 14=Q (.dct<|dY g8))(b:bw):G.ren a (.list<|dv b++ [.loc 14])=Q (.list<|dv (b++ [g8])):=(WQ a c b).trans<|by unfold dv;rw [de];rfl
theorem Rl(a3:rS w z g T a4 a)(a5:pY w)(a6:tM w)(a7:∀b2,bM.get? b2=U->(b2==cR)=ai)(c o:M I)(m:M R)(x:∀b9,R.rens b9 m=Q m)(y:c.length=2)(A:∀r∈c,r.length=1/\dE z r)(n:I)(b:Tb)(f h:N)(d:bv)
 (B:cc z d) (D:d.length+16*a4.length<=a) (E:hL (dE z) 8 b) (K:b.mv=[]) (L:∀j∈(li (cS z a4) c 8 0 b).hl,∀r∈c,oS z a4 (j++r)):
 bz (bt w 20) (((bu 70).drop 3).take 1) ⟨bI 70,4,[("shelf",7),("tails",6),("ask",5)],n,U⟩ (mQ g f d a4 T c o m h b (dv b.mv) [] []) (λc0 a0=>c0= .next/\∃p f d h,p=li (cS z a4) c 8 0 b/\a0=mQ g f d a4 T c o m h p (dv p.mv) [] []/\cc z d/\d.length<=a):=by
 revert w z a g T a4 a3 a5 a6 a7 c o m x y A n b f h d B D E K L
 apply U6
 generalize P5 _=a4,Q5 _=a,Q4 _=g,Q3 _=T,Q2 _=w,Q1 _=z
 intro a3 a5 a6 a7 c o m x y A n b f h d B D E K L
 revert x y A B D E K L
 revert c o m n b f h d
 apply U8
 generalize P7 _=c,Q7 _=o,Q6 _=m,Q5 _=n,Q4 _=b,Q3 _=f,Q2 _=h,Q1 _=d
 intro x y A B D E K L
 refine bc ⟨by decide,by decide⟩ ?_
 refine bc (by decide) ?_
 refine⟨My z ⟨g,a4,T,c,o,m⟩ a<|li (cS z a4) c 8 0 b,⟨_,pL _,λ_ s=>s 0 8 b f h d O B D O E (.inl<|by rw [K] at ⊢;rfl) O⟩,?_,?_,?_⟩
 .intro c1 a0 j
  apply j;clear j;intro e i b f h d P S V a1 l a8 t
  exact⟨cW,O⟩
 .intro b3 c1 a0 j
  apply j;clear j;intro e i b f h d P S V a1 l a8 t
  cases i with
  |zero=>exact hq P
  |succ i=>
   (revert P;refine gW λY c2=> ?_;subst Y;subst c2)
   have u:(aX b.hl).length=b.hl.length:=aW ..
   have a9:e<8:=a1▸wp (fT i)
   have b4:e+1+i=8:=by rw [<-a1,fg] at ⊢;rfl
   have c3:=aK l.hl<|kB (wu 2<|dx a9) 8
   have b0:d.length+2*a4.length+2*i*a4.length<=a:=by rw [Nat.mul_succ,Nat.add_mul,fS (2*i*a4.length),<-lz] at V;exact V
   refine bc (by rw [u] at ⊢;exact cd c3<|by decide) ?_
   refine nH (λk=> ?_) λk=> ?_
   .have k:e<b.hl.length:=by rw [u] at k;exact jn.mp k
    have b5:∀b1,pN (cS z a4) e c (b,[])=b1->jf (cS z a4) c e b=tz b1:=λb1 f=>by unfold jf;rw [ck k,<-f] at ⊢;rfl
    refine Rg a3 a5 a6 (k2:=⟨g,a4,T,c,o,m⟩) y A S (aK (dS _ _) b0) l a9 (a8.resolve_right<|zP.mpr k) k (λb3 c4 r c5=>L b3 (t▸BO (d:=i) (b:=e+1) (a:=jf (cS z a4) c e b) (by rw [b5 _ O] at ⊢;exact c4)) r c5) λf c6 h p v c7 c8 c9 Z b6 d0=> ?_
    refine⟨_,KS a7 (fz 14<|.dct (dY v)) (λb7 s q=> ?_) (by rfl)<|.same O O (.same O O<|.same O (kZ _ _ _) (.same O (hT _ _)<|.ns O (YI _ O O O<|x _) (.same O O<|.same O O (.same O O<|.same O O (.same O (WP _ _ _)<|.same O (hT _ _) (.same O (hT _ _)<|.same O (WR _ O p.mv) (.same O O .nil))))))),λ_ s=>s (e+1) i (tz (p,v)) f h c6 O c8 (aK (jS c9 _) b0) b4 ?_ (.inl ?_) ?_⟩
    .unfold fz at q
     by_cases n:b7<14
     .rw [ck n] at q;(revert q;refine aL λY=> ?_;subst Y);exact .inl ⟨n,O⟩
     .rw [cN n] at q
      by_cases b8:b7=14
      .subst b8;(revert q;refine aL λY=> ?_;subst Y);exact .inr<|.inl ⟨c7,dY v,ba 14,O,Ho v,O⟩
      .rw [cN b8] at q;exact aU q
    .exact⟨Z.hl,Z.sh,Z.st,by refine(?_:(p.mv++ [v]).length<=8);rw [bN,b6] at ⊢;exact a9,Z.len,Z.key⟩
    .refine(?_:(p.mv++ [v]).length=e+1);rw [bN,b6] at ⊢;rfl
    .rw [<-t,<-b5 _ d0] at ⊢;rfl
   .have k:b.hl.length<=e:=by rw [u] at k;exact vV.mp<|mq.mp k
    refine⟨_,cG (by rfl) (by rfl)<|.same O (.same O<|.same O (.same O<|.ns O (.same O<|.same O (.same O<|.same O (.same O<|.same O (.same O<|.same O (.same O .nil))))))),λ_ s=>s (e+1) i b f h d O S (aK (jS (dS _ _) _) b0) b4 ?_ (.inr<|hf k) ?_⟩
    .have a2:8+2*e<=8+2*(e+1):=dS _ 2;exact⟨aK l.hl a2,aK l.sh a2,aK l.st a2,l.mv,λj u=>⟨aK (l.len j u).1<|kB a2 _,(l.len j u).2⟩,l.key⟩
    .rw [<-t] at ⊢;refine(?_:_=li _ _ i (e+1) (jf (cS z a4) c e b));rw [show jf (cS z a4) c e b=b by unfold jf;rw [cN (cq.mpr k)];rfl] at ⊢
 .intro a0 j
  apply j;clear j;intro e i b f h d P S V a1 l a8 t
  cases i with
  |succ i=>exact jc P
  |zero=>exact⟨O,b,f,d,h,t,O,S,aK (dS _ _) V⟩
theorem xo:∀a:N,R.datas (cP a .none)=Q (cP a .none):=by
 intro b
 induction b with
 |zero=>exact O
 |succ a c=>exact by refine(?_:(R.datas<|cP a .none).map (λd=>PyData.none::d)=_);rw [c];rfl
theorem SN:∀a:N,(cP a [R.none]).flatten=cP a .none:=by
 intro b
 induction b with
 |zero=>exact O
 |succ a c=>exact bq (R.none:: ·)<|c
theorem Kg(a:N)(b:N->ag R):R.rens b (cP a .none)=Q (cP a .none):=by
 induction a with
 |zero=>rfl
 |succ a c=>show(R.rens b<|cP a .none).map (λd=>R.none::d)=_;rw [c];rfl
theorem Kj(b:a=d):(cP a<|[]++ [R.none]).flatten=cP d .none:=by subst b;exact SN a
theorem tw(a:N):ip (.list<|cP a .none)=X:=by
 have b:nq (cP a .none)=X:=by
  induction a with
  |zero=>rfl
  |succ a c=>rw [uc];unfold nq;rw [c];rfl
 have d:oL (cP a .none)=0:=by
  induction a with
  |zero=>rfl
  |succ a c=>rw [uc];unfold oL;rw [c (by rw [uc] at b;unfold nq at b;exact(fp.mp b).2)];rfl
 unfold ip oK sl;rw [b,d];rfl
theorem jy{a:M mx}(b:R.datas q=Q a):uM c (.lst q)=Q (oM a):=by refine(?_:(R.datas q).map oM=_);rw [b];rfl
theorem Rm(c d:M I)(a:N)(e:a<=8)(k:I)(b:Tb)(f h:N)(i:bv)(j:aY->M G->Prop)
 (l:j (.ret<|.tup [.loc 10,.loc 12]) (mQ g f i a4 T c d (cP a .none) h b (dv b.mv) [] [])):
 bz (bt w 20) ((bu 70).drop 4) ⟨bI 70,4,[("shelf",7),("tails",6),("ask",5)],k,U⟩ (mQ g f i a4 T c d (cP a .none) h b (dv b.mv) [] []) j:=by
 refine bc (by rw [rV];exact cd ‹_› (bA O)) ?_
 refine bc ⟨by exact aw 0 0 F (.p 1 0 F .z) (aG _) O<|cj _,by rw [rV];exact aw 0 (F+1) 1048577 (.p 1 F 8 .z) (aG _) O<|ak e,by rw [rV];refine(?_:1*_<=_);exact an3 _ e⟩ ?_
 rw [Kj (d:=a) (by rw [rV];rfl)]
 refine be (jy<|xo a) ?_
 refine be (jy<|xo a) ?_
 refine bc ⟨tw a,tw a⟩ ?_
 rw [nr _ (lF<|tw a)]
 exact l
abbrev bZ:=M<|N×N
variable{f3:bZ}{h8:bZ×M I}
noncomputable def fP(a:N×N):R:= .tup [.int a.1,.int a.2]
noncomputable def bB(a:bZ):M R:=a.map fP
noncomputable def lk(c:bw)(d:ca)(a:N×N)(b:I):N×N:=(iB c a.1 b,hU d a.2 b)
noncomputable def mm(c:bw)(d:ca)(e:N×N)(f b:I)(a:bZ×M I):bZ×M I:=bif aI (lk c d e b∈a.1) then a else(a.1++ [lk c d e b],a.2++ [f++b])
noncomputable def mX(b:bw)(c:ca)(d:N×N)(e:I):M I->bZ×M I->bZ×M I
 |[],a=>a
 |f::g,a=>mX b c d e g<|mm b c d e f a
theorem ai9(a:bw)(b:ca)(c:N×N)(d e:I)(f:M I)(g:bZ×M I):mX a b c d (e::f) g=mX a b c d f (mm a b c d e g):=O
noncomputable def mW(b:M ah)(c:ca)(a:N×N):ah:=b.getD a.1 ai !=((a.2&&&c.fin) !=0)
noncomputable def mY(d:bw)(c:ca)(e:M ah)(f:M I):N->N->bZ×M I->ag I
 |0,_,_=>U
 |g+1,a,b=>bif aI (a<b.1.length) then(bif mW e c (b.1.getD a (0,0)) then Q (b.2.getD a "") else mY d c e f g (a+1) (mX d c (b.1.getD a (0,0)) (b.2.getD a "") f b)) else U
theorem yW(d:bw)(c:ca)(e:M ah)(f:M I)(g a:N)(b:bZ×M I):mY d c e f (g+1) a b=(bif aI (a<b.1.length) then(bif mW e c (b.1.getD a (0,0)) then Q (b.2.getD a "") else mY d c e f g (a+1) (mX d c (b.1.getD a (0,0)) (b.2.getD a "") f b)) else U):=O
noncomputable def tF(b:bw)(c:ca)(d:M ah)(e:M I)(f:N)(a:I):ag I:=mY b c d e f 0 ([(fZ b a,gG c a)],[a])
noncomputable def gg(a:bw)(b:ca)(c:M ah)(d:M I)(e:N):M I->ag I
 |[]=>U
 |f::g=>match tF a b c d e f with
  |some h=>Q h
  |none=>gg a b c d e g
theorem yV(a:bw)(b:ca)(c:M ah)(d:M I)(e:N)(f:I)(g:M I):gg a b c d e (f::g)=(match tF a b c d e f with
 |some h=>Q h
 |none=>gg a b c d e g):=O
noncomputable def Hn(a:ag I):aY:=match a with
 |some b=> .ret<|.str b
 |none=> .next
structure it(i:bw)(j:N)(c:bZ×M I):Prop where
 len:c.1.length=c.2.length
 nod:c.1.Nodup
 rng:∀h∈c.1,h.1<i.length/\h.2<j
 wl:∀o∈c.2,o.length<=1000+c.1.length
theorem Xe [Mn E]:∀(c a:M E),c.Nodup->(∀b∈c,b∈a)->c.length<=a.length:=by
 intro g
 induction g with
 |nil=>exact λa _ _=>cy _
 |cons b c h=>exact λa i d=>by have e:=lx.mp i;have j:=h (a.erase b) e.2 λk f=>(List.mem_erase_of_ne<|by rintro rfl;exact e.1 f).mpr<|d k (.tail _ f);have l:=Nd<|d b (.head _);have m:0<a.length:=List.length_pos_of_mem<|d b (.head _);rw [gO];exact af 0 (C+1) J (.p 1 C aj<|.q 1 aj bo (.q 1 (bo+1) J .z)) (di _ _ _ _) O j l<|dD (af 0 1 C (.p 1 (0+1) C .z) (bj _) O m)
theorem it.bound(c:it a0 a h8):h8.1.length<=a0.length*a:=by
 have d:=Xe h8.1 ((dR a0.length).flatMap λe=>(dR a).map λf=>(e,f)) c.nod λb g=>by refine aA (λh i=> ?_)<|c.rng b g;exact oC.mpr ⟨b.1,qm.mpr h,cT.mpr ⟨b.2,qm.mpr i,O⟩⟩
 refine aK d<|dM ?_;rw [Nf];simp [Nj,Nv]
theorem it.one{P:ca}{p:N×N}{word:I}{s:I}(c:it a0 a h8)(g:(lk a0 P p s).1<a0.length/\(lk a0 P p s).2<a)(h:word.length<=1000+h8.1.length)(i:s.length=1):it a0 a (mm a0 P p word s h8):=by
 unfold mm;by_cases d:lk a0 P p s∈h8.1
 .rw [ck d];exact c
 .rw [cN d]
  refine⟨?_,?_,?_,?_⟩
  .refine(?_:(h8.1++ [_]).length=(h8.2++ [_]).length);rw [bN,bN,c.len];rfl
  .exact zH.mpr ⟨c.nod,lx.mpr ⟨jQ,oD⟩,λo j q e=>by rw [bU] at e;subst e;exact λk=>d<|k▸j⟩
  .intro l m
   obtain b|b:=dQ.mp m
   .exact c.rng l b
   .rw [bU] at b;subst b;exact g
  .intro f n
   refine(?_:f.length<=1000+(h8.1++ [_]).length)
   rw [bN]
   obtain b|b:=dQ.mp n
   .exact hf<|c.wl f b
   .rw [bU] at b;subst b;rw [AA,i];exact fi h
theorem Jq(b:a0.Ok m)(c:a<a0.length)(e:d∈m):iB a0 a (au d)<a0.length:=by refine ac (λh f g=> ?_)<|b.row _ (nM c []) d e;unfold iB;rw [g];exact f
theorem WT(f:a0.Ok m):∀(b:M N) (a:N),a<a0.length->(∀c∈b,c∈m)->pB a0 a b<a0.length:=by
 intro g
 induction g with
 |nil=>exact λa d _=>d
 |cons c b h=>exact λa d e=>h _ (Jq f d<|e c (.head _)) λi j=>e i<|.tail _ j
theorem yh(a:a0.Ok m)(b:I)(c:∀d∈b.cps.toList,d∈m):fZ a0 b<a0.length:=WT a _ _ a.pos c
def qD(e:bY)(b:bw)(f:M N):Prop:=∀(a:I) (c:M G) (d:aQ),(∀g∈a.cps.toList,g∈f)->d (.int (fZ b a:N)) c->e (.raw<|bS 71) [b.av,.str a] [] c d
def oo(e:bY)(a:ca):Prop:=∀(b:I) (c:M G) (d:aQ),d (.int (gG a b:N)) c->e (.raw<|bS 68) [a.av,.str b] [] c d
def wY(f:bY)(a:ca):Prop:=∀(b:N) (c:I) (d:M G) (e:aQ),e (.int (hU a b c:N)) d->f (.raw<|bS 67) [a.av,.int b,.str c] [] d e
noncomputable def hA(a:M ah):M R:=a.map .bool
noncomputable def yX(a:bw)(b:ca)(c:M ah)(d:M I)(e:I):M (I×R):=[("moves",a.av),("goals",.lst (hA c)),("pair",.lst (aX d)),("plan",b.av),("front",.str e)]
noncomputable def rc(b:bw)(c:ca)(d:M ah)(e:M I)(f g:I)(a:bZ×M I)(h:N)(i:M (I×R)):M G:= [.ns (("moves",b.av)::("goals",.lst (hA d))::("pair",.lst (aX e))::("plan",c.av)::("front",.str f)::("start",.str g)::("turn",.int h)::("words",.loc 2)::("seen",.loc 1)::i),.list (bB a.1),.list (aX a.2)]
structure kL(c:bw)(o:ca)(v:M ah)(i:M N)(h:N):Prop where
 mok:c.Ok i
 gl:v.length=c.length
 step:∀j,j<h->∀x∈i,hU o j (au x)<h
 sz:c.length*h<100000
def MC(d:bw)(a:ca)(e:M ah)(f:M I)(h:I)(i:N)(j:M N)(k:N)(l:ag I)(m:M R)(n:M G):Prop:=∀g:M G->Prop,(∀(b:M I) (p:m=aX b) (q:gg d a e f (i+1) b=l) (r:∀c∈b,c.length<=1000/\(∀o∈c.cps.toList,o∈j)/\gG a c<k),g [.ns (yX d a e f h)])->g n
def MD(c:bw)(d:ca)(e:M ah)(f:M I)(i j:I)(k l:N)(m:ag I)(g:N)(n:M G):Prop:=∀h:M G->Prop,(∀(a:bZ×M I) (b:N) (o:g+b=k) (p:b<=a.1.length) (q:mY c d e f (g+1) b a=m) (r:it c l a),h (rc c d e f i j a b []))->h n
def ME(d:bw)(f:ca)(i:M ah)(j:M I)(k l:I)(b:N×N)(g:I)(c:N)(m:M N)(n:N)(o:bZ×M I)(p:M R)(q:M G):Prop:=∀h:M G->Prop,(∀(e:M N) (a:bZ×M I) (s:p=aX (e.map au)) (t:mX d f b g (e.map au) a=o) (u:it d n a) (v:c<a.1.length) (w:a.1.getD c (0,0)=b) (x:a.2.getD c ""=g) (y:∀r∈e,r∈m),h (rc d f i j k l a c [("state",.int b.1),("can",.int b.2)]))->h q
noncomputable def ja(a:N×N):mx:= .tuple [.int a.1,.int a.2]
theorem Bs:∀a:bZ,R.datas (bB a)=Q (a.map ja):=by
 intro b
 induction b with
 |nil=>exact O
 |cons c a d=>exact by refine(?_:(R.datas<|bB a).map (λe=>ja c::e)=_);rw [d];rfl
theorem ac1(a:N×N):ip (ja a)=X:=by unfold ip ja;simp [oK,nq,sl,oL]
theorem yL(a:bZ):ip (.list<|a.map ja)=X:=by
 have c:nq (a.map ja)=X/\oL (a.map ja)<=1:=by
  induction a with
  |nil=>exact⟨O,cy _⟩
  |cons d a b=>rw [da];simp [nq,oL,ja,oK,sl] at b ⊢;exact⟨b.1,by exact Mb _ _ b⟩
 unfold ip oK sl;rw [c.1,ck (by have:=c.2;exact cd ‹_› (bA O))];rfl
theorem Sx(c d:N×N):my (ja c) (ja d)=aI (c=d):=by rw [oq];simp [ja,my,wI,Prod.ext_iff];exact⟨λa=>⟨aZ (bd<|aw 0 F W (.q 1 F W .z) (aP _ _) O a.1)<|bd (aw 0 F W (.f 1 W F .z) (aP _ _) O a.1),aZ (bd<|aw 0 F W (.q 1 F W .z) (aP _ _) O a.2)<|bd (aw 0 F W (.f 1 W F .z) (aP _ _) O a.2)⟩,λb=>⟨kw (aw 0 F W (.q 1 F W .z) (aP _ _) O<|ax b.1)<|aw 0 F W (.f 1 W F .z) (aP _ _) O (ax b.1),kw (aw 0 F W (.q 1 F W .z) (aP _ _) O<|ax b.2)<|aw 0 F W (.f 1 W F .z) (aP _ _) O (ax b.2)⟩⟩
theorem Pu(a:bZ)(b:N×N):((a.map ja).any λc=>my c<|ja b)=aI (b∈a):=by
 induction a with
 |nil=>simp
 |cons e a d=>rw [da,Eg,d,Sx];simp [bO,eq_comm]
theorem ad3(a:bZ)(b c:N):bB a++ [.tup [.int b,.int c]]=bB (a++ [(b,c)]):=by unfold bB;rw [de];rfl
theorem BN{b:M E}(d:a<b.length)(e:M E)(c:E):(b++e).getD a c=b.getD a c:=by rw [ed,ed,jM d]
theorem FZ(c:M ah)(b:ca)(a:N×N):(!c.getD a.1 ai== !nn (a.2:H) (b.fin:H)==0)=mW c b a:=by rw [kd];unfold mW;cases a.2&&&b.fin<;>rfl
theorem vC(a:N->ag R):∀b:bw,R.rens a (dv b)=Q (dv b):=by
 intro d
 induction d with
 |nil=>exact O
 |cons c b e=>exact by refine(?_:bL ((R.rend a<|dY c).map .dct) (λf=>(R.rens a<|dv b).map (f:: ·))=_);rw [yw a c,e];rfl
theorem yv(b:N->ag R):∀a:M ah,R.rens b (hA a)=Q (hA a):=by
 intro a
 induction a with
 |nil=>exact O
 |cons c d e=>exact by refine(?_:(R.rens b<|hA d).map (λa=>R.bool c::a)=_);rw [e];rfl
theorem pI(a:N->ag R)(b:ca):R.ren a b.av=Q b.av:=by exact YS<|pK O (pK (YR<|yw a _)<|pK O O)
theorem YK(a:N->ag R)(b:bw)(c:ca)(d:M ah)(e:M I)(f:I):R.rend a (yX b c d e f)=Q (yX b c d e f):=by
 have g:R.ren a b.av=Q b.av:=by refine(?_:(R.rens a<|dv b).map R.lst=_);rw [vC];rfl
 exact hr g<|hr (rx<|yv a _) (hr (rx<|jB a _)<|hr (pI a _) (hr O O))
noncomputable def aj0:M cD:=vo (bu 72)[0]?
noncomputable def LJ:M cD:=vo aj0[1]?
noncomputable def ai8:M cD:=vo LJ[2]?
noncomputable def IS(a:N)(b:I):bf:=⟨bI a,0,[],b,U⟩
noncomputable abbrev KH(a:N×N):M (I×R):=[("state",.int a.1),("can",.int a.2)]
theorem Rp(c:kL a0 d1 c3 m a)(p:wY w d1)(j:t∈m)(b:it a0 a h8)(e:d<h8.1.length)(h:h8.1.getD d (0,0)=g2)(k:∀f D,mm a0 d1 g2 (h8.2.getD d "") (au t) h8=f->it a0 a f->d<f.1.length->f.1.getD d (0,0)=g2->f.2.getD d ""=h8.2.getD d ""->e0 (rc a0 d1 c3 a4 g T f d<|KH g2++D)):
 bz (bt w 17) ai8 (IS 72 f9) (rc a0 d1 c3 a4 g T h8 d<|KH g2++([("sign",.str (au t))]:M (I×R))) (qO e0 Z):=by
 revert w a0 d1 c3 m a g T f9 g2 h8 d t a4 e0 Z c p j b e h k
 apply U16
 generalize P15 _=c3,Q15 _=m,Q14 _=a4,Q13 _=a,Q12 _=d,Q11 _=t,Q10 _=g2,Q9 _=g,Q8 _=T,Q7 _=f9,Q6 _=e0,Q5 _=Z,Q4 _=w,Q3 _=d1,Q2 _=a0,Q1 _=h8
 intro c p j b e h k
 refine aA (λq v=> ?_)<|b.rng _ (nM e (0,0))
 rw [h] at q v
 refine ac (λi E x=> ?_)<|c.mok.row _ (nM q []) t j
 have r:lk a0 d1 g2 (au t)=(i,hU d1 g2.2 (au t)):=by unfold lk iB;rw [x];rfl
 have l:=c.sz
 have n:=b.bound
 have K:(bB h8.1).length=h8.1.length:=aW ..
 have y:(aX h8.2).length=h8.2.length:=aW ..
 have s:d<h8.2.length:=b.len▸e
 have z:=b.wl _<|nM s ""
 have A:=b.one (P:=d1) (p:=g2) (word:=h8.2.getD d "") (s:=au t) (by rw [r];exact⟨E,c.step _ v t j⟩) z O
 have B:=b.len
 refine fL O (L:=rA<|a0.getD g2.1 []) (hn q []) (by rw [aW];have:=c.mok.len;exact hf ‹_›) ?_
 refine be (ye x) ?_
 refine p _ _ _ _ ?_
 refine be (Bs h8.1) ?_
 refine bc ⟨ac1 (i,hU d1 g2.2 (au t)),yL _⟩ ?_
 rw [show PyData.tuple [.int (i:H),.int ((hU d1 g2.2 (au t):N):H)]=ja (lk a0 d1 g2<|au t) by rw [r];rfl,Pu]
 refine fc (λu=> ?_) λu=> ?_
 .have o:mm a0 d1 g2 (h8.2.getD d "") (au t) h8=(h8.1++ [lk a0 d1 g2 (au t)],h8.2++ [h8.2.getD d ""++au t]):=by unfold mm;rw [show aI _=ai from(lr _).mp u];rfl
  rw [o] at A
  refine bc (by exact af 0 (C+1) 1048576 (.p 1 (J+1) 100000<|.p 1 aj J (.q 1 C aj .z)) (bk _ _ _) O l n K) ?_
  refine fL O (L:= .str<|h8.2.getD d "") (hn s "") (by rw [y];exact af 0 (C+1) 1048577 (.p 1 (J+1) 100000<|.p 1 aj J (.f 1 aj C .z)) (bk _ _ _) O l n B) ?_
  refine bc (by refine(?_:_+1<=_);exact af 0 (C+1) 1048576 (.p 1 (J+1) 100000<|.p 1 aj J (.p 1 C (1000+aj) .z)) (bk _ _ _) O l n z) ?_
  refine bc (by exact af 0 (C+1) 1048576 (.p 1 (J+1) 100000<|.p 1 aj J (.q 1 C bo<|.f 1 aj bo .z)) (di _ _ _ _) O l n y B) ?_
  have L:bB h8.1++ [.tup [.int (i:H),.int ((hU d1 g2.2 (au t):N):H)]]=bB (h8.1++ [lk a0 d1 g2 (au t)]):=by rw [r];exact ad3 _ _ _
  have:=k _ [("sign",.str (au t)),("then",.tup [.int (i:H),.int ((hU d1 g2.2 (au t):N):H)])] o A (by refine(?_:d<(h8.1++ [_]).length);rw [bN];exact hf ‹_›) (by rw [<-h];exact BN e _ _)<|BN s _ _
  unfold rc at this
  rw [<-L,<-Ds] at this
  exact this
 .have o:mm a0 d1 g2 (h8.2.getD d "") (au t) h8=h8:=by unfold mm;rw [show aI _=X from(zg _).mp u];rfl
  exact k h8 _ o b e h O
theorem Ro(c:kL a0 d1 c3 m a)(s:wY w d1)(e:it a0 a h8)(h:d<h8.1.length)(t:mW c3 d1 (h8.1.getD d (0,0))=X->∀P,Z (.ret<|.str (h8.2.getD d "")) P)(u:mW c3 d1 (h8.1.getD d (0,0))=ai->∀i z,mX a0 d1 (h8.1.getD d (0,0)) (h8.2.getD d "") (m.map au) h8=i->it a0 a i->d<i.1.length->e0 (rc a0 d1 c3 (m.map au) g T i (d+1) z)):
 bz (bt w 18) LJ (IS 72 f9) (rc a0 d1 c3 (m.map au) g T h8 d []) (qO e0 Z):=by
 revert w a0 d1 c3 m a g T f9 h8 d e0 Z c s e h t u
 apply U13
 generalize P12 _=c3,Q12 _=m,Q11 _=a,Q10 _=d,Q9 _=g,Q8 _=T,Q7 _=f9,Q6 _=e0,Q5 _=Z,Q4 _=w,Q3 _=d1,Q2 _=a0,Q1 _=h8
 intro c s e h t u
 refine aA (λS b1=> ?_)<|e.rng _ (nM h (0,0))
 have A:=e.bound
 have B:=c.sz
 have V:(bB h8.1).length=h8.1.length:=aW ..
 have Y:d<h8.2.length:=e.len▸h
 have a1:(aX h8.2).length=h8.2.length:=aW ..
 generalize D:h8.1.getD d (0,0)=l at*
 refine fL O (L:=fP l) (D▸hn h (0,0)) (by exact af 0 (C+1) 1048577 (.p 1 J aj<|.p 1 (aj+1) 100000 (.q 1 C J .z)) (bk _ _ _) O A B V) ?_
 refine fL O (L:= .bool<|c3.getD l.1 ai) (hn (by rw [c.gl];exact S) ai) (by unfold hA;rw [aW,c.gl];have:=c.mok.len;exact hf ‹_›) ?_
 refine fc (λj=> ?_) λj=> ?_
 .rw [FZ] at j
  refine fL O (L:= .str<|h8.2.getD d "") (hn Y "") (by rw [a1,<-e.len];exact af 0 (C+1) 1048577 (.p 1 C J<|.p 1 (J+1) 100000 .z) (aN _ _) O A B) ?_
  exact t j _
 .rw [FZ] at j
  refine⟨ME a0 d1 c3 (m.map au) g T l (h8.2.getD d "") d m a<|mX a0 d1 l (h8.2.getD d "") (m.map au) h8,⟨_,cG (by rfl) (by rfl)<|.ns (extra:=[]) O (.same O<|.same O .nil),λ_ v=>v m h8 O O e h D O λ_ b=>b⟩,?_,?_,?_⟩
  .intro a2 E b
   apply b;clear b;intro f f9 k n o p x q r
   exact⟨cW,O⟩
  .intro K a2 E b
   apply b;clear b;intro f L k n o p x q r
   cases f with
   |nil=>exact hq k
   |cons y f=>
    (revert k;refine gW λa3 a4=> ?_;subst a3;subst a4)
    refine Rp c s (t:=y) (T:=T) (g:=g) (a4:=m.map au) (f9:=f9) (r y<|.head _) o p x λi z a5 a6 a7 a8 a9=> ?_
    exact⟨_,cG (by rfl) (by rfl)<|.ns O (.same O<|.same O .nil),λ_ v=>v f i O (by rw [<-n,da,ai9,<-q,a5]) a6 a7 a8 (a9.trans q) λK b0=>r K<|.tail _ b0⟩
  .intro E b
   apply b;clear b;intro f L k n o p x q r
   cases f with
   |cons y f=>exact jc k
   |nil=>exact u j L _ n.symm o p
theorem Rq(k:kL a0 d1 c3 m a)(v:qD w a0 m)(x:oo w d1)(y:wY w d1)(d:I)(l:d.length<=1000)(n:∀D∈d.cps.toList,D∈m)(o:gG d1 d<a)(p:gG d1 ""<a)(i:I):
 bz (bt w 20) (bu 72) ⟨bI 72,0,[],i,U⟩ [.ns (yX a0 d1 c3 (m.map au) d)] (λT _=>T=Hn (gg a0 d1 c3 (m.map au) (a0.length*a+1) [d,""])):=by
 revert w a0 d1 c3 m a k v x y d l n o p i
 apply U6
 generalize P5 _=c3,Q5 _=m,Q4 _=a,Q3 _=w,Q2 _=d1,Q1 _=a0
 intro k v x y d l n o p i
 revert l n o p
 revert d i
 apply U2
 generalize P1 _=d,Q1 _=i
 intro l n o p
 refine⟨MC a0 d1 c3 (m.map au) d (a0.length*a) m a<|gg a0 d1 c3 (m.map au) (a0.length*a+1) [d,""],⟨_,pL _,λ_ g=>g [d,""] O O ?_⟩,?_,?_,?_⟩
 .intro c V
  obtain b|b:=bO.mp V
  .subst b;exact⟨l,n,o⟩
  .rw [bU] at b;subst b;exact⟨cy _,(λD Y=>(by cases Y)),p⟩
 .intro Z z b
  apply b;clear b;intro h q r s
  exact⟨cW,O⟩
 .intro E Z z b
  apply b;clear b;intro h q r s
  cases h with
  |nil=>exact hq q
  |cons c h=>
   (revert q;refine gW λa1 a2=> ?_;subst a1;subst a2)
   refine dH (λa3 K a4=> ?_)<|s c (.head _)
   refine v c _ _ K ?_
   refine x c _ _ ?_
   have a5:it a0 a ([(fZ a0 c,gG d1 c)],[c]):=⟨O,lx.mpr ⟨jQ,oD⟩,λb2 L=>by rw [bU] at L;subst L;exact⟨yh k.mok c K,a4⟩,λb3 P=>by rw [bU] at P;subst P;exact hf a3⟩
   refine⟨MD a0 d1 c3 (m.map au) d c (a0.length*a) a<|tF a0 d1 c3 (m.map au) (a0.length*a+1) c,⟨a0.length*a,λ_ g=>g ([(fZ a0 c,gG d1 c)],[c]) 0 O (cy _) O a5⟩,?_⟩
   intro j z b
   apply b;clear b;intro e f a6 b4 A S
   refine⟨O,?_⟩
   have b5:=S.bound
   have b6:=k.sz
   have b7:(bB e.1).length=e.1.length:=aW ..
   refine bc (by lia) ?_
   refine nH (λt=> ?_) λt=> ?_
   .have t:f<e.1.length:=by lia
    have u:mY a0 d1 c3 (m.map au) (j+1) f e=bif mW c3 d1 (e.1.getD f (0,0)) then Q (e.2.getD f "") else mY a0 d1 c3 (m.map au) j (f+1) (mX a0 d1 (e.1.getD f (0,0)) (e.2.getD f "") (m.map au) e):=by rw [yW,ck t];rfl
    refine Ro k y (f9:=i) S t (λB b8=> ?_) λB a7 b9 a8 a9 b0=> ?_
    .rw [B] at u;rw [<-r,yV,<-A,u];rfl
    .rw [B] at u
     cases j with
     |zero=>lia
     |succ j=>exact⟨j,_,lA j,cG (by rfl) (by rfl)<|.ns O (.same O<|.same O .nil),λ_ g=>g a7 (f+1) (by rw [<-a6,fg];rfl) b0 (by rw [<-A,u,a8];rfl) a9⟩
   .exact⟨_,rF (by rfl)<|.ns O (YK _ _ _ _ _ _) .nil,λ_ g=>g h O (by rw [<-r,yV,<-A,yW,cN (by lia)];rfl) λE b1=>s E<|.tail _ b1⟩
 .intro z b
  apply b;clear b;intro h q r s
  cases h with
  |cons c h=>exact jc q
  |nil=>rw [<-r];rfl
theorem cA(a:o.scope.names.lookup g=Q .local)(b:o.ns=c.length)(d:D.lookup g=Q h):mO i4 o (c++ .ns D::V) g=Q h:=by unfold mO;rw [a];refine(?_:bL (c++ .ns D::V)[o.ns]? _=_);rw [b,tY (ba _),qq];exact d
theorem mS(a:o.scope.names.lookup g=Q .local)(b:o.ns=c.length):mT o (c++ .ns D::V) g h=Q (c++ .ns (gK D g h)::V):=by unfold mT;rw [a];refine(?_:bL (c++ .ns D::V)[o.ns]? _=_);rw [b,tY (ba _),qq];refine(?_:Q ((c++ .ns D::V).set c.length<|.ns (gK D g h))=_);rw [Nt _ _ (ba _),qq];rfl
noncomputable def Cz:R->ah
 | .blt _=>ai
 |_=>X
theorem xj(a:Cz h=X)(b:e6 h q D c s):Bc e6 h q D c s:=by
 cases h with
 |blt d=>exact cY a
 |_=>exact b
noncomputable def kf(a:N)(b:R)(c d:N)(e:R):M (I×R):=[("a",.loc a),("x",b),("lo",.int c),("hi",.int d),("key",e)]
structure mr(Z:bY)(j:R)(a0 a1:N)(o:M R)(a2:N->R)(v:M N->M G->Prop)(a3:N->Prop)(a4:N):Prop where
 some:Cy j=Q ai
 nb:Cz j=X
 len:∀h c,v h c->c.length=a1/\c[a0]? =Q (.list o)
 run:∀h c i x y,v h c->i<o.length->h.length<a4->a3 i->(∀Y,v (h++ [i]) Y->y (a2 i) (Y++ [.ns x]))->Z j [o.getD i .none] [] (c++ [.ns x]) y
theorem yK(b:c.length=a):gD (a+1) (c++ [.ns (D++d8)]) (c++ [.ns D]):=by
 refine cG (by rw [bN,b];rfl) (by rw [bN,b];rfl) ?_;clear b
 induction c with
 |nil=>exact .ns O .nil
 |cons e c d=>exact .same O d
noncomputable def dB(c:N->ah):N->N->N->M N
 |0,_,_=> []
 |d+1,a,b=>bif aI (a<b) then((a+b)/2)::(bif c ((a+b)/2) then dB c d a ((a+b)/2) else dB c d ((a+b)/2+1) b) else []
theorem vB(c:N->ah)(d a b:N):dB c (d+1) a b=bif aI (a<b) then((a+b)/2)::(bif c ((a+b)/2) then dB c d a ((a+b)/2) else dB c d ((a+b)/2+1) b) else []:=O
theorem KJ(b:c[a]? =Q (.list q)):lf (c++V) (.loc a)=Q q:=by refine(?_:bL (c++V)[a]? vF=_);rw [jM (fq.mp b).1,b];rfl
theorem ki{b:M E}(c:a<b.length)(d:E):b[a]? =Q (b.getD a d):=by rw [ed,gz c];rfl
def vS(h:M N->M G->Prop)(i:N)(j:M N)(d:N->ah)(k:N)(l m:R)(n c:N)(o:M G):Prop:=∀e:M G->Prop,(∀{f:M G} {g:M N} {b a:N} (p:h g f) (q:a - b<=c) (r:b<=a) (s:a<=n) (t:dr d c b a=i) (u:g++dB d c b a=j),e (f++ [.ns (kf k l b a m)]))->e o
theorem Gi(b:b8<j4)(i:j4 - b8<=a2)(l:j4<=t)(e:dr c7 a2 b8 j4=a)(c:b7++dB c7 a2 b8 j4=m):
 ∃j,j<a2/\(b8+j4)/2∈m/\b7.length<m.length/\∀g,j0 (b7++ [(b8+j4)/2]) g->(c7 ((b8+j4)/2)=X->vS j0 a m c7 d h L t j (g++ [.ns (kf d h b8 ((b8+j4)/2) L)]))/\(c7 ((b8+j4)/2)=ai->vS j0 a m c7 d h L t j (g++ [.ns (kf d h ((b8+j4)/2+1) j4 L)])):=by
 cases a2 with
 |zero=>exact bD (NF.mp i)<|Nat.sub_ne_zero_of_lt b
 |succ a2=>
  have n:=dx b
  rw [lM,ck b] at e
  rw [vB,ck b] at c
  refine⟨a2,lA a2,?_,?_,λg o=>⟨λf _ k=>k o (sL b i) (pn n) (aK (dx<|kS b) l) ?_ ?_,λf _ k=>k o (sM n i) (kS b) l ?_ ?_⟩⟩
  .rw [<-c];exact ff _<|.head _
  .rw [<-c,bN];exact wp<|fT _
  .rw [f] at e;exact e
  .rw [f] at c;rw [<-c,eo];rfl
  .rw [f] at e;exact e
  .rw [f] at c;rw [<-c,eo];rfl
theorem JV(b:¬d<t):dB c7 a d t=[]:=by
 cases a with
 |zero=>rfl
 |succ a=>rw [vB,cN b];rfl
theorem Rd(i:mr w h a d q l9 j0 h1 t)(u:∀B a0 D,D (c7 B)->lP .Lt L (l9 B) a0 D)(v:q.length<1000000)(f:M G)(k:j0 [] f)(c b:N)(m:c<=b)(n:b<=q.length)(o:(dB c7 (b - c) c b).length<=t)(p:∀L∈dB c7 (b - c) c b,h1 L)(j:I):
 bz (bt w 20) ((bu 2).drop 2) ⟨bI 2,d,[],j,U⟩ (f++ [.ns (kf a L c b h)]) λa1 E=>a1= .ret (.int (dr c7 (b - c) c b:N))/\∃r a2,E=r++ [.ns a2]/\j0 (dB c7 (b - c) c b) r:=by
 revert w h L a d q l9 j0 c7 h1 t i u v f k c b m n o p j
 apply U11
 generalize P10 _=a,Q10 _=d,Q9 _=t,Q8 _=c7,Q7 _=h1,Q6 _=h,Q5 _=L,Q4 _=q,Q3 _=l9,Q2 _=j0,Q1 _=w
 intro i u v f k c b m n o p j
 revert k m n o p
 revert f c b j
 apply U4
 generalize P3 _=f,Q3 _=c,Q2 _=b,Q1 _=j
 intro k m n o p
 obtain⟨s,a9⟩:=i.len _ _ k
 refine be (cA O s.symm O) ?_
 refine be i.some ?_
 refine⟨vS j0 (dr c7 (b - c) c b) (dB c7 (b - c) c b) c7 a L h q.length,⟨b - c,λ_ a3=>a3 k (ba _) m n O O⟩,?_⟩
 intro b0 E K
 apply K;clear K;intro f a4 c b x a5 b1 P S y
 obtain⟨e,a6⟩:=i.len _ _ x
 refine⟨by rw [bN,bN,e,s];rfl,?_⟩
 refine be (cA O e.symm O) ?_
 refine be (cA O e.symm O) ?_
 refine nH (λg=> ?_) λg=> ?_
 .have g:c<b:=jn.mp g
  obtain⟨T,V,a7,a8,Y⟩:=Gi (d:=a) (h:=L) (L:=h) (j0:=j0) g a5 P S y
  refine be (cA O e.symm O) ?_
  refine be (cA O e.symm O) ?_
  conv=>whnf
  rw [xJ]
  refine be (mS O e.symm) ?_
  refine be (cA O e.symm O) ?_
  refine be (cA O e.symm O) ?_
  refine be (cA O e.symm O) ?_
  refine be (cA O e.symm O) ?_
  have Z:(c+b)/2<q.length:=ij (kS g) P
  refine fL (L:=q.getD ((c+b)/2) .none) (KJ a6) (ki Z _) (fh v<|by decide) ?_
  refine xj i.nb<|i.run a4 f ((c+b)/2) _ _ x Z (ij a8 o) (p _ a7) λr z=> ?_
  refine u _ _ _ ?_
  obtain⟨l,b2⟩:=i.len _ _ z
  refine fc (λA=> ?_) λA=> ?_
  .refine be (cA O l.symm O) ?_
   refine be (mS O l.symm) ?_
   exact⟨T,_,V,by rw [bN,s];exact yK (D:=kf a L _ _ h) (d8:=[_]) l,(Y r z).1 A⟩
  .refine be (cA O l.symm O) ?_
   refine be (mS O l.symm) ?_
   exact⟨T,_,V,by rw [bN,s];exact yK (D:=kf a L _ _ h) (d8:=[_]) l,(Y r z).2 A⟩
 .refine be (cA O e.symm O) ?_
  have g:¬c<b:=λj=>g<|jn.mpr j
  rw [JV g,cZ] at y
  exact⟨by rw [<-S,qI g],f,_,O,y▸x⟩
theorem QZ(i:mr w h a d q l9 j0 h1 t)(u:∀B a0 D,D (!c7 B)->lP .Lt (l9 B) L a0 D)(v:q.length<1000000)(f:M G)(l:j0 [] f)(c b:N)(m:c<=b)(n:b<=q.length)(o:(dB c7 (b - c) c b).length<=t)(p:∀L∈dB c7 (b - c) c b,h1 L)(j:I):
 bz (bt w 20) ((bu 4).drop 2) ⟨bI 4,d,[],j,U⟩ (f++ [.ns (kf a L c b h)]) λa1 E=>a1= .ret (.int (dr c7 (b - c) c b:N))/\∃r a2,E=r++ [.ns a2]/\j0 (dB c7 (b - c) c b) r:=by
 revert w h L a d q l9 j0 c7 h1 t i u v f l c b m n o p j
 apply U11
 generalize P10 _=a,Q10 _=d,Q9 _=t,Q8 _=c7,Q7 _=h1,Q6 _=h,Q5 _=L,Q4 _=q,Q3 _=l9,Q2 _=j0,Q1 _=w
 intro i u v f l c b m n o p j
 revert l m n o p
 revert f c b j
 apply U4
 generalize P3 _=f,Q3 _=c,Q2 _=b,Q1 _=j
 intro l m n o p
 obtain⟨s,a9⟩:=i.len _ _ l
 refine be (cA O s.symm O) ?_
 refine be i.some ?_
 refine⟨vS j0 (dr c7 (b - c) c b) (dB c7 (b - c) c b) c7 a L h q.length,⟨b - c,λ_ a3=>a3 l (ba _) m n O O⟩,?_⟩
 intro b0 E K
 apply K;clear K;intro f a4 c b x a5 b1 P S y
 obtain⟨e,a6⟩:=i.len _ _ x
 refine⟨by rw [bN,bN,e,s];rfl,?_⟩
 refine be (cA O e.symm O) ?_
 refine be (cA O e.symm O) ?_
 refine nH (λg=> ?_) λg=> ?_
 .have g:c<b:=jn.mp g
  obtain⟨T,V,a7,a8,Y⟩:=Gi (d:=a) (h:=L) (L:=h) (j0:=j0) g a5 P S y
  refine be (cA O e.symm O) ?_
  refine be (cA O e.symm O) ?_
  conv=>whnf
  rw [xJ]
  refine be (mS O e.symm) ?_
  refine be (cA O e.symm O) ?_
  refine be (cA O e.symm O) ?_
  refine be (cA O e.symm O) ?_
  have Z:(c+b)/2<q.length:=ij (kS g) P
  refine fL (L:=q.getD ((c+b)/2) .none) (KJ a6) (ki Z _) (fh v<|by decide) ?_
  refine xj i.nb<|i.run a4 f ((c+b)/2) _ _ x Z (ij a8 o) (p _ a7) λr z=> ?_
  obtain⟨k,b2⟩:=i.len _ _ z
  refine be (cA O k.symm O) ?_
  refine u _ _ _ ?_
  refine fc (λA=> ?_) λA=> ?_
  .refine be (cA O k.symm O) ?_
   refine be (mS O k.symm) ?_
   exact⟨T,_,V,by rw [bN,s];exact yK (D:=kf a L _ _ h) (d8:=[_]) k,(Y r z).2<|(lr _).mp A⟩
  .refine be (cA O k.symm O) ?_
   refine be (mS O k.symm) ?_
   exact⟨T,_,V,by rw [bN,s];exact yK (D:=kf a L _ _ h) (d8:=[_]) k,(Y r z).1<|(zg _).mp A⟩
 .refine be (cA O e.symm O) ?_
  have g:¬c<b:=λj=>g<|jn.mpr j
  rw [JV g,cZ] at y
  exact⟨by rw [<-S,qI g],f,_,O,y▸x⟩
noncomputable def HR:ag N->R
 |some a=> .int a
 |none=> .none
theorem Ql{f:ag N}(b:c.length=d)(i:c[a]? =Q (.list q))(j:q.length<1000000)(g:I)(e:ah):
 bz (bt w 20) ((bif e then bu 4 else bu 2).take 2) ⟨bif e then bI 4 else bI 2,d,[],g,U⟩ (c++ [.ns [("a",.loc a),("x",L),("lo",.int t),("hi",HR f),("key",h)]]) λl m=>l= .next/\m=c++ [.ns (kf a L t (f.getD q.length) h)]:=by
 revert w h L a d t f q c b i j g e
 apply U9
 generalize P8 _=a,Q8 _=d,Q7 _=t,Q6 _=h,Q5 _=L,Q4 _=q,Q3 _=c,Q2 _=w,Q1 _=f
 intro b i j g e
 revert g e
 apply U2
 generalize P1 _=g,Q1 _=e
 have k:Cq (c++ [.ns [("a",.loc a),("x",L),("lo",.int t),("hi",.none),("key",h)]]) (.loc a)=Q q.length:=by refine(?_:bL (c++_)[a]? IZ=_);rw [jM (fq.mp i).1,i];rfl
 cases e with
 |true=>
  refine be (cA O b.symm O) ?_
  refine be (cA O b.symm O) ?_
  cases f with
  |some n=>exact⟨O,O⟩
  |none=>
   refine be (cA O b.symm O) ?_
   refine be k ?_
   refine bc (by exact aK ‹_› (bA O)) ?_
   refine be (mS O b.symm) ?_
   exact⟨O,O⟩
 |false=>
  refine be (cA O b.symm O) ?_
  refine be (cA O b.symm O) ?_
  cases f with
  |some n=>exact⟨O,O⟩
  |none=>
   refine be (cA O b.symm O) ?_
   refine be k ?_
   refine bc (by exact aK ‹_› (bA O)) ?_
   refine be (mS O b.symm) ?_
   exact⟨O,O⟩
structure hx(o:bY)(c:R):Prop where
 some:Cy c=Q ai
 ren:∀v,R.ren v c=Q c
 nb:Cz c=X
 run:∀(h:N×N) i j,j (.int h.1) i->o c [fP h] [] i j
noncomputable def hD(a:bZ)(b:N)(c:N):ah:=aI<|b<(a.getD c (0,0)).1
noncomputable def gV(a:bZ)(b:N)(c:N):ah:= !aI ((a.getD c (0,0)).1<b)
theorem yy(b:N->ag R):∀a:bZ,R.rens b (bB a)=Q (bB a):=by
 intro c
 induction c with
 |nil=>exact O
 |cons d a e=>exact by refine(?_:(R.rens b<|bB a).map (λf=>fP d::f)=_);rw [e];rfl
theorem VF(c:hx w h)(a:bZ)(n:a.length<1000000)(g:N->Prop)(i:N):mr w h 0 1 (bB a) (λj=> .int (a.getD j (0,0)).1) (λ_ d=>d=[.list (bB a)]) g i where
 some:=c.some
 nb:=c.nb
 len:=λk d e=>by subst e;exact⟨O,O⟩
 run:=λk d f o l e b _ _ m=>by
  subst e;have b:f<a.length:=by rw [bB,aW] at b;exact b
  rw [show(bB a).getD f .none=fP (a.getD f (0,0)) by rw [ed,bB,hn b (0,0)];rfl];refine c.run _ _ l ?_;have:=m [.list (bB a)] O;exact this
theorem Qy(c:hx w h)(a:bZ)(b:N×N)(m:a.length<1000000)(g:I)(d:N)(n:d<=a.length)
 (i:∀(e:M G) (f:aQ),e[0]? =Q (.list<|bB a)->f (.int d) e->w (.raw<|bS 2) [.loc 0,.int b.1,.int 0,.none] [("key",h)] e f):
 bz (bt w 20) (bu 1) ⟨bI 1,1,[],g,U⟩ [.list (bB a),.ns [("a",.loc 0),("x",fP b),("lo",.int 0),("hi",.none),("key",h)]] λj k=>j= .next/\k[0]? =Q (.list<|bB (a.insertIdx d b)):=by
 refine be c.some ?_
 refine xj c.nb<|c.run b _ _ ?_
 refine i _ _ O ?_
 refine bc ⟨by lia,by unfold bB;rw [aW];lia,by unfold bB;rw [aW];exact aK ‹_› (bA O)⟩ ?_
 exact⟨O,bq (λl=>Q<|G.list l)<|xL fP b _ _⟩
theorem Qw(c:hx w h)(a:bZ)(b:N×N)(m:a.length<1000000)(g:I)(d:N)(n:d<=a.length)
 (i:∀(e:M G) (f:aQ),e[0]? =Q (.list<|bB a)->f (.int d) e->w (.raw<|bS 4) [.loc 0,.int b.1,.int 0,.none] [("key",h)] e f):
 bz (bt w 20) (bu 3) ⟨bI 3,1,[],g,U⟩ [.list (bB a),.ns [("a",.loc 0),("x",fP b),("lo",.int 0),("hi",.none),("key",h)]] λj k=>j= .next/\k[0]? =Q (.list<|bB (a.insertIdx d b)):=by
 refine be c.some ?_
 refine xj c.nb<|c.run b _ _ ?_
 refine i _ _ O ?_
 refine bc ⟨by lia,by unfold bB;rw [aW];lia,by unfold bB;rw [aW];exact aK ‹_› (bA O)⟩ ?_
 exact⟨O,bq (λl=>Q<|G.list l)<|xL fP b _ _⟩
noncomputable def vm:M (I×N):=[("word",21),("want",20),("told",19),("moves",18),("marks",17),("known",16),("heads",15),("ask",14),("parts",13),("read",12),("tape",11),("kinds",10),("shelf",9),("goals",8),("stride",7),("plan",6),("pair",5),("lead",4),("piece",3),("script",2)]
theorem Wg:gH (bI 74).names 2 []=vm:=by decide+kernel
noncomputable def dL(a:I):bf:=⟨bI 74,1,vm,a,Q 0⟩
structure ev where
 script:ag R:=U
 piece:ag R:=U
 lead:ag R:=U
 pair:ag R:=U
 plan:ag R:=U
 stride:ag R:=U
 goals:ag R:=U
 shelf:ag R:=U
 kinds:ag R:=U
 tape:ag R:=U
 read:ag R:=U
 parts:ag R:=U
 ask:ag R:=U
 heads:ag R:=U
 known:ag R:=U
 marks:ag R:=U
 moves:ag R:=U
 told:ag R:=U
 want:ag R:=U
 word:ag R:=U
instance:fx ev:=⟨{}⟩
noncomputable def eX(b:I)(c:M (I×R))(a:ev)(d:M G):M G:= .ctab (b++bC "<lambda>"):: .ns c:: .cell a.script:: .cell a.piece:: .cell a.lead:: .cell a.pair:: .cell a.plan:: .cell a.stride:: .cell a.goals:: .cell a.shelf:: .cell a.kinds:: .cell a.tape:: .cell a.read:: .cell a.parts:: .cell a.ask:: .cell a.heads:: .cell a.known:: .cell a.marks:: .cell a.moves:: .cell a.told:: .cell a.want:: .cell a.word::d
noncomputable def ev.l(a:ev):M (ag R):=[a.script,a.piece,a.lead,a.pair,a.plan,a.stride,a.goals,a.shelf,a.kinds,a.tape,a.read,a.parts,a.ask,a.heads,a.known,a.marks,a.moves,a.told,a.want,a.word]
theorem zb(b:el c V):∀a:M (ag R),el (a.map .cell++c) (a.map .cell++V):=by
 intro d
 induction d with
 |nil=>exact b
 |cons f a e=>exact .same O<|e
theorem aE1(b:I)(d:M (I×R))(a:ev)(e:el c V):el (eX b (d++D) a c) (eX b d a V):= .same O<|.ns O (zb e a.l)
theorem tI(b:I)(d:M (I×R))(a:ev)(e:el c V):el (eX b d a c) (eX b d a V):= .same O<|.same O (zb e a.l)
noncomputable def vL:M (ag R)->M R
 |[]=> []
 |none::a=>vL a
 |some b::a=>b::vL a
def iJ(b:N->ag R)(a:R):Prop:=R.ren b a=Q a
def vP(a:N->ag R):M R->Prop
 |[]=>kc
 |b::c=>iJ a b/\vP a c
theorem xn(e:eL a c V):∀b:M (ag R),vP (cM a) (vL b)->eL a (b.map .cell++c) (b.map .cell++V)
 |[],_=>e
 |none::b,d=> .same O O<|xn e b d
 |some f::b,d=> .same O (by refine(?_:(R.ren (cM a) f).map _=_);rw [d.1];rfl)<|xn e b d.2
theorem az3(a:N)(e:I)(b:M (I×R))(d:ev)(f:R.rend (cM a) b=Q b)(g:vP (cM a) (vL d.l))(h:eL a c V):eL a (eX e (b++D) d c) (eX e b d V):= .same O O<|.ns O f (xn h d.l g)
theorem RQ(a:N)(e:I)(b:M (I×R))(d:ev)(f:R.rend (cM a) b=Q b)(g:vP (cM a) (vL d.l))(h:eL a c V):eL a (eX e b d c) (eX e b d V):= .same O O<|.ns (extra:=[]) (by rw [cZ];rfl) f (xn h d.l g)
noncomputable def eB(a:M H):M R:=a.map .int
noncomputable def vz(a:M H)(b c d:ag H):M H:= (nB (lG b c d a.length).1 (lG b c d a.length).2.1 (lG b c d a.length).2.2).filterMap (a[·]?)
theorem Yk(a:M H)(b c d:ag H):gd (eB a) b c d=eB (vz a b c d):=by unfold gd vz eB;rw [aW,List.map_filterMap];congr 1;funext e;rw [gj]
theorem TP:∀a:M H,nN (eB a)=Q a:=by
 intro a
 induction a with
 |nil=>exact O
 |cons b c d=>exact by refine(?_:(nN<|eB c).map (λa=>b::a)=_);rw [d];rfl
theorem Bk(b:N->ag R):∀a:M H,R.rens b (eB a)=Q (eB a):=by
 intro a
 induction a with
 |nil=>exact O
 |cons c d e=>exact by refine(?_:(R.rens b<|eB d).map (λa=>R.int c::a)=_);rw [e];rfl
theorem gS(a:R.rens a1 q=Q q):iJ a1 (.lst q):=by refine(?_:(R.rens a1 q).map R.lst=_);rw [a];rfl
noncomputable def sZ(a:M H):M H:=a.map λb=>b.fmod 1000000
theorem JO(a:M H)(b:N)(f:a.length<=63):(vz a (Q b) (Q 60)<|Q 4).length<=200:=by
 refine aK (zB _ _) ?_;unfold nB;rw [aW,jp];have c:(lG (Q (b:H)) (Q 60) (Q 4) a.length).2.2=4:=O;rw [c,bK (by decide)];have d:0<=(lG (Q (b:H)) (Q 60) (Q 4) a.length).1:=by refine(?_:0<=du 0 (dI (if(b:H)<0 then(b:H)+a.length else b) (a.length:H)));exact an4 _ _
 have e:(lG (Q (b:H)) (Q 60) (Q 4) a.length).2.1<=63:=by refine(?_:du 0 (dI (if(60:H)<0 then(60:H)+a.length else 60) (a.length:H))<=63);lia
 split<;>(first|exact an5 _ _ d e|exact cy _)
theorem Lp:∀(a:M H),(∀b∈a,0<=b/\b<1000000)->0<=a.sum/\a.sum<=1000000*(a.length:H):=by
 intro e
 induction e with
 |nil=>exact λ_=>⟨Ec _,Ec _⟩
 |cons b a f=>exact λc=>by refine aA (λg h=> ?_)<|f λi j=>c i<|.tail _ j;have d:=c b<|.head _;rw [ud,gO];exact⟨aw 0 0 (F+W) (.p 1 0 W<|.p 1 0 F .z) (aP _ _) O g d.1,aw 0 (F+W) (fe 1000000<|aF+1) (.p 1 W (fe 1000000 aF)<|.p 1 (F+1) 1000000 .z) (cg _ _ _) O h d.2⟩
theorem Jr(b:M H):∀a∈sZ b,0<=a/\a<1000000:=λa c=>by refine ac (λe f d=> ?_)<|cT.mp c;obtain rfl:=d;exact⟨Int.fmod_nonneg_of_pos _<|by decide,Int.fmod_lt_of_pos _<|by decide⟩
theorem ag3(a:M H)(d:a.length<=200):yM (sZ a):=λb h=>by have c:=Lp ((sZ a).take b) λe f=>Jr a e<|ql f;have g:((sZ a).take b).length<=200:=aK (List.length_take_le' _ _) (by rw [show(sZ a).length=a.length from aW ..];exact d);exact⟨aw 0 (eS<|-4611686018427387904) F (.p 1 0 F .z) (aG _) O c.1,aw 0 (F+1) 4611686018427387904 (.p 1 F (fe 1000000 W)<|.p 1000000 W 200 .z) (aP _ _) O c.2<|ak g⟩
noncomputable def la(a:M H)(b:N)(c:H):H:=c+(sZ<|vz a (Q b) (Q 60) (Q 4)).sum
noncomputable def He(a:H->H):R->ag R
 | .int b=>Q<|.int (a b)
 |_=>U
theorem SC(b:H->H)(a:M H):(eB a).filterMap (He b)=eB (a.map b):=by
 unfold eB;rw [MU,jq]
 induction a with
 |nil=>rfl
 |cons d a c=>rw [ii,da,<-c];rfl
noncomputable def SG(a:H->H->H):R->ag R
 | .tup b=>(match b with
  |[c,d]=>(match c,d with
   | .int e,.int f=>Q<|.int (a e f)
   |_,_=>U)
  |_=>U)
 |_=>U
theorem QC(a:M H)(g:a.length<=63)(c:I):
 bz (bt w 20) ((bu 74).take 1) (dL c) (eX c [] {script:=Q<|.lst (eB a)} []) λm n=>m= .next/\ n=eX c [("pick",.int (la a 0 9)),("order",.int (la a 3 512002))] {script:=Q<|.lst (eB a),piece:=Q<|.int (la a 1 58),lead:=Q<|.int (la a 2 32)} [.ns []]:=by
 revert w a g c
 apply U2
 generalize P1 _=w,Q1 _=a
 intro g c
 revert c
 apply U1
 generalize Z1 _=c
 refine kW (SG λf e=>la a f.toNat e) cW O (by decide) ?_ ?_ ?_
 .intro e d o h
  have:∃(f:N) (l:H),f<=3/\e= .tup [.int f,.int l]:=by
   simp [dW] at d;obtain b|b|b|b:=d
   .exact⟨0,9,by decide,b⟩
   .exact⟨1,58,by decide,b⟩
   .exact⟨2,32,by decide,b⟩
   .exact⟨3,512002,by decide,b⟩
  revert this;refine dw λf l t p=> ?_;obtain rfl:=p
  refine bc (by unfold eB;rw [aW];exact aK ‹_› (bA O)) ?_
  rw [Yk]
  refine kW (He (·.fmod 1000000)) cW O ?_ ?_ ?_ ?_
  .unfold eB;rw [aW];exact cd (JO _ _ g)<|by decide
  .intro e d o h
   refine ac (λq r i=> ?_)<|cT.mp d;obtain rfl:=i
   exact h _<|cG (by rfl) (by rfl) (tI c [] {script:=Q<|.lst (eB a)}<|.same O (.ns O .nil))
  .intro e d s j
   refine ac (λq r i=> ?_)<|cT.mp d;obtain rfl:=i
   (revert j;refine aL λk=> ?_;subst k);rfl
  rw [SC]
  refine be (TP _) ?_
  refine bc (ag3 _<|JO _ _ g) ?_
  exact h _<|rF (by rfl) (RQ 23 c [] {script:=Q<|.lst (eB a)} O ⟨gS<|Bk _ _,eG⟩<|.ns O O .nil)
 .intro e d s j
  simp [dW] at d
  obtain b|b|b|b:=d<;>(subst b;(revert j;refine aL λk=> ?_;subst k);rfl)
 exact⟨O,O⟩
noncomputable def Di:I:=bC "()[]:,;+-*/|&<>=.%{}~^@!"
noncomputable def bT(a:N):N:=Di.cps.toList.getD a 0
theorem ab8(b:a<24):Ff Di (a:H)=Q (bT a):=by
 have:∀a,a<24->Ff Di ((a:N):H)=Q (bT a):=by decide+kernel
 exact this a b
noncomputable def dp(a:N):N:=a%24
noncomputable def dq(a:N):N:=(a%24+1+a/24%23)%24
theorem kh(a b:N):Int.fmod (a:H) (b:H)=((a%b:N):H):=(Int.ofNat_fmod a b).symm
theorem nL(a b:N):Int.fdiv (a:H) (b:H)=((a/b:N):H):=(MJ a b).symm
noncomputable def JL(a:N):M I:=[au (bT<|dp a),au (bT<|dq a)]
noncomputable def SI:R->ag R
 | .int a=>Q<|.str (au<|bT a.toNat)
 |_=>U
theorem QN(d:M H)(a:N)(e f g:H)(c:I):
 bz (bt w 20) (((bu 74).drop 1).take 2) (dL c) (eX c [("pick",.int a),("order",.int e)] {script:=Q<|.lst (eB d),piece:=Q<|.int f,lead:=Q<|.int g} [.ns []]) λo p=>o= .next/\ p=eX c [("pick",.int a),("order",.int e),("places",.tup [.int (dp a:N),.int (dq a:N)])] {script:=Q<|.lst (eB d),piece:=Q<|.int f,lead:=Q<|.int g,pair:=Q<|.lst (aX<|JL a)} [.ns [],.ns []]:=by
 revert w d a e f g c
 apply U7
 generalize P6 _=w,Q6 _=d,Q5 _=a,Q4 _=e,Q3 _=f,Q2 _=g,Q1 _=c
 have q:(a:H).fmod 24=((dp a:N):H):=kh a 24
 have r:((a:H).fmod 24+1+((a:H).fdiv 24).fmod 23).fmod 24=((dq a:N):H):=by rw [show(a:H).fdiv 24=((a/24:N):H) from nL a 24,show(a:H).fmod 24=((a%24:N):H) from kh a 24,show((a/24:N):H).fmod 23=((a/24%23:N):H) from kh _ 23];exact kh (a%24+1+a/24%23) 24
 have s:dp a<24:=fI _<|by decide
 have t:dq a<24:=fI _<|by decide
 conv=>whnf
 rw [r,q]
 unfold JL
 generalize dp a=l at*
 generalize dq a=m at*
 refine kW SI cW O (show 2<1048576 by decide) ?_ ?_ ?_
 .intro n h y u
  have:∃i:N,i<24/\n= .int i:=by
   obtain b|b:=bO.mp h
   .exact⟨l,s,b⟩
   .exact⟨m,t,bU.mp b⟩
  revert this;refine ac λi v x=> ?_;obtain rfl:=x
  refine sA (ck<|by exact aK ‹_› (bA O)) ?_
  refine be (ab8 v) ?_
  exact u _<|cG (by rfl) (by rfl) (tI c [("pick",.int a),("order",.int e),("places",.tup [.int (l:N),.int (m:N)])] {script:=Q<|.lst (eB d),piece:=Q<|.int f,lead:=Q<|.int g}<|.same O (.ns O .nil))
 .intro n h z j
  obtain b|b:=bO.mp h
  .subst b;(revert j;refine aL λk=> ?_;subst k);rfl
  .rw [bU.mp b] at j;(revert j;refine aL λk=> ?_;subst k);rfl
 .exact⟨O,O⟩
noncomputable def yr(a b:I)(c:N):I:=[a,b,bC "..."].getD c ""
noncomputable def tG(b c:I)(a:N):M I:=(dR<|1+a%5).map λd=>yr b c<|a/5/3^d%3
noncomputable def sI(b c:I)(a:N):M I:=(dR<|1+a%6).map λd=> [b,c].getD (a/6/2^d%2) ""
noncomputable def pP(a b:I)(c:N):I:=oG ""<|tG a b c
noncomputable def pi(a b:I)(c:N):I:=oG ""<|sI a b c
noncomputable def BF(a:N->I):R->ag R
 | .int b=>Q<|.str (a b.toNat)
 |_=>U
noncomputable def fR(a:N):M R:=(dR ((a:H) - 0).toNat).map λ(b:N)=> .int<|0+(b:H)
theorem ry(a:N):fR a=(dR a).map λ(b:N)=> .int (b:H):=by unfold fR;rw [Int.sub_zero,vW];congr 1;funext b;rw [Int.zero_add]
theorem rz(c:h∈fR a):∃b:N,b<a/\h= .int b:=by rw [ry] at c;refine ac (λb d e=> ?_)<|cT.mp c;exact⟨b,qm.mp d,e.symm⟩
theorem pJ(a:N):(fR a).length=a:=by rw [ry,aW,jp]
theorem Hd(b:N->I)(a:N):(fR a).filterMap (BF b)=aX ((dR a).map b):=by
 rw [ry];unfold aX;rw [MU,jq];generalize dR a=c
 induction c with
 |nil=>rfl
 |cons e c d=>rw [ii,da,<-d];rfl
theorem Hx(d:N):∀(c:M I) (b:N),(∀a∈c,a.length<=d)->c.foldl (λg a=>g+a.length+(bC "").length) b<=b+d*c.length:=by
 intro h
 induction h with
 |nil=>exact λb _=>ba _
 |cons a c i=>exact λb e=>by have j:=e a<|.head _;have f:=i (b+a.length+(bC "").length) λk l=>e k<|.tail _ l;rw [DO] at f;rw [Em,DO,gO,NJ];exact af 0 C (J+(aj+(hy bo 1))) (.p 1 fW bo<|.p 1 C (J+fW+0+aj) .z) (ky _ _ _ _ _) O j f
theorem RB{a:Prop}(b:a5≠0)(c:a5.natAbs<1073741824)(d:a):bW (aI (a5≠0)&&aI (a5.natAbs<1073741824)) a:=by rw [ck b,ck c];exact d
theorem HD(c:∀a∈a4,m8 a)(d:m8 g)(b:N):m8 (a4.getD b g):=by
 rw [ed]
 cases e:a4[b]? with
 |none=>exact d
 |some a=>exact c a<|jP e
theorem al7(c d:I)(e:N)(f:c.length=1)(g:d.length=1):∀b∈tG c d e,b.length<=3:=λb h=>by
 refine ac (λk l i=> ?_)<|cT.mp h;obtain rfl:=i;refine HD (m8:=λb=>b.length<=3) (λm j=> ?_) (by decide+kernel) _;obtain a|a:=bO.mp j
 .subst a;exact af 0 C 3 (.q 1 C 1 .z) (bj _) O f
 obtain a|a:=bO.mp a
 .subst a;exact af 0 C 3 (.q 1 C 1 .z) (bj _) O g
 .rw [bU.mp a];decide+kernel
theorem Th(c d:I)(e:N)(f:c.length=1)(g:d.length=1):∀a∈sI c d e,a.length<=3:=λa h=>by
 refine ac (λk l i=> ?_)<|cT.mp h;obtain rfl:=i;refine HD (m8:=λa=>a.length<=3) (λm j=> ?_) (by decide+kernel) _;obtain b|b:=bO.mp j
 .subst b;exact af 0 C 3 (.q 1 C 1 .z) (bj _) O f
 .rw [bU.mp b];exact af 0 C 3 (.q 1 C 1 .z) (bj _) O g
noncomputable def LD(a:ag cD)(b:N):aC:=match a with
 |some (.Assign _ (.Tuple c _ _) _)=>c.getD b<|.Constant .none 0 ⟨0,0,0,0⟩
 |_=> .Constant .none 0 ⟨0,0,0,0⟩
theorem Rs(g h:ag R)(a:N)(i:M (I×R))(b c:I)(k:b.length=1)(l:c.length=1)(e:I)(f:aQ)
 (j:f (.str<|pP b c a) (eX e i {script:=g,piece:=Q<|.int a,lead:=h,pair:=Q<|.lst (aX [b,c])} [.ns [],.ns [],.ns []])):
 (bt w 18).E (LD (bu 74)[3]? 0) (dL e) (eX e i {script:=g,piece:=Q<|.int a,lead:=h,pair:=Q<|.lst (aX [b,c])} [.ns [],.ns []]) f:=by
 revert w g h a i b c k l e f j
 apply U7
 generalize P6 _=w,Q6 _=g,Q5 _=h,Q4 _=a,Q3 _=i,Q2 _=b,Q1 _=c
 intro k l e f j
 revert j
 revert e f
 apply U2
 generalize P1 _=e,Q1 _=f
 intro j
 have s:(1:H)+(a:H).fmod 5=((1+a%5:N):H):=by rw [show(a:H).fmod 5=((a%5:N):H) from kh a 5];rfl
 have m:1+a%5<=5:=fS 1 _▸fI a (show 0<5 by decide)
 conv=>whnf
 rw [s]
 refine bc (by lia) ?_
 refine bc (by lia) ?_
 refine kW (BF λn=>yr b c<|a/5/3^n%3) cW O ?_ ?_ ?_ ?_
 .exact cd (dM<|pJ _)<|cd m (by decide)
 .intro t o A u
  refine ac (λd r p=> ?_)<|rz o;obtain rfl:=p
  have v:d<=5:=aK (dx r) m
  refine uJ O (by lia) (by lia) ?_
  have B:3^d<1073741824:=cd (EK (by decide) v)<|by decide
  have D:0<3^d:=ww<|by decide
  have q:(3:H)^(d:H).toNat=((3^d:N):H):=(zq 3 d).symm
  refine RB (by rw [q];lia) (by rw [q];lia) ?_
  conv=>whnf
  rw [show(((a:H).fdiv 5).fdiv<|3^(d:H).toNat).fmod 3=((a/5/3^d%3:N):H) by rw [q,show(a:H).fdiv 5=((a/5:N):H) from nL a 5,nL];exact kh _ 3]
  have x:a/5/3^d%3<3:=fI _<|by decide
  refine fL (q:=aX [b,c,bC "..."]) O (hn (b:=[b,c,bC "..."]) x "") (show 3<1048577 by decide) ?_
  exact u _<|cG (by rfl) (by rfl) (tI e i {script:=g,piece:=Q<|.int a,lead:=h,pair:=Q<|.lst (aX [b,c])}<|.same O (.same O<|.ns O .nil))
 .intro t o E y
  refine ac (λd r p=> ?_)<|rz o;obtain rfl:=p
  (revert y;refine aL λz=> ?_;subst z);rfl
 refine be ((bq mg<|Hd (λn=>yr b c<|a/5/3^n%3) (1+a%5)).trans<|Dr (tG b c a)) ?_
 have K:(tG b c a).length<=5:=by unfold tG;rw [aW,jp];exact m
 exact bc (aK (Hx 3 _ 0<|al7 b c a k l)<|by lia) j
theorem Qt(g h:ag R)(a:N)(i:M (I×R))(b c:I)(k:b.length=1)(l:c.length=1)(e:I)(f:aQ)
 (j:f (.str<|pi b c a) (eX e i {script:=g,piece:=h,lead:=Q<|.int a,pair:=Q<|.lst (aX [b,c])} [.ns [],.ns [],.ns [],.ns []])):
 (bt w 18).E (LD (bu 74)[3]? 1) (dL e) (eX e i {script:=g,piece:=h,lead:=Q<|.int a,pair:=Q<|.lst (aX [b,c])} [.ns [],.ns [],.ns []]) f:=by
 revert w g h a i b c k l e f j
 apply U7
 generalize P6 _=w,Q6 _=g,Q5 _=h,Q4 _=a,Q3 _=i,Q2 _=b,Q1 _=c
 intro k l e f j
 revert j
 revert e f
 apply U2
 generalize P1 _=e,Q1 _=f
 intro j
 have q:(1:H)+(a:H).fmod 6=((1+a%6:N):H):=by rw [show(a:H).fmod 6=((a%6:N):H) from kh a 6];rfl
 have p:1+a%6<=6:=fS 1 _▸fI a (show 0<6 by decide)
 conv=>whnf
 rw [q]
 refine bc (by lia) ?_
 refine bc (by lia) ?_
 refine kW (BF λm=> [b,c].getD (a/6/2^m%2) "") cW O ?_ ?_ ?_ ?_
 .exact cd (dM<|pJ _)<|cd p (by decide)
 .intro r n z s
  refine ac (λd t o=> ?_)<|rz n;obtain rfl:=o
  conv=>whnf
  have u:(2:H)^(d:H).toNat=((2^d:N):H):=(zq 2 d).symm
  rw [show nn (((a:H).fdiv 6).fdiv<|2^(d:H).toNat) 1=((a/6/2^d%2:N):H) by rw [u,show(a:H).fdiv 6=((a/6:N):H) from nL a 6,nL,show nn ((a/6/2^d:N):H) 1=((a/6/2^d&&&1:N):H) from kd _ 1,EA]]
  have v:a/6/2^d%2<2:=fI _<|by decide
  refine fL (q:=aX [b,c]) O (hn (b:=[b,c]) v "") (show 2<1048577 by decide) ?_
  exact s _<|cG (by rfl) (by rfl) (tI e i {script:=g,piece:=h,lead:=Q<|.int a,pair:=Q<|.lst (aX [b,c])}<|.same O (.same O<|.same O (.ns O .nil)))
 .intro r n A x
  refine ac (λd t o=> ?_)<|rz n;obtain rfl:=o
  (revert x;refine aL λy=> ?_;subst y);rfl
 refine be ((bq mg<|Hd (λm=> [b,c].getD (a/6/2^m%2) "") (1+a%6)).trans<|Dr (sI b c a)) ?_
 have B:(sI b c a).length<=6:=by unfold sI;rw [aW,jp];exact p
 exact bc (aK (Hx 3 _ 0<|Th b c a k l)<|by lia) j
theorem QR(f:M H)(g d e:N)(h:H)(a b:I)(i:a.length=1)(j:b.length=1)(c:I)(k:R):
 bz (bt w 20) (((bu 74).drop 3).take 1) (dL c) (eX c [("pick",.int g),("order",.int h),("places",k)] {script:=Q<|.lst (eB f),piece:=Q<|.int d,lead:=Q<|.int e,pair:=Q<|.lst (aX [a,b])} [.ns [],.ns []]) λl m=>l= .next/\ m=eX c [("pick",.int g),("order",.int h),("places",k),("front",.str (pi a b e))] {script:=Q<|.lst (eB f),piece:=Q<|.int d,lead:=Q<|.int e,pair:=Q<|.lst (aX [a,b]),want:=Q<|.str (pP a b d)} [.ns [],.ns [],.ns [],.ns []]:=by
 refine Rs (w:=w) _ _ d _ a b i j c _ ?_
 refine Qt (w:=w) _ _ e _ a b i j c _ ?_
 exact⟨O,O⟩
noncomputable def dg(a:N):N:=1+a/256%60000
noncomputable def oZ(a:I):R:=kM (a++bC "<lambda>") 16 20
theorem tx(a:I):Dx a (.ctab a)=Q ():=by refine(?_:(bif aI (a=a) then Q () else U)=_);rw [ck O];rfl
theorem QS(d e f:ag R)(g:ca)(c h:I)(i:M I)(a:N)(j k:R)(b:I)(l:∀n o,o g.av n->w (.raw<|bS 66) [.str c] [] n o):
 bz (bt w 20) (((bu 74).drop 4).take 3) (dL b) (eX b [("pick",j),("order",.int a),("places",k),("front",.str h)] {script:=d,piece:=e,lead:=f,pair:=Q<|.lst (aX i),want:=Q<|.str c} [.ns [],.ns [],.ns [],.ns []]) λp q=>p= .next/\∃m, q=eX b [("pick",j),("order",.int a),("places",k),("front",.str h),("tails",.loc 27),("many",.int 0)] {script:=d,piece:=e,lead:=f,pair:=Q<|.lst (aX i),want:=Q<|.str c,plan:=Q g.av,stride:=Q<|.int (dg a:N),known:=Q<|.loc 26,ask:=Q<|oZ b,heads:=Q<|.lst (aX [""]),word:=Q<|.str ""} [.ns [],.ns [],.ns [],.ns [],.dict m (bv.av []),.list (aX [""])]:=by
 revert w d e f g c h i a j k b l
 apply U12
 generalize P11 _=w,Q11 _=d,Q10 _=e,Q9 _=f,Q8 _=g,Q7 _=c,Q6 _=h,Q5 _=i,Q4 _=a,Q3 _=j,Q2 _=k,Q1 _=b
 intro l
 have r:(1:H)+((a:H).fdiv 256).fmod 60000=((dg a:N):H):=by rw [show(a:H).fdiv 256=((a/256:N):H) from nL a 256,show((a/256:N):H).fmod 60000=((a/256%60000:N):H) from kh _ 60000];rfl
 refine l _ _ ?_
 conv=>whnf
 rw [r]
 intro m
 refine be (eh O<|eh O (tx _)) ?_
 exact⟨O,m,O⟩
noncomputable def BM(a:ag cD):M cD:=match a with
 |some (.For _ _ b _ _)=>b
 |_=> []
noncomputable def tD:M cD:=BR (BM (bu 74)[7]?)[1]?
noncomputable def Cp(b:aC)(c:I):R:=match b with
 | .Lambda d e a _=> .clo d e a (c++bC "<lambda>")<|(mH vm a.names<|Q []).getD []
 |_=> .none
noncomputable def dO(a:I):R:=Cp (nG tD[1]?) a
noncomputable def hC(a:I):R:=Cp (nG tD[2]?) a
structure bE where
 q:I
 sv:ag R
 pv:ag R
 lv:ag R
 pk:R
 od:N
 pl:R
 P:ca
 want:I
 front:I
 S:M N
variable{a3:bE}
instance:fx bE:=⟨by constructor<;>first|exact kv|exact zj BS|exact λ_ _ _ _=>True⟩
structure ep where
 tails:M I
 heads:M I
 many:N
 word:ag I
 goals:ag (M ah)
 moves:ag bw
 marks:ag R
 told:ag R
variable{j2:ep}
instance:fx ep:=⟨by constructor<;>first|exact kv|exact Classical.choice inferInstance|exact λ_ _ _ _=>True⟩
noncomputable def bE.pr(a:bE):M I:=a.S.map au
noncomputable def rK(a:ag I):R:=match a with
 |some a=> .str a
 |none=> .none
noncomputable def xI(a:ag (M ah)):ag R:=match a with
 |some b=>Q<|.lst (hA b)
 |none=>U
noncomputable def vp(a:ag bw):ag R:=match a with
 |some b=>Q b.av
 |none=>U
noncomputable def qK(a:bE)(b:ep):ev:={script:=a.sv,piece:=a.pv,lead:=a.lv,pair:=Q<|.lst (aX a.pr),want:=Q<|.str a.want,plan:=Q a.P.av,stride:=Q<|.int (dg a.od:N),known:=Q<|.loc 26,ask:=Q<|oZ a.q,heads:=Q<|.lst (aX b.heads),word:=Q<|rK b.word,goals:=xI b.goals,moves:=vp b.moves,marks:=b.marks,told:=b.told}
noncomputable def cE(a:bE)(b:ep)(c:M (I×R))(d:N)(e:bv)(f:M G):M G:= eX a.q (("pick",a.pk)::("order",.int a.od)::("places",a.pl)::("front",.str a.front)::("tails",.loc 27)::("many",.int b.many)::c) (qK a b) (.ns []:: .ns []:: .ns []:: .ns []:: .dict d e.av:: .list (aX b.tails)::f)
noncomputable def fo(b:bx)(d:M I)(e:bw)(a:I)(c:N):ah:=b.f (d.getD (fZ e<|fV a U (Q (c:H))) ""++fV a (Q (c:H)) U)==b.f a
theorem KY(b:a∈(fV g j8 m2).cps.toList):a∈g.cps.toList:=by
 unfold fV at b;split at b
 .exact b
 .refine ac (λc d m2=> ?_)<|qj.mp (show a∈Ei _ _ from b);exact Mj.mpr<|Array.mem_of_getElem? m2
theorem ac9(a:I)(b c:ag H):(fV a b c).length<=a.length:=OJ a b c
def nD(b:bx)(d:M I)(e:bw)(a:I)(c:N):Prop:=lp b (d.getD (fZ e<|fV a U (Q (c:H))) ""++fV a (Q (c:H)) U)/\lp b a
theorem al4(m:cc z a8)(n:a8.length<900000)
 (f:nf w z a3.want (a3.q++bC "<lambda>") 16 20) (o:qD w a0 a3.S) (h:a0.Ok a3.S) (i:d6.length=a0.length) (j:∀e∈g.cps.toList,e∈a3.S) (b:g.length<100000) (u:z.S=a3.S) (p:∀v∈d6,v.length<100000/\dE z v) (k:nD z d6 a0 g a2)
 (q:∀E l,cc z l->a8.length<=l.length->l.length<=a8.length+2->s (.bool<|fo z d6 a0 g a2) (cE a3 ⟨a4,d6,a,Q g,g4,Q a0,c4,f2⟩ D E l<|c++ [.ns [("place",.int a2)]])):
 rB (bt w<|t+16) (dO a3.q) (.int a2) (cE a3 ⟨a4,d6,a,Q g,g4,Q a0,c4,f2⟩ D d a8 c) s:=by
 revert w z a3 a4 d6 a g g4 a0 c4 f2 D d t a2 a8 c s m n f o h i j b u p k q
 apply U18
 generalize P17 _=a4,Q17 _=d6,Q16 _=a,Q15 _=d,Q14 _=t,Q13 _=a2,Q12 _=g4,Q11 _=g,Q10 _=D,Q9 _=c4,Q8 _=f2,Q7 _=c,Q6 _=s,Q5 _=w,Q4 _=a0,Q3 _=a8,Q2 _=z,Q1 _=a3
 intro m n f o h i j b u p k q
 have x:fZ a0 (fV g U<|Q (a2:H))<d6.length:=i▸yh h _ λe r=>j e<|KY r
 have y:(d6.getD (fZ a0<|fV g U (Q (a2:H))) "").length<100000:=(p _<|nM x _).1
 have A:(fV g (Q (a2:H)) U).length<=g.length:=ac9 _ _ _
 refine be (cA O O O) ?_
 refine bc (by exact af 0 C 1048576 (.p 1 (C+1) 100000 .z) (bj _) O b) ?_
 refine o _ _ _ (λe r=>j e<|KY r) ?_
 refine fL O (L:= .str<|d6.getD (fZ a0<|fV g U (Q (a2:H))) "") (hn x "") (by unfold aX;rw [aW,i];exact rZ h.len) ?_
 refine be (cA O O O) ?_
 refine bc (by exact af 0 C 1048576 (.p 1 (C+1) 100000 .z) (bj _) O b) ?_
 refine bc (by exact af 0 (C+J) 1048576 (.p 1 (aj+1) 100000<|.p 1 (C+1) 100000 (.p 1 J aj .z)) (bk _ _ _) O b y A) ?_
 refine f _ _ 26 d a8 _ O O O m (by exact aK ‹_› (bA O)) (by rw [AA];exact af 0 (C+J+1) 1000000 (.p 1 (aj+1) 100000<|.p 1 (C+1) 100000 (.p 1 J aj .z)) (bk _ _ _) O b y A) k.1 λK L P Z B=> ?_
 refine f _ _ 26 K L _ O O O P (by exact af 0 (C+1) 1000000 (.p 1 (J+1) 900000<|.p 1 C (J+1) .z) (aN _ _) O n B) (by exact aK ‹_› (bA O)) k.2 λS T V a1 Y=> ?_
 exact q S T V (by exact aK ‹_› ‹_›)<|by exact af 0 C (J+2) (.p 1 aj (J+1)<|.p 1 C (aj+1) .z) (bk _ _ _) O B Y
theorem Xw(a:M N)(b:N):cX a++ [.int (b:H)]=cX (a++ [b]):=by unfold cX;rw [de];rfl
def oT(q:bY)(b:bx)(g:bE)(c:M I)(d:bw)(e:I):Prop:=∀(i:M I) (j:N) (k:ag (M ah)) (l m:ag R) (n:M (I×R)) (r:N) (a:bv) (o:M G) (h:N) (p:aQ),cc b a->a.length<900000->nD b c d e h->
 (∀s f,cc b f->a.length<=f.length->f.length<=a.length+2->p (.bool<|fo b c d e h) (cE g ⟨i,c,j,Q e,k,Q d,l,m⟩ n s f o))->
 q (dO g.q) [.int h] [] (cE g ⟨i,c,j,Q e,k,Q d,l,m⟩ n r a o) p
theorem al2(f:oT w z a3 d6 a0 g)(h:nD z d6 a0 g a2)(i:cc z a8)(j:a8.length<900000)(p:m.length<1000000)
 (k:∀e b,cc z b->a8.length<=b.length->b.length<=a8.length+2->s (.bool<|!fo z d6 a0 g a2) (cE a3 ⟨a4,d6,a,Q g,g4,Q a0,Q<|.loc 29,Q<|dO a3.q⟩ D e b (b9:: .list (cX<|m++ [a2])::(c++ [.ns [("place",.int a2)]])))):
 rB (bt w<|t+16) (hC a3.q) (.int a2) (cE a3 ⟨a4,d6,a,Q g,g4,Q a0,Q<|.loc 29,Q<|dO a3.q⟩ D d a8 (b9:: .list (cX m)::c)) s:=by
 refine be (cA O O O) ?_
 refine bc (by unfold cX;rw [aW];exact aK ‹_› (bA O)) ?_
 rw [Xw]
 refine be (cA (c:=cE a3 ⟨a4,d6,a,Q g,g4,Q a0,Q<|.loc 29,Q<|dO a3.q⟩ D d a8 (b9:: .list (cX<|m++ [a2])::c)) (V:=[]) (D:=[("place",.int a2)]) O O O) ?_
 refine f a4 a g4 (Q<|.loc 29) (Q<|dO a3.q) D d a8 (b9:: .list (cX<|m++ [a2])::(c++ [.ns [("place",.int a2)]])) a2 _ i j h λe b l n o=> ?_
 exact k e b l n o
noncomputable def yQ(b:bx)(c a:M I):Tb:=⟨a,mL [] ((jD (cS b c) a 0 []).map (·.1)),jD (cS b c) a 0 [],[]⟩
noncomputable def hF(a:bx)(b c d:M I):Tb:=li (cS a b) c 8 0<|yQ a b d
def tR(a:bx)(c d e:M I):Prop:=∀b∈e,lp a b/\oS a c b/\∀f∈d,oS a c (b++f)
def qE(k:bY)(b:bx)(c:bE):Prop:=∀(a:ep) (f:M (I×R)) (l:N) (d:bv) (g:M G) (h:aQ),cc b d->d.length<900000->a.heads.length<=8->(∀i∈a.heads,i.length<=100000/\dE b i)->a.tails.length<=100->(∀j∈a.tails,j.length<=50000/\dE b j)->tR b a.tails c.pr (hF b a.tails c.pr a.heads).hl->
 (∀m e,cc b e->e.length<=d.length+(a.heads.length+16)*a.tails.length->h (.tup [.lst (aX (hF b a.tails c.pr a.heads).hl),(hF b a.tails c.pr a.heads).mv.av]) (cE c a f m e g))->
 k (.raw<|bS 70) [oZ c.q,.lst (aX c.pr),.loc 27,.lst (aX a.heads)] [] (cE c a f l d g) h
def qF(c:bY)(d:bw)(e:ca)(f:M ah)(g:M N)(h:I)(i:ag I):Prop:=∀(a:M G) (b:aQ),b (rK i) a->c (.raw<|bS 72) [d.av,.lst (hA f),.lst (aX<|g.map au),e.av,.str h] [] a b
noncomputable def DE:M cD:=BM (bu 74)[7]?
noncomputable def DC:cD:=DE.headD<|.Pass ⟨0,0,0,0⟩
def Ms(b:bx)(g:bE)(h:ep)(i:M (I×R))(j:N)(k:M ah)(l:M R)(m:M R)(n:M G):Prop:=∀e:M R->M G->Prop,(∀(a:M I) (c:M ah) (o:N) (d:bv) (p:l=aX a) (q:cc b d) (r:d.length+a.length<=j) (s:c++a.map b.f=k) (t:∀f∈a,f.length<1000000/\lp b f) (u:c.length+a.length<=8),e (hA c) (cE g h i o d [.ns []]))->e m n
theorem Bj(b:∀a,a<28->a1 a=Q (.loc a)):iJ a1 (oZ g):=by
 have c:mb a1 ([("want",20),("known",16)]:M (I×N))=Q ([("want",20),("known",16)]:M (I×N)):=by exact Ka (b 20<|by decide)<|Ka (b 16<|by decide) O
 refine(?_:(mb a1 ([("want",20),("known",16)]:M (I×N))).map _=_);rw [c];rfl
theorem uC(c:28<=a)(b:N)(d:b<28):cM a b=Q (.loc b):=by unfold cM;rw [ck (by exact ij ‹_› ‹_›)];rfl
def fG(b:N->ag R)(c:ag R):Prop:=∀a,c=Q a->iJ b a
theorem iW:fG a1 U:=λ_ a=>(by exact aU a)
theorem ds(a:iJ a1 h):fG a1 (Q h):=λ_ b=>by(revert b;refine aL λc=> ?_;subst c);exact a
def tJ(a:N->ag R):M (ag R)->Prop
 |[]=>kc
 |b::c=>fG a b/\tJ a c
theorem uZ(d:gy a1 c V):∀a:M (ag R),tJ a1 a->gy a1 (a.map .cell++c) (a.map .cell++V)
 |[],_=>d
 |none::a,b=> .same O O<|uZ d a b.2
 |some e::a,b=> .same O (by refine(?_:(R.ren a1 e).map _=_);rw [b.1 e O];rfl)<|uZ d a b.2
theorem Bo(e:eL a c V):∀b:M (ag R),tJ (cM a) b->eL a (b.map .cell++c) (b.map .cell++V)
 |[],_=>e
 |none::b,d=> .same O O<|Bo e b d.2
 |some f::b,d=> .same O (by refine(?_:(R.ren (cM a) f).map _=_);rw [d.1 f O];rfl)<|Bo e b d.2
structure jH(c:bE)(h:N->ag R):Prop where
 sv:fG h c.sv
 pv:fG h c.pv
 lv:fG h c.lv
 pk:iJ h c.pk
 pl:iJ h c.pl
theorem Bm(b:N->ag R)(a:ag I):iJ b (rK a):=by cases a<;>rfl
theorem Gw(b:N->ag R)(a:ag (M ah)):fG b (xI a):=by
 cases a with
 |none=>exact iW
 |some a=>exact ds<|gS (yv b a)
theorem Gy(b:N->ag R)(a:ag bw):fG b (vp a):=by
 cases a with
 |none=>exact iW
 |some a=>exact ds<|gS (vC b a)
theorem AR(a:jH a3 a1)(d:∀b,b<28->a1 b=Q (.loc b))(c:ep)(e:fG a1 c.marks)(f:fG a1 c.told):tJ a1 (qK a3 c).l:= ⟨a.sv,a.pv,a.lv,ds<|gS (jB a1 _),ds<|pI a1 _,ds O,Gw a1 _,iW,iW,iW,iW,iW,ds<|Bj d,ds<|gS (jB a1 _),ds<|d 26 (by decide),e,Gy a1 _,f,ds O,ds<|Bm a1 _,eG⟩
noncomputable def Go(a:bE)(b:N)(c:M (I×R)):M (I×R):=("pick",a.pk)::("order",.int a.od)::("places",a.pl)::("front",.str a.front)::("tails",.loc 27)::("many",.int b)::c
theorem pA(a:N->ag R):G.ren a (.ns [])=Q (.ns []):=O
theorem yz(b:jH a3 a1)(d:∀a,a<28->a1 a=Q (.loc a))(c:N)(e:R.rend a1 D=Q D):
 R.rend a1 (Go a3 c D)=Q (Go a3 c D):=by
 have f:R.ren a1 a3.pk=Q a3.pk:=b.pk
 have g:R.ren a1 a3.pl=Q a3.pl:=b.pl
 exact hr f<|hr O (hr g<|hr O (hr (d 27<|by decide)<|hr O e))
theorem GD(e:jH a3 (cM a))(f:∀d,d<28->cM a d=Q (.loc d))(b:ep)(i:fG (cM a) b.marks)(j:fG (cM a) b.told)(k:R.rend (cM a) D=Q D)(g:N)(h:bv)(l:eL a c V):
 eL a (cE a3 b (D++d8) g h c) (cE a3 b D g h V):=
 .same O O (.ns O (yz e f b.many k)<|Bo (.same O O<|.same O O (.same O O<|.same O O (.same O (kZ _ _ _)<|.same O (hT _ _) l))) (qK a3 b).l (AR e f b i j))
theorem az4(g:jH a3 (cM a))(h:∀d,d<28->cM a d=Q (.loc d))(b:ep)(i:fG (cM a) b.marks)(j:fG (cM a) b.told)(k:R.rend (cM a) D=Q D)(e:N)(f:bv)(l:eL a c V):
 eL a (cE a3 b D e f c) (cE a3 b D e f V):=by
 have:=GD g h b i j (d8:=[]) k e f l
 rw [cZ] at this;exact this
theorem az8(d:jH a3 a1)(e:∀b,b<28->a1 b=Q (.loc b))(a:ep)(h:fG a1 a.marks)(i:fG a1 a.told)(j:R.rend a1 D=Q D)(f:N)(g:bv)(k:gy a1 c V):
 gy a1 (cE a3 a (D++d8) f g c) (cE a3 a D f g V):=
 .same O (show G.ren a1 (.ctab _)=Q (.ctab _) from O) (.ns O (yz d e a.many j)<|uZ (.same O (pA _)<|.same O (pA _) (.same O (pA _)<|.same O (pA _) (.same O (kZ _ _ _)<|.same O (hT _ _) k))) (qK a3 a).l (AR d e a h i))
theorem aE2(a:bE)(b:ep)(d:M (I×R))(e:N)(f:bv)(g:el c V):el (cE a b (d++D) e f c) (cE a b d e f V):= .same O<|.ns O (zb (.same O<|.same O (.same O<|.same O (.same O<|.same O g))) (qK a b).l)
theorem zc(a:bE)(b:ep)(d:M (I×R))(e:N)(f:bv)(g:el c V):el (cE a b d e f c) (cE a b d e f V):= .same O<|.same O (zb (.same O<|.same O (.same O<|.same O (.same O<|.same O g))) (qK a b).l)
theorem TG(a:M ah)(b:ah):hA a++ [.bool b]=hA (a++ [b]):=by unfold hA;rw [de];rfl
theorem Qu(l:hF z a4 a3.pr d6=f4)
 (t:qE w z a3) (u:nf w z a3.want (a3.q++bC "<lambda>") 16 20) (v:qF w f4.mv a3.P (f4.hl.map z.f) a3.S a3.front j9) (x:cc z a8) (V:a8.length<800000) (y:d6.length<=8) (A:∀b∈d6,b.length<=100000/\dE z b) (m:a4.length<=100) (B:∀Y∈a4,Y.length<=50000/\dE z Y)
 (a0:a<f4.hl.length) (n:f4.hl.length<=8) (E:∀b∈f4.hl,b.length<1000000/\dE z b) (i:tR z a4 a3.pr f4.hl) (K:∀b0 L,cc z L->L.length<=a8.length+(d6.length+16)*a4.length+8->Z .next (cE a3 ⟨a4,f4.hl,f4.hl.length,j9,Q<|f4.hl.map z.f,Q f4.mv,c4,f2⟩ D b0 L [.ns []])):
 (bt w 19).S DC (dL a3.q) (cE a3 ⟨a4,d6,a,Q g,g4,m3,c4,f2⟩ D d a8 []) Z:=by
 revert w z a3 a4 d6 a g g4 m3 c4 f2 D d a8 Z f4 j9 l t u v x V y A m B a0 n E i K
 apply U17
 generalize P16 _=a4,Q16 _=d6,Q15 _=a,Q14 _=d,Q13 _=g4,Q12 _=j9,Q11 _=g,Q10 _=D,Q9 _=c4,Q8 _=f2,Q7 _=Z,Q6 _=w,Q5 _=m3,Q4 _=a8,Q3 _=z,Q2 _=f4,Q1 _=a3
 intro l t u v x V y A m B a0 n E i K
 refine t ⟨a4,d6,a,Q g,g4,m3,c4,f2⟩ D d a8 [] _ x (by lia) y A m B (by rw [<-l] at i;exact i) λb1 P b2 a1=> ?_
 have a1:P.length<=a8.length+(d6.length+16)*a4.length:=a1
 have b6:=zO (show d6.length+16<=24 by lia) m
 have a2:(aX f4.hl).length=f4.hl.length:=aW ..
 rw [l]
 refine bc (by lia) ?_
 refine qJ (by rw [cN (by rw [a2];refine(?_:¬((f4.hl.length:H)<=(a:H)));lia)];rfl) ?_
 refine bc (by lia) ?_
 refine qJ (by rw [cN (by lia)];rfl) ?_
 refine bc (by lia) ?_
 refine⟨Ms z a3 ⟨a4,f4.hl,a,Q g,g4,Q f4.mv,c4,f2⟩ D (P.length+8)<|f4.hl.map z.f,λ_ S=>S f4.hl [] b1 P O b2 (kB n _) O (λb o=>⟨(E b o).1,(i b o).1⟩)<|aK (dM<|fw _) n,?_,?_,?_⟩
 .intro b3 a5 a6 b
  apply b;clear b;intro c e p q j r T f k h
  exact⟨cW,O,O⟩
 .intro b7 b3 a5 a6 b
  apply b;clear b;intro c e p q j r T f k h
  cases c with
  |nil=>cases j
  |cons s c=>
   cases j
   have b8:(s::c).length=c.length+1:=O
   have h:e.length+(c.length+1)<=8:=h
   refine u _ _ 26 p q _ O O O r (by lia) (k _<|.head _).1 (k _<|.head _).2 λa7 a9 b4 b9 b5=> ?_
   refine bc (by unfold hA;rw [aW];exact cd (aK (dS _ _) h)<|by decide) ?_
   refine⟨_,cG (by rfl) (by rfl)<|zc a3 ⟨a4,f4.hl,a,Q g,g4,Q f4.mv,c4,f2⟩ D a7 a9 (.ns (v:=[]) (extra:=[_]) O .nil),?_⟩
   rw [TG]
   exact λ_ S=>S c (e++ [z.f s]) a7 a9 O b4 (aK (jS b5 _)<|by rw [fg];exact T) (by rw [<-f,eo];rfl) (λb o=>k b<|.tail _ o)<|by rw [bN,lz,fS [z.f s].length];exact h
 .intro a5 a6 b
  apply b;clear b;intro c e p q j r T f k h
  cases c with
  |cons s c=>cases j
  |nil=>
   have f:e=f4.hl.map z.f:=(cZ e).symm.trans f
   subst f
   refine v _ _ ?_
   rw [a2]
   exact K p q r<|by lia
noncomputable def DD:cD:=DE.getD 1<|.Pass ⟨0,0,0,0⟩
def qa(q:bY)(c:bx)(a:bE)(d:M I)(e:bw)(f:I):Prop:=∀(j:M I) (k:N) (l:ag (M ah)) (m:M (I×R)) (r:N) (b:bv) (i:M N) (n:G) (o:M G) (g:N) (p:aQ),cc c b->b.length<900000->i.length<1000000->nD c d e f g->
 (∀s h,cc c h->b.length<=h.length->h.length<=b.length+2->p (.bool<|!fo c d e f g) (cE a ⟨j,d,k,Q f,l,Q e,Q<|.loc 29,Q<|dO a.q⟩ m s h (n:: .list (cX<|i++ [g])::o)))->
 q (hC a.q) [.int g] [] (cE a ⟨j,d,k,Q f,l,Q e,Q<|.loc 29,Q<|dO a.q⟩ m r b (n:: .list (cX i)::o)) p
def jG(q r:bY)(h:ah):Prop:=∀(l i:R) (m:N) (j:M R) (k:N->R) (f:M N->M G->Prop) (d:N->ah) (c:M G) (b a:N) (e:aQ),mr r l m c.length j k f (· ∈dB d (a - b) b a) (dB d (a - b) b a).length->(∀s n,f s n->∀o∈n,G.ren (cM c.length) o=Q o)->
 (∀g c e,e (bif h then !d g else d g)->bif h then lP .Lt (k g) i c e else lP .Lt i (k g) c e)->j.length<1000000->f [] c->b<=a->a<=j.length->
 (∀p,f (dB d (a - b) b a) p->e (.int (dr d (a - b) b a:N)) p)->q (.raw<|bif h then bS 4 else bS 2) [.loc m,i,.int b,.int a] [("key",l)] c e
noncomputable def ma(a:bx)(b:M I)(c:bw)(d:I)(e:N):ah:= !fo a b c d e
noncomputable def dy(b:bx)(c:M I)(d:bw)(a:I):N:=dr (ma b c d a) (a.length - 1) 1 a.length
noncomputable def et(b:bx)(c:M I)(d:bw)(a:I):M N:=dB (ma b c d a) (a.length - 1) 1 a.length
def vX(c:bx)(d:bE)(e:ep)(f:M (I×R))(g:M R)(h:N)(b:M N)(i:M G):Prop:=∃(j:N) (a:bv),i=cE d e f j a [.ns [],.list (cX b),.list g]/\cc c a/\a.length<=h+2*b.length
noncomputable def HU:aC->aC
 | .IfExp _ a _ _=>a
 |b=>b
noncomputable def HV:aC->aC
 | .IfExp _ _ a _=>a
 |b=>b
noncomputable def RM:aC:=HU<|nG tD[3]?
noncomputable def RN:aC:=HV<|nG tD[3]?
noncomputable def tB(a:N)(b:R):M (I×R):=[("turn",.int a),("key",b)]
structure jl(i:bE):Prop where
 b:∀h:N->ag R,(∀c,c<28->h c=Q (.loc c))->jH i h
 t:∀h:N->ag R,(∀c,c<28->h c=Q (.loc c))->iJ h (dO i.q)
 k:∀h:N->ag R,(∀c,c<28->h c=Q (.loc c))->iJ h (hC i.q)
theorem ah7(b:iJ a1 h)(a:N):R.rend a1 (tB a h)=Q (tB a h):=by have c:R.ren a1 h=Q h:=b;exact hr O<|hr c O
theorem Pq:∀{c:M (ag R)},tJ a1 c->∀b∈c,G.ren a1 (.cell b)=Q (.cell b):=by
 intro c
 induction c with
 |nil=>intro _ b d;cases d
 |cons e c g=>
  intro f b d
  cases e with
  |none=>
   obtain a|a:=bO.mp d
   .subst a;rfl
   .exact g f.2 b a
  |some e=>
   obtain a|a:=bO.mp d
   .subst a;refine(?_:(R.ren a1 e).map _=_);rw [f.1 e O];rfl
   .exact g f.2 b a
theorem Ps(l:jH a3 a1)(m:∀n,n<28->a1 n=Q (.loc n))(d:ep)(h:fG a1 d.marks)(i:fG a1 d.told)(j:R.rend a1 D=Q D)(f:N)(g:bv)(k:∀e∈c,G.ren a1 e=Q e):
 ∀e∈cE a3 d D f g c,G.ren a1 e=Q e:=by
 revert a3 a1 D c l m d h i j f g k
 apply U4
 generalize P3 _=D,Q3 _=a1,Q2 _=c,Q1 _=a3
 intro l m d h i j f g k
 revert h i j k
 revert d f g
 apply U3
 generalize P2 _=d,Q2 _=f,Q1 _=g
 intro h i j k
 exact λe a=>by
  obtain b|a:=bO.mp a
  .subst b;rfl
  obtain b|a:=bO.mp a
  .subst b;exact bq (eU G.ns)<|yz l m d.many j
  obtain a|a:=dQ.mp<|show e∈(qK a3 d).l.map G.cell++(.ns []:: .ns []:: .ns []:: .ns []:: .dict f g.av:: .list (aX d.tails)::c) from a
  .refine ac (λo p b=> ?_)<|cT.mp a;subst b;exact Pq (AR l m d h i) o p
  .obtain b|a:=bO.mp a
   .subst b;rfl
   obtain b|a:=bO.mp a
   .subst b;rfl
   obtain b|a:=bO.mp a
   .subst b;rfl
   obtain b|a:=bO.mp a
   .subst b;rfl
   obtain b|a:=bO.mp a
   .subst b;exact kZ _ _ _
   obtain b|a:=bO.mp a
   .subst b;exact hT _ _
   exact k e a
theorem vD(b:N->ag R):∀a:M N,R.rens b (cX a)=Q (cX a):=by
 intro a
 induction a with
 |nil=>exact O
 |cons c d e=>exact by refine(?_:(R.rens b<|cX d).map (λa=>R.int c::a)=_);rw [e];rfl
theorem YT(a:N):fR a=cX (dR a):=ry a
theorem TH(b:2^a<=du 1 (2*d - 2))(c:t=a):¬((2:H)^(t:H).toNat>(if(2:H)*(d:H) - 2>1 then(2:H)*(d:H) - 2 else 1)):=by subst c;rw [show(2:H)^(t:H).toNat=((2^t:N):H) from(zq 2 t).symm];split<;>(first|exact an6 _ _ b ‹_›|exact an7 _ _ b ‹_›)
theorem VG(o:qa w z a3 d6 a0 g)(p:∀q∈et z d6 a0 g,nD z d6 a0 g q)(f:a2<=200)(r:d<800000)(P:t<100000):
 mr w (hC a3.q) 30 31 (fR t) (λs=> .bool<|ma z d6 a0 g s) (vX z a3 ⟨a4,d6,a,Q g,g4,Q a0,Q<|.loc 29,Q<|dO a3.q⟩ D (fR t) d) (· ∈et z d6 a0 g) a2 where
 some:=O
 nb:=O
 len:=λb u ⟨h,i,e,_,_⟩=>by subst e;exact⟨O,O⟩
 run:=λb u c v x ⟨h,i,e,y,j⟩ k l A B=>by
  subst e;rw [pJ] at k;have E:(fR t).getD c .none= .int c:=by rw [ry,ed,gj,tZ k];rfl
  rw [E];refine o a4 a g4 D h i b (.ns []) [.list (fR t),.ns v] c x y (by exact af 0 (C+1) 900000 (.p 2 J 200<|.p 1 (aj+1) 800000 (.p 2 (bo+1) J<|.p 1 C (aj+(bn 2 bo)) .z)) (di _ _ _ _) O f r l j) (by exact af 0 (C+1) 1000000 (.p 1 J 200<|.p 1 (C+1) J .z) (aN _ _) O f l) (p _ A) λm n K S L=> ?_;exact B (cE a3 ⟨a4,d6,a,Q g,g4,Q a0,Q<|.loc 29,Q<|dO a3.q⟩ D m n [.ns [],.list (cX<|b++ [c]),.list (fR t)]) ⟨m,n,O,K,by rw [bN];refine(?_:_<=d+2*(b.length+1));exact af 0 C (J+(bn 2<|aj+1)) (.p 1 bo (J+(bn 2 aj))<|.p 1 C (bo+2) .z) (di _ _ _ _) O j L⟩
theorem HY(e:jl a3):∀i f,vX z a3 ⟨a4,d6,a,Q g,g4,Q a0,Q<|.loc 29,Q<|dO a3.q⟩ (tB d<|hC a3.q) (fR a2) t i f->∀h∈f,G.ren (cM 31) h=Q h:=by
 intro i f j;(revert j;refine dd λk l m n n=> ?_;obtain rfl:=m);have c:∀d,d<28->cM 31 d=Q (.loc d):=uC (by decide);refine Ps (e.b _ c) c _ (ds<|show iJ (cM 31) (.loc 29) from O) (ds<|e.t _ c) (ah7 (e.k _ c) d) k l λh b=> ?_;obtain rfl|b:=bO.mp b
 .rfl
 obtain rfl|b:=bO.mp b
 .exact bq (eU G.list)<|vD _ _
 .rw [bU.mp b,YT];exact bq (eU G.list)<|vD _ _
theorem Qm(n:jl a3)(u:qa h3 z a3 d6 a0 g)(v:jG w h3 X)(x:jG w h3 ai)
 (o:cc z a8) (K:a8.length<700000) (c:1<=g.length) (h:g.length<50000) (L:(et z d6 a0 g).length<=100) (y:∀A∈et z d6 a0 g,nD z d6 a0 g A) (B:ah) (e:aQ)
 (p:∀f b,cc z b->b.length<=a8.length+2*(et z d6 a0 g).length->e (.int (dy z d6 a0 g:N)) (cE a3 ⟨a4,d6,a,Q g,g4,Q a0,Q<|.loc 29,Q<|dO a3.q⟩ [("turn",.int d),("key",hC a3.q)] f b [.ns [],.list (cX<|et z d6 a0 g),.list (fR<|g.length+1)])):
 eQ B ((bt w 16).E RM (dL a3.q) (cE a3 ⟨a4,d6,a,Q g,g4,Q a0,Q<|.loc 29,Q<|dO a3.q⟩ [("turn",.int d),("key",hC a3.q)] t a8 [.ns [],.list []]) e) ((bt w 16).E RN (dL a3.q) (cE a3 ⟨a4,d6,a,Q g,g4,Q a0,Q<|.loc 29,Q<|dO a3.q⟩ [("turn",.int d),("key",hC a3.q)] t a8 [.ns [],.list []]) e):=by
 have q:=VG (a4:=a4) (a:=a) (g4:=g4) u y (a2:=(et z d6 a0 g).length) (by exact aK ‹_› (bA O)) (d:=a8.length) (by exact aK ‹_› (bA O)) (D:=tB d<|hC a3.q) (t:=g.length+1)<|by exact cd ‹_› (bA O)
 refine fc (λ_=> ?_) λ_=> ?_
 .refine bc (by exact aK ‹_› (bA O)) ?_
  refine bc ⟨by exact aw 0 (eS<|-4611686018427387904) (F+1) (.p 1 1 F .z) (aG _) O<|ak c,by exact aw 0 (F+1+1) 4611686018427387904 (.p 1 (F+1) 50000 .z) (aG _) O<|ak h⟩ ?_
  refine bc ⟨by exact aK ‹_› (bA O),by decide,by decide,by exact aw 0 (eS<|-4611686018427387904) (F+1) (.p 1 1 F .z) (aG _) O<|ak c,by exact aw 0 (F+1+1) 4611686018427387904 (.p 1 (F+1) 50000 .z) (aG _) O<|ak h⟩ ?_
  refine bc (by exact aK ‹_› (bA O)) ?_
  refine v (hC a3.q) (.bool X) 30 (fR<|g.length+1) (λd=> .bool<|ma z d6 a0 g d) (vX z a3 ⟨a4,d6,a,Q g,g4,Q a0,Q<|.loc 29,Q<|dO a3.q⟩ (tB d<|hC a3.q) (fR<|g.length+1) a8.length) (ma z d6 a0 g) (cE a3 ⟨a4,d6,a,Q g,g4,Q a0,Q<|.loc 29,Q<|dO a3.q⟩ [("turn",.int d),("key",hC a3.q)] t a8 [.ns [],.list [],.list (fR<|g.length+1)]) 1 g.length e q (HY n) (λr D s i=>by refine(?_:s (!ma z d6 a0 g r&&X));rw [Bool.and_true];exact i) (by rw [pJ];exact cd ‹_› (bA O)) ⟨t,a8,O,o,ba _⟩ c (by rw [pJ];exact dS _ _) λE j=> ?_
  revert j;refine dd λf b k l m=> ?_
  subst k
  exact p f b l m
 .refine bc (by exact aK ‹_› (bA O)) ?_
  refine bc ⟨by exact aw 0 (eS<|-4611686018427387904) (F+1) (.p 1 1 F .z) (aG _) O<|ak c,by exact aw 0 (F+1+1) 4611686018427387904 (.p 1 (F+1) 50000 .z) (aG _) O<|ak h⟩ ?_
  refine bc ⟨by exact aK ‹_› (bA O),by decide,by decide,by exact aw 0 (eS<|-4611686018427387904) (F+1) (.p 1 1 F .z) (aG _) O<|ak c,by exact aw 0 (F+1+1) 4611686018427387904 (.p 1 (F+1) 50000 .z) (aG _) O<|ak h⟩ ?_
  refine bc (by exact aK ‹_› (bA O)) ?_
  refine x (hC a3.q) (.bool ai) 30 (fR<|g.length+1) (λd=> .bool<|ma z d6 a0 g d) (vX z a3 ⟨a4,d6,a,Q g,g4,Q a0,Q<|.loc 29,Q<|dO a3.q⟩ (tB d<|hC a3.q) (fR<|g.length+1) a8.length) (ma z d6 a0 g) (cE a3 ⟨a4,d6,a,Q g,g4,Q a0,Q<|.loc 29,Q<|dO a3.q⟩ [("turn",.int d),("key",hC a3.q)] t a8 [.ns [],.list [],.list (fR<|g.length+1)]) 1 g.length e q (HY n) (λr D s i=>i) (by rw [pJ];exact cd ‹_› (bA O)) ⟨t,a8,O,o,ba _⟩ c (by rw [pJ];exact dS _ _) λE j=> ?_
  revert j;refine dd λf b k l m=> ?_
  subst k
  exact p f b l m
theorem Qv(k:jl a3)(h:oT w z a3 d6 a0 g)(l:qa h3 z a3 d6 a0 g)(m:jG w h3 X)(n:jG w h3 ai)
 (o:cc z a8) (e:a8.length<700000) (p:1<=g.length) (i:g.length<50000) (E:d<8) (K:a4.length<100)
 (q:1<=dy z d6 a0 g) (r:fo z d6 a0 g (dy z d6 a0 g)=ai) (s:fo z d6 a0 g (dy z d6 a0 g - 1)=X) (b:(et z d6 a0 g).length<=100) (u:2^(et z d6 a0 g).length<=du 1 (2*g.length - 2)) (v:∀x∈et z d6 a0 g,0<x/\x<g.length) (f:∀c,(c∈et z d6 a0 g\/c=dy z d6 a0 g\/c+1=dy z d6 a0 g)->nD z d6 a0 g c)
 (y:∀T A V Y a1,cc z A->A.length<=a8.length+2*(et z d6 a0 g).length+4->Z .next (cE a3 ⟨a4++ [fV g (Q (dy z d6 a0 g:N)) U],d6,a,Q g,g4,Q a0,Q<|.loc 29,Q<|dO a3.q⟩ (("turn",.int d)::V) T A (.ns []:: .list (cX a1)::Y))):
 (bt w 19).S DD (dL a3.q) (cE a3 ⟨a4,d6,a,Q g,g4,Q a0,c4,f2⟩ [("turn",.int d)] t a8 [.ns []]) Z:=by
 revert w h3 z a3 a4 d6 a d g g4 a0 c4 f2 t a8 Z k h l m n o e p i E K q r s b u v f y
 apply U16
 generalize P15 _=a4,Q15 _=d6,Q14 _=a,Q13 _=d,Q12 _=t,Q11 _=g4,Q10 _=g,Q9 _=c4,Q8 _=f2,Q7 _=Z,Q6 _=w,Q5 _=h3,Q4 _=a0,Q3 _=a8,Q2 _=z,Q1 _=a3
 intro k h l m n o e p i E K q r s b u v f y
 conv=>whnf
 refine be (eh O<|eh O (tx _)) ?_
 conv=>whnf
 refine be (eh O<|eh O (tx _)) ?_
 conv=>whnf
 refine Qm k l m n o e p i b (λc B=>f c<|.inl B) _ _ λa2 a5 a6 D=> ?_
 conv=>whnf
 refine h a4 a g4 (Q<|.loc 29) (Q<|dO a3.q) [("turn",.int d),("key",hC a3.q),("cut",.int (dy z d6 a0 g:N))] a2 a5 [.ns [],.list (cX<|et z d6 a0 g),.list (fR<|g.length+1)] (dy z d6 a0 g) _ a6 (by exact af 0 (C+1) 900000 (.p 1 (J+1) 700000<|.p 2 aj 100 (.p 1 C (J+(bn 2 aj)) .z)) (bk _ _ _) O e b D) (f _<|.inr (.inl O)) λa7 a9 b0 c0 L=> ?_
 rw [r]
 conv=>whnf
 rw [show((dy z d6 a0 g:N):H) - 1=((dy z d6 a0 g - 1:N):H) by exact an8 _ q]
 refine h a4 a g4 (Q<|.loc 29) (Q<|dO a3.q) [("turn",.int d),("key",hC a3.q),("cut",.int (dy z d6 a0 g:N))] a7 a9 [.ns [],.list (cX<|et z d6 a0 g),.list (fR<|g.length+1)] (dy z d6 a0 g - 1) _ b0 (by exact af 0 (C+1) 900000 (.p 1 (J+1) 700000<|.p 2 aj 100 (.p 1 bo (J+(bn 2 aj))<|.p 1 C (bo+2) .z)) (di _ _ _ _) O e b D L) (f _<|.inr (.inr<|by exact dD ‹_›)) λP S b1 c1 b2=> ?_
 rw [s]
 have j:(cX<|et z d6 a0 g).length=(et z d6 a0 g).length:=aW ..
 conv=>whnf
 refine bc (by exact af 0 (C+1) 4611686018427387904 (.p 1 J 100<|.q 1 C J .z) (aN _ _) O b j) ?_
 refine uJ O (by exact aw 0 0 F (.p 1 0 F .z) (aG _) O<|cj _) (by exact an9 _ _ b j) ?_
 conv=>whnf
 refine bc (by exact aK ‹_› (bA O)) ?_
 conv=>whnf
 refine sA (by rw [ck (by exact aK ‹_› (bA O))];rfl) ?_
 conv=>whnf
 refine qJ (by rw [cN (TH u j)];rfl) ?_
 conv=>whnf
 refine kW (λ_=>U) (λc b3=>by(revert b3;refine aL λb4=> ?_;subst b4);rfl) O (by rw [j];exact cd ‹_› (bA O)) ?_ (λ_ _ _ B=>(by exact aU B)) ?_
 .intro x b5 c2 b6
  refine ac (λb7 b8 b9=> ?_)<|cT.mp b5;obtain rfl:=b9
  refine aA (λc3 c5=> ?_)<|v b7 b8
  conv=>whnf
  refine qJ (ck<|by exact jn.mpr ‹_›) ?_
  conv=>whnf
  refine bc (by exact aK ‹_› (bA O)) ?_
  conv=>whnf
  refine Gl (by rw [ck (by exact jn.mpr ‹_›)];rfl) ?_
  exact b6 _<|cG (by rfl) (by rfl) (zc a3 ⟨a4,d6,a,Q g,g4,Q a0,Q<|.loc 29,Q<|dO a3.q⟩ _ P S<|.same O (.same O<|.same O (.ns (v:=[]) (extra:=[_]) O .nil)))
 rw [MT.mpr (λ_ _=>O)]
 conv=>whnf
 refine bc ⟨O,O⟩ ?_
 rw [nr _ O]
 conv=>whnf
 refine bc (by exact af 0 C 1048576 (.p 1 (C+1) 50000 .z) (bj _) O i) ?_
 conv=>whnf
 refine bc (by unfold aX;rw [aW];refine(?_:a4.length<1048576);exact aK ‹_› (bA O)) ?_
 rw [Ds]
 conv=>whnf
 exact y P S [("key",hC a3.q),("cut",.int (dy z d6 a0 g:N))] [.list (fR<|g.length+1),.ns []] (et z d6 a0 g) b1<|by exact af 0 C ((J+(bn 2 aj))+4) (.p 1 bo (J+(bn 2 aj))<|.p 1 fW (bo+2) (.p 1 C (fW+2) .z)) (ky _ _ _ _ _) O D L b2
structure dG where
 tails:M I
 heads:M I
 many:N
 word:ag I
 goals:ag (M ah)
 moves:ag bw
variable{g0:dG}
instance:fx dG:=⟨by constructor<;>first|exact kv|exact Classical.choice inferInstance|exact λ_ _ _ _=>True⟩
noncomputable def dG.ls(a:dG)(b c:ag R):ep:=⟨a.tails,a.heads,a.many,a.word,a.goals,a.moves,b,c⟩
noncomputable def cf(b:bx)(c:bE)(a:dG):Tb:=hF b a.tails c.pr a.heads
noncomputable def mi(b:bx)(a:bE)(d:N)(c:dG):ag I:=gg (cf b a c).mv a.P ((cf b a c).hl.map b.f) a.pr ((cf b a c).mv.length*d+1) [a.front,""]
noncomputable def vJ(a:bx)(c:bE)(b:dG)(d:I):M I:=b.tails++ [fV d (Q (dy a (cf a c b).hl (cf a c b).mv d:N)) U]
noncomputable def ia(b:bx)(c:bE)(e:N)(a:dG):dG:=match a.word with
 |none=>a
 |some _=>match mi b c e a with
  |none=>⟨a.tails,(cf b c a).hl,(cf b c a).hl.length,U,Q<|(cf b c a).hl.map b.f,Q (cf b c a).mv⟩
  |some d=>⟨vJ b c a d,(cf b c a).hl,(cf b c a).hl.length,Q d,Q<|(cf b c a).hl.map b.f,Q (cf b c a).mv⟩
structure hM(c:bx)(i:bE)(y:N)(h:dG):Prop where
 h1:h.heads.length<=8
 h2:∀o∈h.heads,o.length<=90000/\dE c o
 h3:h.tails.length<100
 h4:∀v∈h.tails,v.length<=50000/\dE c v
 h5:h.many<(cf c i h).hl.length
 h6:(cf c i h).hl.length<=8
 h7:∀o∈(cf c i h).hl,o.length<100000/\dE c o
 ul:kL (cf c i h).mv i.P ((cf c i h).hl.map c.f) i.S y
 cut:∀j,mi c i y h=Q j->(1<=j.length/\j.length<50000/\∀Y∈j.cps.toList,Y∈i.S)/\(1<=dy c (cf c i h).hl (cf c i h).mv j/\fo c (cf c i h).hl (cf c i h).mv j (dy c (cf c i h).hl (cf c i h).mv j)=ai/\fo c (cf c i h).hl (cf c i h).mv j (dy c (cf c i h).hl (cf c i h).mv j - 1)=X)/\ (et c (cf c i h).hl (cf c i h).mv j).length<=100/\2^(et c (cf c i h).hl (cf c i h).mv j).length<=du 1 (2*j.length - 2)/\∀v∈et c (cf c i h).hl (cf c i h).mv j,0<v/\v<j.length
 hv:tR c h.tails i.pr (cf c i h).hl
 cv:∀j,mi c i y h=Q j->∀x,(x∈et c (cf c i h).hl (cf c i h).mv j\/x=dy c (cf c i h).hl (cf c i h).mv j\/x+1=dy c (cf c i h).hl (cf c i h).mv j)->nD c (cf c i h).hl (cf c i h).mv j x
noncomputable def kY(a:ag (M N)):ag R:=match a with
 |some a=>Q<|.lst (cX a)
 |none=>U
theorem Gx(b:N->ag R)(a:ag (M N)):fG b (kY a):=by
 cases a with
 |none=>exact iW
 |some a=>exact ds<|gS (vD b a)
theorem Tj(b:jH a3 a1)(f:∀g,g<28->a1 g=Q (.loc g))(i:R.ren a1 h=Q L)(j:fG a1 c4)(d:N)(e:bv):
 gy a1 (cE a3 ⟨a4,d6,a,j9,g4,m3,Q h,c4⟩ D d e c) (cE a3 ⟨a4,d6,a,j9,g4,m3,Q L,c4⟩ [] d e []):=by
 have k:R.rend a1 []=Q []:=O
 exact .same O (show G.ren a1 (.ctab _)=Q (.ctab _) from O) (.ns (extra:=D) O (yz b f a k)
  (uZ (c:= .cell (Q h):: .cell (vp m3):: .cell c4:: .cell (Q<|.str a3.want):: .cell (Q<|rK j9):: .ns []:: .ns []:: .ns []:: .ns []:: .dict d e.av:: .list (aX a4)::c)
   (.same O (show(R.ren a1 h).map (λl=>G.cell<|Q l)=Q (.cell<|Q L) by rw [i];rfl)
   (uZ (c:= .ns []:: .ns []:: .ns []:: .ns []:: .dict d e.av:: .list (aX a4)::c) (.same O (pA _)<|.same O (pA _) (.same O (pA _)<|.same O (pA _) (.same O (kZ _ _ _)<|.same O (hT _ _) .nil))) [vp m3,c4,Q (.str a3.want),Q (rK j9)] ⟨Gy a1 _,j,ds O,ds<|Bm a1 _,eG⟩))
   [a3.sv,a3.pv,a3.lv,Q (.lst<|aX a3.pr),Q a3.P.av,Q (.int (dg a3.od:N)),xI g4,U,U,U,U,U,Q (oZ a3.q),Q (.lst<|aX d6),Q (.loc 26)]
   ⟨b.sv,b.pv,b.lv,ds<|gS (jB a1 _),ds<|pI a1 _,ds O,Gw a1 _,iW,iW,iW,iW,iW,ds<|Bj f,ds<|gS (jB a1 _),ds<|f 26 (by decide),eG⟩))
noncomputable def xF(b:N)(c:R)(a:N):ag R:=bif aI (a<28) then Q (.loc a) else bif aI (a=b) then Q c else U
theorem SQ:∀a:M N,R.flats (cX a)=X:=by
 intro b
 induction b with
 |nil=>exact O
 |cons d a c=>exact c
theorem FS(a:mT o c g h=Q V)(b:e0 V):kN u (.Name g A) h o c e0:=be a b
def zn(g:bx)(c:bE)(h:N->dG->Prop)(i:M R)(j:M G):Prop:=∀d:M G->Prop,(∀(a e:N) (f:dG) (k:N) (b:bv) (l:ag (M N)) (m:ah) (n:i=tp a e) (o:a+e=8) (p:cc g b) (q:b.length<=3000*a) (r:h a f),d (cE c (f.ls (kY l)<|bif m then Q (dO c.q) else U) [] k b []))->d j
theorem hZ(a:bz u d4 o c Z):md (bz u d4) o Z .next c:=a
theorem aD7(a:Z .next c):bz u [] o c Z:=a
theorem ae6(a:u.S m7 o c (md (bz u []) o Z)):bz u [m7] o c Z:=a
theorem ab5(a:Z .next c):md (bz u []) o Z .next c:=a
theorem Rn(y:jl a3)(A:d<8)(B:hF z a4 a3.pr d6=f4)
 (o:qE w z a3) (p:nf w z a3.want (a3.q++bC "<lambda>") 16 20) (q:qF w f4.mv a3.P (f4.hl.map z.f) a3.S a3.front (gg f4.mv a3.P (f4.hl.map z.f) a3.pr (f4.mv.length*t+1) [a3.front,""])) (D:f4.mv.Ok a3.S) (E:f4.hl.length=f4.mv.length)
 (K:∀d6 r b,r.Ok a3.S->d6.length=r.length->(∀L∈b.cps.toList,L∈a3.S)->b.length<50000->(∀c∈d6,c.length<100000/\dE z c)->oT w z a3 d6 r b/\qa h3 z a3 d6 r b)
 (P:jG w h3 X) (S:jG w h3 ai) (T:cc z a8) (s:a8.length<600000) (u:d6.length<=8) (v:∀c∈d6,c.length<=90000/\dE z c) (h:a4.length<100) (V:∀b0∈a4,b0.length<=50000/\dE z b0) (Y:a<f4.hl.length) (a0:f4.hl.length<=8) (i:∀c∈f4.hl,c.length<100000/\dE z c)
 (j:∀b,gg f4.mv a3.P (f4.hl.map z.f) a3.pr (f4.mv.length*t+1) [a3.front,""]=Q b->(1<=b.length/\b.length<50000/\∀L∈b.cps.toList,L∈a3.S)/\(1<=dy z f4.hl f4.mv b/\fo z f4.hl f4.mv b (dy z f4.hl f4.mv b)=ai/\fo z f4.hl f4.mv b (dy z f4.hl f4.mv b - 1)=X)/\ (et z f4.hl f4.mv b).length<=100/\2^(et z f4.hl f4.mv b).length<=du 1 (2*b.length - 2)/\∀b1∈et z f4.hl f4.mv b,0<b1/\b1<b.length)
 (a1:tR z a4 a3.pr f4.hl) (k:∀b,gg f4.mv a3.P (f4.hl.map z.f) a3.pr (f4.mv.length*t+1) [a3.front,""]=Q b->∀x,(x∈et z f4.hl f4.mv b\/x=dy z f4.hl f4.mv b\/x+1=dy z f4.hl f4.mv b)->nD z f4.hl f4.mv b x)
 (e:gg f4.mv a3.P (f4.hl.map z.f) a3.pr (f4.mv.length*t+1) [a3.front,""]=U->∀a5 f l,cc z f->f.length<=a8.length+2800->Z .next (cE a3 ⟨a4,f4.hl,f4.hl.length,U,Q<|f4.hl.map z.f,Q f4.mv,c4,f2⟩ [("turn",.int d)] a5 f l))
 (m:∀b,gg f4.mv a3.P (f4.hl.map z.f) a3.pr (f4.mv.length*t+1) [a3.front,""]=Q b->∀a5 f a6 a7 l,cc z f->f.length<=a8.length+2800-> Z .next (cE a3 ⟨a4++ [fV b (Q (dy z f4.hl f4.mv b:N)) U],f4.hl,f4.hl.length,Q b,Q<|f4.hl.map z.f,Q f4.mv,Q<|.loc 29,Q<|dO a3.q⟩ (("turn",.int d)::a6) a5 f (.ns []:: .list (cX a7)::l))):
 (bt w 19).S DC (dL a3.q) (cE a3 ⟨a4,d6,a,Q g,g4,m3,c4,f2⟩ [("turn",.int d)] a2 a8 []) (md (bz (bt w 19) [DD]) (dL a3.q) Z):=by
 revert w h3 z a3 a4 d6 a d t g g4 m3 c4 f2 a2 a8 f4 Z y A B o p q D E K P S T s u v h V Y a0 i j a1 k e m
 apply U18
 generalize P17 _=a4,Q17 _=d6,Q16 _=a,Q15 _=d,Q14 _=t,Q13 _=a2,Q12 _=g4,Q11 _=g,Q10 _=c4,Q9 _=f2,Q8 _=Z,Q7 _=w,Q6 _=h3,Q5 _=m3,Q4 _=a8,Q3 _=z,Q2 _=f4,Q1 _=a3
 intro y A B o p q D E K P S T s u v h V Y a0 i j a1 k e m
 have b2:=zO (show d6.length+16<=24 from jS u 16)<|dx h
 refine Qu (f4:=f4) B o p q T (by exact af 0 (C+1) 800000 (.p 1 (C+1) 600000 .z) (bj _) O s) u (λc n=>⟨aK (v c n).1<|by decide,(v c n).2⟩) (dx h) V Y a0 (λc n=>⟨fh (i c n).1<|by decide,(i c n).2⟩) a1 λb8 b3 b4 b5=> ?_
 refine hZ<|ae6 ?_
 have a9:b3.length<=a8.length+2408:=by exact af 0 C (J+2408) (.p 1 aj (bn 24 100)<|.p 1 C (J+aj+8) .z) (bk _ _ _) O b2 b5
 clear b2 b5 o p q
 revert j e m k
 generalize gg f4.mv a3.P (f4.hl.map z.f) a3.pr (f4.mv.length*t+1) [a3.front,""]=b9
 intro j k e m
 cases b9 with
 |none=>
  have e:=e O
  exact e b8 b3 _ b4<|by exact af 0 C (J+2800) (.p 1 C (J+2408) .z) (aN _ _) O a9
 |some b=>
  refine vq (λc0 c1 b6 c2 c3=> ?_)<|j b O;refine dH (λc5 b7 c6=> ?_)<|c0;refine dH (λc7 c8 c9=> ?_)<|c1
  refine aA (λd0 d1=> ?_)<|K f4.hl f4.mv b D E c6 b7 i
  refine Qv y d0 d1 P S b4 (by exact af 0 (C+1) 700000 (.p 1 (J+1) 600000<|.p 1 C (J+2408) .z) (aN _ _) O s a9) c5 b7 A h c7 c8 c9 b6 c2 c3 (k b O) λd2 d3 a6 l a7 d4 d5=> ?_
  exact ab5<|m b O d2 d3 a6 a7 l d4 (by exact af 0 C (J+2800) (.p 1 aj (J+2408)<|.p 2 bo 100 (.p 1 C ((aj+(bn 2 bo))+4) .z)) (di _ _ _ _) O a9 b6 d5)
theorem jl.tv(c:jl a3)(b:ah)(d:∀a,a<28->a1 a=Q (.loc a)):fG a1 (bif b then Q (dO a3.q) else U):=by
 cases b with
 |true=>exact ds<|c.t a1 d
 |false=>exact iW
theorem FY{b:N->dG->Prop}(e:jl a3)(f:a+(d+1)=8)(g:cc z a8)(h:a8.length<=3000*(a+1))(i:b (a+1) g0):
 hj 28 (zn z a3 b<|tp (a+1) d) (cE a3 (g0.ls (kY m0)<|bif n then Q (dO a3.q) else U) [("turn",.int a)] t a8 c):=
 ⟨cE a3 (g0.ls (kY m0)<|bif n then Q (dO a3.q) else U) [] t a8 [],
  rF (a:=28) O (GD (e.b _<|uC (by decide)) (uC<|by decide) (g0.ls (kY m0)<|bif n then Q (dO a3.q) else U) (Gx _ m0) (e.tv n<|uC (by decide)) (D:=[]) (d8:=[("turn",.int a)]) O t a8 .nil),
  λ_ j=>j (a+1) d g0 t a8 m0 n O (by rw [<-f,fg];rfl) g h i⟩
theorem PW{i:N->dG->Prop}(j:jl a3)(o:∀k,bM.get? k=U->(k==cR)=ai)(p:a+(d+1)=8)(q:cc z a8)(r:a8.length<=3000*(a+1))(s:i (a+1) g0):
 hj 28 (zn z a3 i<|tp (a+1) d) (cE a3 (g0.ls (Q<|.loc 29)<|Q (dO a3.q)) D t a8 (.ns []:: .list (cX m)::c)):=by
 have f:∀e,e<28->xF 29 (.lst<|cX m) e=Q (.loc e):=λe b=>by unfold xF;rw [ck b];rfl
 refine⟨cE a3 (g0.ls (kY<|Q m)<|Q (dO a3.q)) [] t a8 [],?_,λ_ l=>l (a+1) d g0 t a8 (Q m) X O (by rw [<-p,fg];rfl) q r s⟩
 refine KS (a:=28) o (xF 29<|.lst (cX m)) (λe l b=> ?_) O<|Tj (j.b _ f) f (h:= .loc 29) (L:= .lst<|cX m) O (ds<|j.t _ f) t a8
 unfold xF at b
 by_cases g:e<28
 .rw [ck g] at b;(revert b;refine aL λh=> ?_;subst h);exact .inl ⟨g,O⟩
 .rw [cN g] at b
  by_cases n:e=29
  .subst n;(revert b;refine aL λh=> ?_;subst h);exact .inr<|.inr ⟨cX m,nj 28,O,SQ m,O⟩
  .rw [cN n] at b;exact aU b
theorem ai3(a:(bt w 19).S DC o c (md (bz (bt w 19) [DD]) o Z)):bz (bt w 19) DE o c Z:=a
theorem QT(n:N->dG->Prop)(L:∀g b,g<8->n g b->n (g+1) (ia z a3 a b)/\(b.word≠U->hM z a3 a b))
 (P:∀a6,bM.get? a6=U->(a6==cR)=ai) (S:qE w z a3) (T:nf w z a3.want (a3.q++bC "<lambda>") 16 20)
 (V:∀h k,kL h a3.P k a3.S a->qF w h a3.P k a3.S a3.front (gg h a3.P k a3.pr (h.length*a+1) [a3.front,""]))
 (Y:∀f h l,h.Ok a3.S->f.length=h.length->(∀b4∈l.cps.toList,b4∈a3.S)->l.length<50000->(∀d∈f,d.length<100000/\dE z d)->oT w z a3 f h l/\qa h3 z a3 f h l)
 (Z:jG w h3 X) (a0:jG w h3 ai) (r:jl a3) (o:dG) (v:n 0 o) (c:N):
 bz (bt w 20) (((bu 74).drop 7).take 1) (dL a3.q) (cE a3 (o.ls U U) [] c [] []) λb5 A=>b5= .next/\∃b c m s t,n 8 b/\cc z m/\m.length<=24000/\A=cE a3 (b.ls (kY s)<|bif t then Q (dO a3.q) else U) [] c m []:=by
 revert w h3 z a3 a n L P S T V Y Z a0 r o v c
 apply U6
 generalize P5 _=a,Q5 _=w,Q4 _=h3,Q3 _=z,Q2 _=a3,Q1 _=n
 intro L P S T V Y Z a0 r o v c
 revert v
 revert o c
 apply U2
 generalize P1 _=o,Q1 _=c
 intro v
 refine bc ⟨by decide,by decide⟩ ?_
 refine bc (by decide) ?_
 refine⟨zn z a3 n,⟨_,pL _,λ_ b6=>b6 0 8 o c [] U ai O O ⟨(by intro d0;first|contradiction|(intros;contradiction)),oD⟩ (cy _) v⟩,?_,?_,?_⟩
 .intro b7 A d
  apply d;clear d;intro g u b c m s t x i y p B
  exact⟨cW,O⟩
 .intro d1 b7 A d
  apply d;clear d;intro g u b c m s t x i y p B
  cases u with
  |zero=>exact hq x
  |succ u=>
   (revert x;refine gW λb8 b9=> ?_;subst b8;subst b9)
   obtain⟨j,c0⟩:=L g b (by exact af 0 (C+1) 8 (.q 1 (C+(J+1)) 8 .z) (aN _ _) O i) B
   obtain⟨q,f,D,a7,k,E⟩:=b
   refine FS (V:=cE a3 (dG.ls ⟨q,f,D,a7,k,E⟩ (kY s)<|bif t then Q (dO a3.q) else U) [("turn",.int g)] c m []) O ?_
   cases a7 with
   |none=>exact FY (g0:=⟨q,f,D,U,k,E⟩) (c:=[]) r i y (by exact af 0 C (bn 3000<|J+1) (.p 1 C (bn 3000 J) .z) (aN _ _) O p) j
   |some a8=>
    have a1:=c0<|by simp
    have a2:=a1.cut
    have a4:=a1.cv
    obtain⟨c1,c2,c3,c4,a9,b0,b1,K,_,b2,_⟩:=a1
    have b3:hF z q a3.pr f=cf z a3 ⟨q,f,D,Q a8,k,E⟩:=O
    unfold mi at a2 a4
    unfold ia mi vJ at j
    generalize cf z a3 ⟨q,f,D,Q a8,k,E⟩=e at b3 a9 b0 b1 K a2 a4 b2 j
    refine ai3 ?_
    refine Rn r (t:=a) (f4:=e) (by exact af 0 (C+1) 8 (.q 1 (C+(J+1)) 8 .z) (aN _ _) O i) b3 S T (V _ _ K) K.mok (by have:=K.gl;rw [aW] at this;exact this) Y Z a0 y (by exact af 0 (C+1) 600000 (.p 1 C (bn 3000 J)<|.q 3000 (J+(aj+1)) 8 .z) (bk _ _ _) O p i) c1 c2 c3 c4 a9 b0 b1 a2 b2 a4 (λa5 d2 d3 c5 c6 c7=> ?_) λl a5 d4 d5 d6 d7 c5 c8 c9=> ?_
    .dsimp only at j
     rw [a5] at j
     exact FY (g0:=⟨q,e.hl,e.hl.length,U,Q<|e.hl.map z.f,Q e.mv⟩) r i c6 (by exact af 0 C (bn 3000<|J+1) (.p 1 aj (bn 3000 J)<|.p 1 C (aj+2800) .z) (bk _ _ _) O p c7) j
    .dsimp only at j
     rw [a5] at j
     exact PW (g0:=⟨q++ [fV l (Q (dy z e.hl e.mv l:N)) U],e.hl,e.hl.length,Q l,Q<|e.hl.map z.f,Q e.mv⟩) r P i c8 (by exact af 0 C (bn 3000<|J+1) (.p 1 aj (bn 3000 J)<|.p 1 C (aj+2800) .z) (bk _ _ _) O p c9) j
 .intro A d
  apply d;clear d;intro g u b c m s t x i y p B
  cases u with
  |succ u=>cases x
  |zero=>
   have:g=8:=i
   subst this
   exact⟨O,b,c,m,s,t,B,y,p,O⟩
theorem VT{b:I×ah}(e:cc z a8)(c:b∈a8):a8.av.lookup b.1=Q (.bool<|z.f b.1):=by
 cases a:a8.av.lookup b.1 with
 |some j=>rw [IH e a]
 |none=>
  exfalso;unfold bv.av at a
  induction a8 with
  |nil=>cases c
  |cons f k g=>
   rw [da,ee] at a
   cases d:b.1==f.1 with
   |true=>rw [d] at a;exact rr a
   |false=>
    rw [d] at a;obtain rfl|c:=bO.mp c
    .rw [jx] at d;exact gX d
    .exact g ⟨λh i=>e.ok h<|.tail _ i,(lx.mp e.nod).2⟩ c a
theorem QU(e:cc z a8)(p:a8.length<1000000)(j:z.S=a3.S)(k:qD w a0 a3.S)(h:a0.Ok a3.S)(i:c3.length=a0.length)
 (l:∀m,dE z m->c3.getD (fZ a0 m) ai=z.f m) (c:aY->M G->Prop) (f:c .next (cE a3 ⟨a4,d6,a,U,Q c3,Q a0,c4,f2⟩ [] d a8 [.ns []])):
 bz (bt w 20) (((bu 74).drop 8).take 1) (dL a3.q) (cE a3 ⟨a4,d6,a,U,Q c3,Q a0,c4,f2⟩ [] d a8 []) c:=by
 revert w z a3 a4 d6 a c3 a0 c4 f2 d a8 e p j k h i l c f
 apply U12
 generalize P11 _=c3,Q11 _=a4,Q10 _=d6,Q9 _=a,Q8 _=d,Q7 _=c4,Q6 _=f2,Q5 _=w,Q4 _=a0,Q3 _=a8,Q2 _=z,Q1 _=a3
 intro e p j k h i l c f
 revert f
 revert c
 apply U1
 generalize Z1 _=c
 intro f
 refine kW (λ_=>U) (λb g=>by(revert g;refine aL λr=> ?_;subst r);rfl) O (by refine(?_:(a8.av.map _).length<_);rw [aW];unfold bv.av;rw [aW];exact aK ‹_› (bA O)) ?_ (λ_ _ _ s=>(by exact aU s)) ?_
 .intro A t B u
  refine ac (λD v n=> ?_)<|cT.mp t;obtain rfl:=n
  refine ac (λb g n=> ?_)<|cT.mp v;obtain rfl:=n
  have q:∀o∈b.1.cps.toList,o∈a3.S:=λo x=>j▸(e.ok b g).2.1.1 o x
  have y:=yh h b.1 q
  refine be (VT e g) ?_
  refine k _ _ _ q ?_
  refine fL O (L:= .bool<|c3.getD (fZ a0 b.1) ai) (hn (by rw [i];exact y) ai) (by unfold hA;rw [aW,i];exact rZ h.len) ?_
  rw [l _ (e.ok b g).2.1.1]
  refine Gl (by cases z.f b.1<;>rfl) ?_
  exact u _<|cG (by rfl) (by rfl) (zc a3 ⟨a4,d6,a,U,Q c3,Q a0,c4,f2⟩ [] d a8<|.ns (v:=[]) (extra:=[_]) O .nil)
 rw [MT.mpr (λ_ _=>O)]
 refine bc ⟨O,O⟩ ?_
 rw [nr _ O]
 exact f
noncomputable def dP:N->bv->bZ
 |_,[]=> []
 |a,b::c=>(b.1.length,a)::dP (a+1) c
noncomputable def BH:R->ag R
 | .tup a=>(match a with
  |[b,c]=>(match b,c with
   | .int d,.str e=>Q<|.tup [.int e.length,.int d]
   |_,_=>U)
  |_=>U)
 |_=>U
theorem ag5:∀(e:bv) (a:N),((e.map λc=>R.str c.1).mapIdx λb d=>R.tup [.int ((a+b:N):H),d]).filterMap BH=bB (dP a e):=by
 intro f
 induction f with
 |nil=>exact λa=>O
 |cons c e g=>
  exact λa=>by
   have h:=g<|a+1;rw [da,zC,ii];have i:((e.map λc=>R.str c.1).mapIdx λb d=>R.tup [.int ((a+(b+1):N):H),d])=((e.map λc=>R.str c.1).mapIdx λb d=>R.tup [.int ((a+1+b:N):H),d]):=by congr 1;funext b d;rw [lz,fS 1 b]
   rw [i,h];rfl
theorem IG(b:bv):(b.av.map λa=>R.str a.1)=b.map λa=>R.str a.1:=by unfold bv.av;rw [jq];rfl
theorem Su(a:bv):(dW<|a.av.map λb=>R.str b.1).filterMap BH=bB (dP 0 a):=by rw [<-ag5,IG];unfold dW;congr 2;funext c d;rw [fw]
theorem GV(c:h∈dW (a8.av.map λa=>R.str a.1)):∃(b:N) (a:I×ah),b<a8.length/\a∈a8/\h= .tup [.int (b:H),.str a.1]:=by
 rw [IG] at c;unfold dW at c;obtain⟨b,d,e⟩:=wh.mp c
 rw [rU,aW] at d;rw [zz,ua] at e;exact⟨b,_,d,mu d,e.symm⟩
structure iK where
 shelf:ag R:=U
 kinds:ag R:=U
 tape:ag R:=U
 read:ag R:=U
 parts:ag R:=U
variable{k8:iK}
instance:fx iK:=⟨{}⟩
noncomputable def Gq(a:bE)(b:ep)(c:iK):ev:={script:=a.sv,piece:=a.pv,lead:=a.lv,pair:=Q<|.lst (aX a.pr),want:=Q<|.str a.want,plan:=Q a.P.av,stride:=Q<|.int (dg a.od:N),known:=Q<|.loc 26,ask:=Q<|oZ a.q,heads:=Q<|.lst (aX b.heads),word:=Q<|rK b.word,goals:=xI b.goals,moves:=vp b.moves,marks:=b.marks,told:=b.told,shelf:=c.shelf,kinds:=c.kinds,tape:=c.tape,read:=c.read,parts:=c.parts}
noncomputable def lY(a:bE)(b:ep)(c:iK)(d:M (I×R))(e:N)(f:bv)(g:M G):M G:= eX a.q (("pick",a.pk)::("order",.int a.od)::("places",a.pl)::("front",.str a.front)::("tails",.loc 27)::("many",.int b.many)::d) (Gq a b c) (.ns []:: .ns []:: .ns []:: .ns []:: .dict e f.av:: .list (aX b.tails)::g)
theorem DN(a:bE)(b:ep)(d:iK)(e:M (I×R))(f:N)(g:bv)(h:el c V):el (lY a b d e f g c) (lY a b d e f g V):= tI a.q _ (Gq a b d)<|.same O (.same O<|.same O (.same O<|.same O (.same O h)))
theorem QV(h:cc z a8)(o:a8.length<1000000)(g:aY->M G->Prop)(i:g .next (lY a3 j2 {shelf:=Q<|.loc 29} [("sizes",.lst (bB<|dP 0 a8))] a a8 [.ns [],.list [],.ns []])):
 bz (bt w 20) (((bu 74).drop 9).take 1) (dL a3.q) (cE a3 j2 [] a a8 [.ns []]) g:=by
 refine kW BH (λc b=>by(revert b;refine aL λd=> ?_;subst d);rfl) O (by refine(?_:(dW<|a8.av.map _).length<_);unfold dW bv.av;rw [rU,aW,aW];exact aK ‹_› (bA O)) ?_ ?_ ?_
 .intro j e p k
  refine dd (λl c m b f=> ?_)<|GV e;obtain rfl:=f
  have q:=(h.ok c b).2.2
  refine bc (by exact aK ‹_› (bA O)) ?_
  exact k _<|cG (by rfl) (by rfl) (zc a3 j2 [] a a8<|.same O (.same O<|.ns (v:=[]) (extra:=[_,_]) O .nil))
 .intro j e r n
  refine dd (λl c m b f=> ?_)<|GV e;obtain rfl:=f
  (revert n;refine aL λd=> ?_;subst d);rfl
 refine(?_:eQ _ _ _)
 rw [Su]
 exact i
noncomputable def GP:aC->aC
 | .ListComp a _ _ _=>a
 |a=>a
noncomputable def Ck:aC->aC
 | .Call _ _ a _=>(match a with
  |b::_=>b.value
  |[]=> .Constant .none 0 ⟨0,0,0,0⟩)
 |c=>c
noncomputable def va(a:I):R:=yb (Ck<|HU (GP<|nG (bu 74)[10]?)) (a++bC "<lambda>") []
noncomputable def vb(a:I):R:=yb (Ck<|HV (GP<|nG (bu 74)[10]?)) (a++bC "<lambda>") []
noncomputable def rp(a:bZ)(b:N×N):bZ:=bif b.2%2 !=0 then a.insertIdx (cV (gV a b.1) 0 a.length) b else a.insertIdx (cV (hD a b.1) 0 a.length) b
noncomputable def km(a:bZ)(b:bZ):bZ:=b.foldl rp a
def pX(h i:bY)(e:ah):Prop:=∀(f:R),hx i f->∀(c:N) (a:bZ) (b:N×N) (d:M G) (g:aQ),d[c]? =Q (.list<|bB a)->a.length<1000000-> g .none (d.set c<|.list (bB<|bif e then a.insertIdx (cV (gV a b.1) 0 a.length) b else a.insertIdx (cV (hD a b.1) 0 a.length) b))->h (.raw<|bif e then bS 3 else bS 1) [.loc c,fP b] [("key",f)] d g
def DX(f:bE)(g:ep)(b:bZ)(h:N)(i:bv)(j:bZ)(k:M R)(l:M R)(m:M G):Prop:=∀d:M R->M G->Prop,(∀(a c:bZ) (e:N) (n:k=bB a) (o:e+a.length=b.length) (p:km c a=j) (q:c.length+a.length<=b.length),d (cP e .none) (lY f g {shelf:=Q<|.loc 29} [("sizes",.lst (bB b))] h i [.ns [],.list (bB c),.ns [],.ns []]))->d l m
theorem QW(o:pX w h3 X)(p:pX w h3 ai)(q:hx h3 (va a3.q))(r:hx h3 (vb a3.q))(l:f3.length<900000)(g:aY->M G->Prop)
 (h:g .next (lY a3 j2 {shelf:=Q<|.loc 29} [("sizes",.lst (bB f3)),("given",.lst (cP f3.length .none))] a a8 [.ns [],.list (bB<|km [] f3),.ns [],.ns []])):
 bz (bt w 20) (((bu 74).drop 10).take 1) (dL a3.q) (lY a3 j2 {shelf:=Q<|.loc 29} [("sizes",.lst (bB f3))] a a8 [.ns [],.list [],.ns []]) g:=by
 revert w h3 a3 j2 a a8 f3 o p q r l g h
 apply U7
 generalize P6 _=a,Q6 _=w,Q5 _=h3,Q4 _=a8,Q3 _=f3,Q2 _=a3,Q1 _=j2
 intro o p q r l g h
 revert h
 revert g
 apply U1
 generalize Z1 _=g
 intro h
 have u:0+f3.length=f3.length:=fw _
 refine⟨DX a3 j2 f3 a a8<|km [] f3,λ_ b=>b f3 [] 0 O u O<|dM u,?_,?_,?_⟩
 .intro B v x d
  apply d;clear d;intro e c i j f m n
  exact⟨cW,O,O⟩
 .intro S B v x d
  apply d;clear d;intro e c i j f m n
  cases e with
  |nil=>exact hq j
  |cons b e=>
   (revert j;refine gW λD E=> ?_;subst D;subst E)
   have K:((b.2:H).fmod 2 !=0)=(b.2%2 !=0):=by rw [show(b.2:H).fmod 2=((b.2%2:N):H) from kh b.2 2];cases b.2%2<;>rfl
   have y:(cP i R.none).length<1048576:=by rw [rV];exact cd (aK (dS _ _)<|dM f)<|fh l (by decide)
   have z:c.length<1000000:=cd (aK (dS _ _) n)<|fh l (by decide)
   have A:∀k,rp c b=k->k.length=c.length+1->hj 32 (DX a3 j2 f3 a a8 (km [] f3) (bB e)<|cP i .none++ [.none]) (lY a3 j2 {shelf:=Q<|.loc 29} [("sizes",.lst (bB f3))] a a8 [.ns [],.list (bB k),.ns [],.ns [("size",fP b)]]):=λk L P=>by refine⟨_,cG (by rfl) (by rfl)<|DN a3 j2 {shelf:=Q<|.loc 29} [("sizes",.lst (bB f3))] a a8 (.same O<|.same O (.same O<|.ns (v:=[]) (extra:=[_]) O .nil)),?_⟩;rw [<-Ex];exact λ_ b=>b e k (i+1) O (by rw [fg];exact f) (by rw [<-m,<-L];rfl)<|by rw [P,fg];exact n
   conv=>whnf
   rw [K]
   refine fc (λs=> ?_) λs=> ?_
   .have t:cV (gV c b.1) 0 c.length<=c.length:=kP _ _ _ _<|cy _
    refine be (eh O<|eh O (tx _)) ?_
    refine o (va a3.q) q 29 c b _ _ O z ?_
    exact bc y<|A _ (by unfold rp;rw [s]) (by refine(?_:(c.insertIdx _ b).length=_);rw [Ng,bK t])
   .have t:cV (hD c b.1) 0 c.length<=c.length:=kP _ _ _ _<|cy _
    refine be (eh O<|eh O (tx _)) ?_
    refine p (vb a3.q) r 29 c b _ _ O z ?_
    exact bc y<|A _ (by unfold rp;rw [s]) (by refine(?_:(c.insertIdx _ b).length=_);rw [Ng,bK t])
 .intro v x d
  apply d;clear d;intro e c i j f m n
  cases e with
  |cons b e=>exact jc j
  |nil=>
   have f:i=f3.length:=f
   rw [<-f,<-show km c []=_ from m] at h
   exact h
noncomputable abbrev ga:I:=bC "lo must be non-negative"
def AJ(f:bY):Prop:=∀(b:N),b∈[4,2,3,1]->∀(c:N) (g:bZ) (d:H) (a:M G) (e:aQ),d<0->(∃h,a[1]? =Q (.ns h))->a[c]? =Q (.list<|bB g)->e (.str ga) a->f (.raw<|bS 73) [.raw (bS b),.loc c,.int d] [] a e
noncomputable def CF(b:bE)(c:ep)(a:bZ)(d:N)(e:bv)(f:bZ)(g:M G):M G:=lY b c {shelf:=Q<|.loc 29} [("sizes",.lst (bB a)),("given",.lst (cP a.length .none))] d e (.ns []:: .list (bB f)::g)
def Mv(e:bE)(f:ep)(g:bZ)(h:N)(i:bv)(j:bZ)(k:M R)(l:M R)(m:M G):Prop:=∀c:M R->M G->Prop,(∀(a:M N) (d:N) (n:k=a.map (λb=> .raw<|bS b)) (o:∀b∈a,b∈[4,2,3,1]) (p:d+2*a.length=8),c (cP d<|.str ga) (CF e f g h i j [.ns [],.ns [],.ns []]))->c l m
def Mw(d:bE)(e:ep)(f:bZ)(g:N)(h:bv)(i:bZ)(j k:N)(l:M R)(m:M R)(n:M G):Prop:=∀b:M R->M G->Prop,(∀(a:M H) (c:N) (p:l=eB a) (q:∀o∈a,o<0) (r:c+a.length=k),b (cP c<|.str ga) (CF d e f g h i [.ns [],.ns [],.ns [("search",.raw (bS j))]]))->b m n
theorem QX{d:bZ}(u:AJ w)(h:aY->M G->Prop)
 (i:h .next (lY a3 j2 {shelf:=Q<|.loc 29} [("sizes",.lst (bB f3)),("given",.lst (cP f3.length .none)),("refusals",.lst (cP 8<|.str ga))] a a8 [.ns [],.list (bB d),.ns [],.ns [],.ns []])):
 bz (bt w 20) (((bu 74).drop 11).take 1) (dL a3.q) (CF a3 j2 f3 a a8 d [.ns [],.ns []]) h:=by
 revert w a3 j2 a a8 f3 d u h i
 apply U7
 generalize P6 _=a,Q6 _=w,Q5 _=a8,Q4 _=f3,Q3 _=a3,Q2 _=j2,Q1 _=d
 intro u h i
 revert i
 revert h
 apply U1
 generalize Z1 _=h
 intro i
 refine⟨Mv a3 j2 f3 a a8 d,λ_ c=>c [4,2,3,1] 0 O (λ_ b=>b) O,?_,?_,?_⟩
 .intro v n j b
  apply b;clear b;intro e f k o p
  exact⟨cW,O,O⟩
 .intro D v n j b
  apply b;clear b;intro e f k o p
  cases e with
  |nil=>exact hq k
  |cons q e=>
   (revert k;refine gW λx y=> ?_;subst x;subst y)
   have A:f+2+2*e.length=8:=by rw [<-p,fg];rfl
   refine⟨Mw a3 j2 f3 a a8 d q<|f+2,λ_ c=>c [-1,-1 - (dg a3.od:H)] f O (λr E=> ?_) O,?_,?_,?_⟩
   .obtain s|s:=bO.mp E
    .subst s;decide
    .rw [bU] at s;subst s;exact aw 0 (((eS<|-1)-F)+1) 0 (.p 1 0 F .z) (aG _) O<|cj _
   .intro v n j b
    apply b;clear b;intro g f l t m
    exact⟨cW,O,O⟩
   .intro D v n j b
    apply b;clear b;intro g B l t m
    cases g with
    |nil=>exact hq l
    |cons r g=>
     (revert l;refine gW λx y=> ?_;subst x;subst y)
     refine u q (o q<|.head _) 29 d r _ _ (t r<|.head _) ⟨_,O⟩ O ?_
     refine bc (by rw [rV];exact cd (aK (dS _ _)<|aK (dM m) (aK (dS _ _)<|dM A))<|by decide) ?_
     refine⟨_,cG (by rfl) (by rfl)<|DN a3 j2 {shelf:=Q<|.loc 29} _ a a8 (.same O<|.same O (.same O<|.same O (.ns (v:=[("search",.raw (bS q))]) (extra:=[_]) O .nil))),?_⟩
     rw [<-Ex]
     exact λ_ c=>c g (B+1) O (λc z=>t c<|.tail _ z)<|by rw [<-m,fg];rfl
   .intro K j b
    apply b;clear b;intro g B l t m
    cases g with
    |cons r g=>exact jc l
    |nil=>
     subst m
     exact⟨_,cG (by rfl) (by rfl)<|DN a3 j2 {shelf:=Q<|.loc 29} _ a a8 (.same O<|.same O (.same O<|.same O (.ns (v:=[]) (extra:=[_]) O .nil))),λ_ c=>c e (f+2) O (λc z=>o c<|.tail _ z) A⟩
 .intro n j b
  apply b;clear b;intro e f k o p
  cases e with
  |cons c L=>exact jc k
  |nil=>
   subst p
   exact i
theorem az5(a:R)(c:mx)(d:R.data a=Q c):∀b:N,R.datas (cP b a)=Q (cP b c):=by
 intro e
 induction e with
 |zero=>exact O
 |succ b f=>exact by refine(?_:bL (R.data a) (λg=>(R.datas<|cP b a).map (g:: ·))=_);rw [d,f];rfl
theorem aD5(a:R):∀b:N,(cP b [a]).flatten=cP b a:=by
 intro c
 induction c with
 |zero=>exact O
 |succ b d=>exact bq (a:: ·)<|d
noncomputable def TL:ag cD->aC
 |some (.If a _ _ _)=>a
 |_=> .Constant .none 0 ⟨0,0,0,0⟩
noncomputable def JK:aC->M aC
 | .BoolOp _ a _=>a
 | .Compare _ _ a _=>a
 |_=> []
noncomputable def oc(a:I):R:=yb (Ck<|(JK<|(JK<|TL (bu 74)[12]?).getD 2 (.Constant .none 0 ⟨0,0,0,0⟩)).getD 0 (.Constant .none 0 ⟨0,0,0,0⟩)) (a++bC "<lambda>") []
theorem az6{a:mx}{b:mx}(d:a=b)(c:ip a=X)(e:d7 X):(ip a=X/\ip b=X)/\d7 (my a b):=by subst d;rw [nr _ (lF c)];exact⟨⟨c,c⟩,e⟩
theorem RU(b:c[a]? =Q (.list<|bB f3)):uM c (.loc a)=Q (oM<|f3.map ja):=by refine(?_:bL c[a]? _=_);rw [b];refine(?_:(R.datas<|bB f3).map oM=_);rw [Bs];rfl
theorem QD{d:bZ}(e:f3.length<900000)(k:d.length<900000)(h:∀(l:M G) (b:aQ),b (.lst<|bB d) l->w (.blt .sorted) [.lst (bB f3)] [("key",oc a3.q)] l b)(b:aY->M G->Prop)
 (f:b .next (lY a3 j2 {shelf:=Q<|.loc 29} [("sizes",.lst (bB f3)),("given",.lst (cP f3.length .none)),("refusals",.lst (cP 8<|.str ga))] a a8 (.ns []:: .list (bB d)::c))):
 bz (bt w 20) (((bu 74).drop 12).take 1) (dL a3.q) (lY a3 j2 {shelf:=Q<|.loc 29} [("sizes",.lst (bB f3)),("given",.lst (cP f3.length .none)),("refusals",.lst (cP 8<|.str ga))] a a8 (.ns []:: .list (bB d)::c)) b:=by
 revert w a3 j2 a a8 f3 d c e k h b f
 apply U8
 generalize P7 _=a,Q7 _=c,Q6 _=w,Q5 _=a8,Q4 _=f3,Q3 _=a3,Q2 _=j2,Q1 _=d
 intro e k h b f
 revert f
 revert b
 apply U1
 generalize Z1 _=b
 intro f
 have g:(bB f3).length=f3.length:=aW ..
 refine bc (by rw [g];exact af 0 (C+1) 4611686018427387904 (.p 1 (C+1) 900000 .z) (bj _) O e) ?_
 refine bc ⟨by exact aw 0 0 F (.p 1 0 F .z) (aG _) O<|cj _,by rw [g];exact aw 0 (F+1) 1048577 (.p 1 (F+1) 900000 .z) (aG _) O<|ak e,by rw [g];refine(?_:1*_<=_);exact ao0 _ e⟩ ?_
 rw [Kj (d:=f3.length) (by rw [g];rfl)]
 refine be (jy<|xo _) ?_
 refine be (jy<|xo _) ?_
 refine bc ⟨tw _,tw _⟩ ?_
 rw [nr _ (lF<|tw _)]
 refine bc ⟨by decide,by decide,by decide⟩ ?_
 have i:∀j:ah,j=ip (.list<|cP 8 (.str ga))->j=X:=λj n=>by subst n;decide+kernel
 refine bc ⟨i _ O,i _ O⟩ ?_
 generalize m:my _ _=o
 have p:o=X:=by rw [<-m];exact nr (.list<|cP 8 (.str ga))<|lF (i _ O)
 subst p
 clear m
 refine be (eh O<|eh O (tx _)) ?_
 refine h _ _ ?_
 refine be (RU O) ?_
 refine be (jy<|Bs d) ?_
 refine bc ⟨yL _,yL _⟩ ?_
 rw [nr _ (lF<|yL _)]
 exact f
theorem WF(b:h1 0)(c:h1 1)(d:h1 2)(e:h1 3)(a:N)(f:a<4):h1 a:=by
 cases a with
 |zero=>exact b
 |succ a=>cases a with
  |zero=>exact c
  |succ a=>cases a with
   |zero=>exact d
   |succ a=>cases a with
    |zero=>exact e
    |succ a=>exact bD f<|cq.mpr (EE _ _)
theorem Cv{l:M R->(M R->M G->Prop)->M G->Prop}(d:R->M R)(m:N)(n:gk e1 c)(p:kj c o.ns=X)(r:d5.length+(q.flatMap d).length<=m)
 (s:∀e∈q,∀(a:M R) (t:M R->M G->Prop),a.length+(d e).length<=m->(∀v,gD c.length v c->t (a++d e) v)->oi u f7 e o c (l a t) (t a)) (w:h6 (d5++q.flatMap d) c):
 ∃i:M R->M R->M G->Prop,i q d5 c/\
 (∀f a b,i f a b->gk e1 b/\b.length=c.length/\kj b o.ns=X)/\
 (∀e f a b,i (e::f) a b->oi u f7 e o b (l a λx=>hj c.length<|i f x) (hj c.length<|i f a))/\
 (∀a b,i [] a b->h6 a b):=by
 revert u f7 o l q d5 e1 c h6 d m n p r s w
 apply U11
 generalize P10 _=f7,Q10 _=q,Q9 _=d5,Q8 _=h6,Q7 _=c,Q6 _=o,Q5 _=e1,Q4 _=u,Q3 _=l,Q2 _=d,Q1 _=m
 intro n p r s w
 refine⟨λf a b=>∃g,q=g++f/\a=d5++g.flatMap d/\b=c,⟨[],O,(cZ d5).symm,O⟩,?_,?_,?_⟩
 .intro f a b y;(revert y;refine dt λg h j k=> ?_;obtain rfl:=k);exact⟨n,O,p⟩
 .intro e f a b z;(revert z;refine dt λg h j k=> ?_;obtain rfl:=k)
  have A:e∈q:=by rw [h];simp
  refine s e A a (λx=>hj b.length λB=>∃g,q=g++f/\x=d5++g.flatMap d/\B=b) ?_ λv D=>⟨b,D,g++ [e],by simp [h],by simp [j],O⟩
  have E:(q.flatMap d).length=(g.flatMap d).length+((d e).length+(f.flatMap d).length):=by rw [h,Ek,eT,bN,bN]
  rw [j,bN];exact af 0 (C+J+aj) bo (.p 1 (C+fW) bo<|.f 1 fW (J+(aj+AN)) .z) (MK _ _ _ _ _ _) O r E
 .intro a b K;(revert K;refine dt λg h j k=> ?_;obtain rfl:=k)
  rw [cZ] at h
  subst h;rw [j];exact w
theorem py(g:R->ag R)(a:M R)(i:q.filterMap g=a)(j:gk e1 c)(k:kj c o.ns=X)(l:q.length<1048576)
 (m:∀d∈q,FH u f7 o v c g d) (n:∀d∈q,∀h,g d=Q h->h.flat=X) (p:h6 a c):
 ∃e:M R->M R->M G->Prop,e q [] c/\
 (∀f a b,e f a b->gk e1 b/\b.length=c.length/\kj b o.ns=X)/\
 (∀d f a b,e (d::f) a b->oi u f7 d o b (uQ u v o a λr=>hj c.length<|e f r) (hj c.length<|e f a))/\
 (∀a b,e [] a b->h6 a b):=kW g j k l m n<|i▸p
theorem lV{j:M R->(M R->M G->Prop)->M G->Prop}(g:R->M R)(a:M R)(l:q.flatMap g=a)(m:gk e1 c)(n:kj c o.ns=X)
 (p:∀d∈q,∀(h:M R) (i:M R->M G->Prop),h.length+(g d).length<=d5.length+a.length->(∀k,gD c.length k c->i (h++g d) k)->oi u f7 d o c (j h i) (i h)) (r:h6 (d5++a) c):
 ∃e:M R->M R->M G->Prop,e q d5 c/\
 (∀f a b,e f a b->gk e1 b/\b.length=c.length/\kj b o.ns=X)/\
 (∀d f a b,e (d::f) a b->oi u f7 d o b (j a λs=>hj c.length<|e f s) (hj c.length<|e f a))/\
 (∀a b,e [] a b->h6 a b):=by
 subst l
 exact Cv g _ m n (ba _) p r
structure cL where
 q:I
 sv:ag R
 pv:ag R
 lv:ag R
 mkk:ag R
 tv:ag R
 pk:R
 p0:N
 p1:N
 od:N
 front:I
 want:I
 P:ca
 s0:N
 s1:N
 heads:R
 word:R
 m:bw
 gs:M ah
 sz:R
 gv:R
 rf:R
 o1:G
 o2:G
 o3:G
variable{c9:cL}
instance:fx cL:=⟨by constructor<;>first|exact kv|exact zj BS|exact λ_ _ _ _=>True⟩
noncomputable def uH(a:cL)(b:iK):ev:={script:=a.sv,piece:=a.pv,lead:=a.lv,pair:=Q<|.lst [.str (au a.s0),.str (au a.s1)],want:=Q<|.str a.want,plan:=Q a.P.av,stride:=Q<|.int (dg a.od:N),known:=Q<|.loc 26,ask:=Q<|oZ a.q,heads:=Q a.heads,word:=Q a.word,goals:=Q<|.lst (hA a.gs),moves:=Q a.m.av,marks:=a.mkk,told:=a.tv,shelf:=b.shelf,kinds:=b.kinds,tape:=b.tape,read:=b.read,parts:=b.parts}
noncomputable def eF(a:cL)(b:iK)(c:M (I×R))(d:M G):M G:= eX a.q (("pick",a.pk)::("order",.int a.od)::("places",.tup [.int a.p0,.int a.p1])::("front",.str a.front)::("tails",.loc 27)::("many",.int a.m.length)::("sizes",a.sz)::("given",a.gv)::("refusals",a.rf)::c) (uH a b) (.ns []:: .ns []:: .ns []:: .ns []::a.o1::a.o2:: .ns []::a.o3:: .ns []:: .ns []:: .ns []::d)
theorem iI(a:cL)(b:iK)(d:M (I×R))(e:el c V):el (eF a b d c) (eF a b d V):= tI a.q _ (uH a b)<|.same O (.same O<|.same O (.same O<|.same O (.same O<|.same O (.same O<|.same O (.same O<|.same O e)))))
noncomputable def eD(a:N):N:=if a<20 then 7+a else [31,32,49,54].getD (a - 20) 0
noncomputable def SE:R->ag R
 | .int a=>Q<|.int (eD a.toNat:N)
 |_=>U
theorem QE(m:c9.p0<24)(n:c9.p1<24)(h:aY->M G->Prop)
 (o:h .next (eF c9 {shelf:=Q<|.loc 29,kinds:=Q<|.lst [.int (eD c9.p0:N),.int (eD c9.p1:N)]} [] [.ns []])):
 bz (bt w 20) (((bu 74).drop 13).take 1) (dL c9.q) (eF c9 {shelf:=Q<|.loc 29} [] []) h:=by
 refine kW SE cW O (show 2<1048576 by decide) ?_ ?_ ?_
 .intro i d r j
  have:∃a:N,a<24/\i= .int a:=by
   obtain b|b:=bO.mp d
   .exact⟨_,m,b⟩
   .exact⟨_,n,bU.mp b⟩
  revert this;refine ac λa s p=> ?_;obtain rfl:=p
  have k:∀l:M (I×R),el (eF c9 {shelf:=Q<|.loc 29} [] [.ns ([]++l)]) _:=λl=>iI c9 _ []<|.ns O .nil
  refine nH (λq=> ?_) λq=> ?_
  .have e:(7:H)+a=((eD a:N):H):=by unfold eD;rw [bK (by lia)];lia
   conv=>whnf
   rw [e]
   exact j _<|cG (by rfl) (by rfl) (k [_])
  .have e:(a:H) - 20=((a - 20:N):H):=by lia
   conv=>whnf
   rw [e]
   refine fL (q:=[31,32,49,54].map λa:N=>R.int a) O (L:= .int (eD a:N)) ?_ (show 4<1048577 by decide) ?_
   .unfold eD;rw [bF (by lia)]
    have:a - 20<4:=by lia
    generalize a - 20=c at this
    have:∀c,c<4->([31,32,49,54].map λa:N=>R.int a)[c]? =Q (R.int (([31,32,49,54].getD c 0:N):H)):=WF O O O O
    exact this c ‹_›
   .exact j _<|cG (by rfl) (by rfl) (k [_])
 .intro i d t f
  obtain b|b:=bO.mp d
  .subst b;(revert f;refine aL λg=> ?_;subst g);rfl
  .rw [bU.mp b] at f;(revert f;refine aL λg=> ?_;subst g);rfl
 .exact o
noncomputable def eu(a b:N):N:=256+a*b
noncomputable def mc(a:N)(d:bw)(e f:M N)(b c:N):M N:=[eu a b,f.getD c 0,eu a (iB d b<|au (e.getD c 0))]
noncomputable def bJ(a:M N):R:= .lst<|a.map λb=> .int (b:N)
noncomputable def jd(a:N)(b:bw)(c d:M N)(e:N):M (M N):=(dR e).flatMap λf=> [0,1].map<|mc a b c d f
noncomputable def SH(a:N)(b:bw)(c d:M N)(e:N):R->M R
 | .int f=> [bJ (mc a b c d e f.toNat)]
 |_=> []
noncomputable def Hm(a:N)(b:bw)(c d:M N):R->M R
 | .int e=> [0,1].map λf=>bJ<|mc a b c d e.toNat f
 |_=> []
theorem SM:∀a:M N,R.flats (a.map λb=> .int (b:N))=X:=by
 intro c
 induction c with
 |nil=>exact O
 |cons e a d=>exact d
theorem Kq(b:N)(c:bw)(d e:M N)(a:N):(fR a).flatMap (Hm b c d e)=(jd b c d e a).map bJ:=by
 rw [ry];unfold jd;generalize dR a=f
 induction f with
 |nil=>rfl
 |cons h f g=>rw [da,eT,g,eT,de];rfl
theorem yD(a:N)(b:bw)(c d:M N)(e:N):(jd a b c d e).length=e*2:=by unfold jd;rw [Nf,show(λf=>([0,1].map<|mc a b c d f).length)=λ_=>2 from O,Nj,Nv,jp]
theorem Bg{a:Prop}(b:a5.natAbs<18446744073709551616)(c:a):bW (aI (g1.natAbs<18446744073709551616)||decide (a5.natAbs<18446744073709551616)) a:=by rw [ck b,zi];exact c
theorem Ln(a:N):dg a<=60000:=by unfold dg;exact af 0 (1+C) 60000 (.p 1 (C+1) 60000 .z) (bj _) O<|fI _ (bA O)
theorem DF(b:h1 0)(c:h1 1)(d:a<2):h1 a:=by
 cases a with
 |zero=>exact b
 |succ a=>cases a with
  |zero=>exact c
  |succ a=>exact bD d<|cq.mpr (fi<|fi (cy _))
theorem QF(l:c9.m.Ok [c9.s0,c9.s1])(h:c9.m.length<1000)
 (m:(gZ.map λc=>(bC c.1,R.int c.2)).lookup (au c9.s0)=Q (.int a)) (n:(gZ.map λc=>(bC c.1,R.int c.2)).lookup (au c9.s1)=Q (.int d)) (g:aY->M G->Prop)
 (i:g .next (eF c9 k8 [("rules",.lst ((jd (dg c9.od) c9.m [c9.s0,c9.s1] [a,d] c9.m.length).map bJ))] [.ns [],.ns []])):
 bz (bt w 20) (((bu 74).drop 14).take 1) (dL c9.q) (eF c9 k8 [] [.ns []]) g:=by
 revert w c9 k8 a d l h m n g i
 apply U5
 generalize P4 _=a,Q4 _=d,Q3 _=w,Q2 _=k8,Q1 _=c9
 intro l h m n g i
 revert i
 revert g
 apply U1
 generalize Z1 _=g
 intro i
 refine bc (by exact⟨aw 0 (eS<|-4611686018427387904) F (.p 1 0 F .z) (aG _) O<|cj _,aw 0 (F+1) 4611686018427387904 (.p 1 (F+1) 1000 .z) (aG _) O<|ak h⟩) ?_
 refine bc (by exact⟨aw 0 (eS<|-4611686018427387904) 0 .z (aG 0) O,⟨aw 0 1 4611686018427387904 .z (aG 0) O,⟨aw 0 (eS<|-4611686018427387904) F (.p 1 0 F .z) (aG _) O<|cj _,aw 0 (F+1) 4611686018427387904 (.p 1 (F+1) 1000 .z) (aG _) O<|ak h⟩⟩⟩) ?_
 refine Cv (l:=λk g D=>iY _ _ _ D λE K L P=>kR _ _ _ [] _ E K L k P g) (Hm (dg c9.od) c9.m [c9.s0,c9.s1] [a,d]) 100000 cW O ?_ ?_ ?_
 .have:=bq iM<|Kq (dg c9.od) c9.m [c9.s0,c9.s1] [a,d] c9.m.length
  rw [aW,yD] at this
  exact aK (dM<|(fw _).trans this)<|by exact af 0 (hy C 2) 100000 (.p 2 (C+1) 1000 .z) (bj _) O h
 .intro t j k a2 o S
  refine ac (λe u p=> ?_)<|rz j;obtain rfl:=p
  have o:k.length+2<=100000:=o
  refine Cv (c:=eF c9 k8 [] [.ns [],.ns [("state",.int e)]]) (SH (dg c9.od) c9.m [c9.s0,c9.s1] [a,d] e) 200000 cW O (show k.length+2<=_ by exact af 0 (C+2) 200000 (.p 1 (C+2) 100000 .z) (bj _) O o) ?_<|S _ (cG (by rfl) (by rfl)<|iI c9 k8 [] (.same O<|.ns (v:=[]) (extra:=[_]) O .nil))
  intro t j v a3 T V
  have x:c9.m[e]? =Q c9.m[e]:=gz u
  have Y:(c9.m.map rA)[e]? =Q (rA c9.m[e]):=by rw [gj,x];rfl
  have Z:(c9.m.map rA).length<1048577:=by rw [aW];exact af 0 (C+1) 1048577 (.p 1 (C+1) 1000 .z) (bj _) O h
  have a0:∀f,f∈[c9.s0,c9.s1]->(c9.m[e].map λc=>(c.1,R.int c.2)).lookup (au f)=Q (.int (iB c9.m e (au f):N)):=λf q=>by refine ac (λa4 a5 y=> ?_)<|l.row _ (mu u) f q;rw [ye y];unfold iB;rw [ed,x];refine(?_:_=Q (R.int ((c9.m[e].lookup<|au f).getD 0:N)));rw [y];rfl
  have j:∃b:N,b<2/\t= .int b:=by
   obtain r|r:=bO.mp j
   .exact⟨0,by decide,r⟩
   .exact⟨1,by decide,bU.mp r⟩
  have z:∀f:N,(256:H)+(dg c9.od:N)*(f:N)=(eu (dg c9.od) f:N):=λf=>by unfold eu;exact kw (aw 0 (256+F) (256+F) .z (aG _) O)<|aw 0 (256+F) (256+F) .z (aG _) O
  have A:((dg c9.od:N):H).natAbs<18446744073709551616:=by have:=Ln c9.od;lia
  revert j;refine ac λb s p=> ?_;obtain rfl:=p
  have B:[R.str (au c9.s0),R.str (au c9.s1)][b]? =Q (R.str<|au ([c9.s0,c9.s1].getD b 0)):=DF (h1:=λb=> [R.str (au c9.s0),R.str (au c9.s1)][b]? =Q (R.str<|au ([c9.s0,c9.s1].getD b 0))) O O s
  have a1:(gZ.map λc=>(bC c.1,R.int c.2)).lookup (au<|[c9.s0,c9.s1].getD b 0)=Q (.int ([a,d].getD b 0:N)):=DF (h1:=λb=>(gZ.map λc=>(bC c.1,R.int c.2)).lookup (au<|[c9.s0,c9.s1].getD b 0)=Q (.int ([a,d].getD b 0:N))) m n s
  have q:[c9.s0,c9.s1].getD b 0∈[c9.s0,c9.s1]:=DF (h1:=λb=> [c9.s0,c9.s1].getD b 0∈[c9.s0,c9.s1]) (.head _) (.tail _<|.head _) s
  refine Bg A ?_
  conv=>whnf
  rw [z]
  refine fL O B (show 2<1048577 by decide) ?_
  refine be a1 ?_
  refine fL O Y Z ?_
  refine fL O B (show 2<1048577 by decide) ?_
  refine be (a0 _ q) ?_
  refine Bg A ?_
  refine bc (by refine(?_:v.length<_);have:v.length+1<=200000:=T;exact af 0 (C+1) 1048576 (.p 1 (C+1) 200000 .z) (bj _) O this) ?_
  rw [z]
  exact V _<|cG (by rfl) (by rfl) (iI c9 k8 []<|.same O (.ns (v:=[("state",.int e)]) (extra:=[_]) O .nil))
 .rw [<-Kq] at i;exact i
noncomputable def pf(b:N)(c:M ah)(d:N):M (M N):=(dR d).filterMap λa=>bif c.getD a ai then Q [eu b a] else U
noncomputable def gc(b:N)(a:bw)(c d:M N)(e:M ah):M (M N):=jd b a c d a.length++pf b e a.length
noncomputable def dA(a:M (M N)):M N:=a.flatMap (· ++ [0])
noncomputable def aS(a:M N):M R:=a.map λb=> .int (b:N)
noncomputable def xz(b:N)(c:M ah):R->ag R
 | .int a=>bif c.getD a.toNat ai then Q (bJ [eu b a.toNat]) else U
 |_=>U
theorem Sv(b:N)(a:M ah)(d:N):(fR d).filterMap (xz b a)=(pf b a d).map bJ:=by
 rw [ry];unfold pf;generalize dR d=e
 induction e with
 |nil=>rfl
 |cons c e f=>
  rw [da,ii,ii,f];have g:xz b a (.int (c:N))=bif a.getD c ai then Q (bJ [eu b c]) else U:=O
  rw [g];cases a.getD c ai<;>rfl
noncomputable def Hh:R->M R
 | .lst a=>a++ [.int 0]
 |_=> []
noncomputable def uU:R->M R
 | .int a=> [.int a]
 |_=> []
theorem CK:∀a:M N,(aS a).flatMap uU=aS a:=by
 intro b
 induction b with
 |nil=>exact O
 |cons c a d=>exact bq (R.int c:: ·)<|d
theorem Xj:∀a:M (M N),(a.map bJ).flatMap Hh=aS (dA a):=by
 intro b
 induction b with
 |nil=>exact O
 |cons d a c=>exact by rw [da,eT,c];unfold dA aS;rw [eT,de,de];rfl
theorem CW(b:l5∈jd a a0 m b7 d):l5.length=3:=by refine ac (λf c b=> ?_)<|oC.mp b;refine ac (λg c e=> ?_)<|cT.mp b;obtain rfl:=e;rfl
theorem Sw(b:m∈pf a c3 d):m.length=1:=by
 refine ac (λe g b=> ?_)<|qj.mp b
 cases c:c3.getD e ai with
 |true=>rw [c] at b;(revert b;refine aL λf=> ?_;subst f);rfl
 |false=>rw [c] at b;exact aU b
theorem CO(b:l5∈gc a a0 m b7 c3):l5.length<=3:=by
 obtain b|b:=dQ.mp b
 .rw [CW b];exact ba _
 .rw [Sw b];decide
theorem JM(b:N)(a:bw)(c d:M N)(e:M ah):(gc b a c d e).length<=3*a.length:=by unfold gc;have f:=yD b a c d a.length;have g:(pf b e a.length).length<=a.length:=aK (zB _ _)<|dM jp;rw [bN];exact af 0 (C+J) (bn 3 aj) (.q 1 C (hy aj 2)<|.p 1 J aj .z) (bk _ _ _) O f g
theorem Jx:∀a:M (M N),(∀b∈a,b.length<=3)->(dA a).length<=4*a.length:=by
 intro d
 induction d with
 |nil=>exact λ_=>ba _
 |cons b a e=>exact λc=>by have f:=e λg h=>c g<|.tail _ h;have i:=c b<|.head _;unfold dA at*;rw [eT,bN,bN,gO];rw [gO,wf];exact af 0 (C+(0+1)+J) (bn 4<|aj+1) (.p 1 J (bn 4 aj)<|.p 1 C 3 .z) (bk _ _ _) O f i
theorem QG(d:c9.m.length<1000)(o:c9.gs.length=c9.m.length)(f:aY->M G->Prop)
 (g:f .next (eF c9 k8 [("rules",.lst ((jd (dg c9.od) c9.m [c9.s0,c9.s1] m c9.m.length).map bJ)),("numbers",.lst (aS<|dA (gc (dg c9.od) c9.m [c9.s0,c9.s1] m c9.gs)))] [.ns [],.ns [],.ns [],.ns []])):
 bz (bt w 20) (((bu 74).drop 15).take 1) (dL c9.q) (eF c9 k8 [("rules",.lst ((jd (dg c9.od) c9.m [c9.s0,c9.s1] m c9.m.length).map bJ))] [.ns [],.ns []]) f:=by
 revert w c9 k8 m d o f g
 apply U4
 generalize P3 _=m,Q3 _=w,Q2 _=k8,Q1 _=c9
 intro d o f g
 revert g
 revert f
 apply U1
 generalize Z1 _=f
 intro g
 have x:=yD (dg c9.od) c9.m [c9.s0,c9.s1] m c9.m.length
 have p:gc (dg c9.od) c9.m [c9.s0,c9.s1] m c9.gs=_++_:=O
 have s:=JM (dg c9.od) c9.m [c9.s0,c9.s1] m c9.gs
 have t:∀a∈gc (dg c9.od) c9.m [c9.s0,c9.s1] m c9.gs,a.length<=3:=λa h=>CO h
 generalize gc (dg c9.od) c9.m [c9.s0,c9.s1] m c9.gs=j at g p s t
 generalize jd (dg c9.od) c9.m [c9.s0,c9.s1] m c9.m.length=u at g x p
 refine bc (by exact⟨aw 0 (eS<|-4611686018427387904) F (.p 1 0 F .z) (aG _) O<|cj _,aw 0 (F+1) 4611686018427387904 (.p 1 (F+1) 1000 .z) (aG _) O<|ak d⟩) ?_
 refine bc (by exact⟨aw 0 (eS<|-4611686018427387904) 0 .z (aG 0) O,⟨aw 0 1 4611686018427387904 .z (aG 0) O,⟨aw 0 (eS<|-4611686018427387904) F (.p 1 0 F .z) (aG _) O<|cj _,aw 0 (F+1) 4611686018427387904 (.p 1 (F+1) 1000 .z) (aG _) O<|ak d⟩⟩⟩) ?_
 refine py (xz (dg c9.od) c9.gs) _ (Sv (dg c9.od) c9.gs c9.m.length) cW O ?_ ?_ ?_ ?_
 .exact cd (dM<|pJ _)<|by exact af 0 (C+1) 1048576 (.p 1 (C+1) 1000 .z) (bj _) O d
 .intro i b E e
  refine ac (λc y n=> ?_)<|rz b;obtain rfl:=n
  have K:∀z,el (eF c9 k8 [("rules",.lst (u.map bJ))] [.ns [],.ns [],.ns ([]++z)]) _:=λz=>iI c9 k8 _<|.same O (.same O<|.ns O .nil)
  have e:=e _<|cG (by rfl) (by rfl) (K [("state",.int c)])
  have L:xz (dg c9.od) c9.gs (.int c)=bif c9.gs.getD c ai then Q (bJ [eu (dg c9.od) c]) else U:=O
  rw [L] at e
  refine fL O (L:= .bool<|c9.gs.getD c ai) (hn (by rw [o];exact y) ai) (by unfold hA;rw [aW];exact af 0 (C+1) 1048577 (.p 1 (J+1) 1000<|.q 1 C J .z) (aN _ _) O d o) ?_
  refine fc (λk=> ?_) λk=> ?_
  .rw [k] at e
   refine Bg (by have:=Ln c9.od;lia) ?_
   conv=>whnf
   rw [show(256:H)+(dg c9.od:N)*(c:N)=(eu (dg c9.od) c:N) by unfold eu;exact kw (aw 0 (256+F) (256+F) .z (aG _) O)<|aw 0 (256+F) (256+F) .z (aG _) O]
   exact e
  .rw [k] at e;exact e
 .intro i b P l
  refine ac (λc y n=> ?_)<|rz b;obtain rfl:=n
  have l:(bif c9.gs.getD c ai then Q (bJ [eu (dg c9.od) c]) else U)=Q P:=l
  cases k:c9.gs.getD c ai with
  |true=>rw [k] at l;(revert l;refine aL λS=> ?_;subst S);rfl
  |false=>rw [k] at l;exact aU l
 have T:(pf (dg c9.od) c9.gs c9.m.length).length<=c9.m.length:=aK (zB _ _)<|dM jp
 refine bc (by rw [aW,aW];exact af 0 (C+J) 1048576 (.p 3 (aj+1) 1000<|.q 1 C (hy aj 2) (.p 1 J aj .z)) (bk _ _ _) O d x T) ?_
 have A:=Jx j t
 have B:(aS<|dA j).length=(dA j).length:=aW _
 refine lV (j:=λV f Y=>iY _ _ _ Y λZ a0 a1 a2=>kR _ _ _ [] _ Z a0 a1 V a2 f) Hh (aS<|dA j) (by rw [<-Xj,p,de]) cW O ?_ ?_
 .intro i b v E q e
  have b:∃a∈j,i=bJ a:=by have b:i∈u.map bJ++(pf (dg c9.od) c9.gs c9.m.length).map bJ:=b;rw [<-de,<-p] at b;refine ac (λa a3 a4=> ?_)<|cT.mp b;exact⟨a,a3,a4.symm⟩
  revert b;refine ac λa a5 n=> ?_;obtain rfl:=n
  have a6:=t a a5
  have q:v.length+(aS a++ [R.int 0]).length<=0+(aS<|dA j).length:=q
  have a7:(aS a).length=a.length:=aW _
  refine bc (by refine(?_:(aS a).length+1<=_);exact af 0 (C+1) 1048576 (.p 1 J 3<|.q 1 C J .z) (aN _ _) O a6 a7) ?_
  have q:v.length+(aS a++ [R.int 0]).length<=100000:=aK q<|by exact af 0 (0+C) 100000 (.p 12 (J+1) 1000<|.p 4 aj (bn 3 J) (.p 1 bo (bn 4 aj)<|.q 1 C bo .z)) (di _ _ _ _) O d s A B
  refine lV (c:=eF c9 k8 [("rules",.lst (u.map bJ))] [.ns [],.ns [],.ns [],.ns [("rule",bJ a)]]) uU (aS a++ [.int 0]) (by rw [Ek];exact bq (· ++_)<|CK a) cW O ?_<|e _ (cG (by rfl) (by rfl)<|iI c9 k8 _ (.same O<|.same O (.same O<|.ns (v:=[]) (extra:=[_]) O .nil)))
  intro i b D b1 a8 a9
  have b:∃r:N,i= .int r:=by
   obtain h|h:=dQ.mp<|show i∈aS a++ [R.int 0] from b
   .refine ac (λr b2 h=> ?_)<|cT.mp h;exact⟨r,h.symm⟩
   .exact⟨0,bU.mp h⟩
  revert b;refine ay λr b0=> ?_;obtain rfl:=b0
  refine bc (by refine(?_:D.length<_);have:D.length+1<=v.length+(aS a++ [R.int 0]).length:=a8;exact af 0 (C+1) 1048576 (.p 12 (J+1) 1000<|.p 4 aj (bn 3 J) (.p 1 bo (bn 4 aj)<|.q 1 fW bo (.p 1 (AN+FI) (0+fW)<|.p 1 (C+1) (AN+FI) .z))) (ML _ _ _ _ _ _ _) O d s A B ‹_› this) ?_
  exact a9 _<|cG (by rfl) (by rfl) (iI c9 k8 _<|.same O (.same O<|.same O (.ns (v:=[("rule",bJ a)]) (extra:=[_]) O .nil)))
 .exact g
noncomputable def gr(a:N):M N:=if a>63 then [192+a/262144,64+a/4096%64,64+a/64%64,a%64] else [128+a]
theorem PB:∀a,a<64->(192+a)&&&63=a/\((192+a)&&&64 !=0)=X:=by decide+kernel
theorem FV:∀a,a<64->(64+a)&&&63=a/\((64+a)&&&64 !=0)=X:=by decide+kernel
theorem Pz:∀a,a<64->a&&&63=a/\(a&&&64 !=0)=ai/\(a&&&64==0)=X:=by decide+kernel
theorem PA:∀a,a<64->(128+a)&&&63=a/\(128+a)&&&64=0:=by decide+kernel
theorem Dh(b:d<64):a<<<6|||d=a*64+d:=by have b:d<2^6:=b;rw [<-NM b,ug]
theorem DK(b:(d&&&64 !=0)=X):ib (a::m) t d=ib m (t<<<6|||(a&&&63)) a:=by refine(?_:(bif (d&&&64) !=0 then _ else _)=_);rw [b];rfl
theorem LS(b:(d&&&64==0)=X):mZ a d m=X:=by
 cases a with
 |zero=>exact b
 |succ a=>cases m with
  |nil=>exact b
  |cons c m=>show((d&&&64==0)||_)=X;rw [b];rfl
theorem DL(b:mZ a t m=X):mZ (a+1) d (t::m)=X:=by refine(?_:((d&&&64==0)||mZ a t m)=X);rw [b,zi]
theorem Xu(j:a<16777216)(c:M N):∃d e,gr a++c=d::e/\mZ 9 d e=X/\ib e (d&&&63) d=(a,c):=by
 unfold gr;by_cases f:a>63
 .rw [bK f];have b:=PB (a/262144)<|NB j;have h:=FV (a/4096%64)<|fI _ (by decide);have i:=FV (a/64%64)<|fI _ (by decide);have g:=Pz (a%64)<|fI _ (by decide);refine⟨_,_::_::_::c,O,DL<|DL (DL<|LS g.2.2),?_⟩;rw [DK b.2,DK h.2,DK i.2,DJ (by simpa using g.2.1),b.1,h.1,i.1,g.1,Dh (fI _<|by decide),Dh (fI _<|by decide),Dh (fI _<|by decide)];rw [show a/262144=a/64/64/64 by rw [ED,ED],show a/4096=a/64/64 from(ED a 64 64).symm,EC,EC,EC]
 .rw [bF f];have b:=PA a<|uf (jU f);exact⟨_,c,O,LS<|by rw [b.2];rfl,by rw [DJ b.2,b.1]⟩
noncomputable def Hi:R->M R
 | .int a=>aS<|gr a.toNat
 |_=> []
theorem Xr:∀a:M N,(aS a).flatMap Hi=aS (a.flatMap gr):=by
 intro b
 induction b with
 |nil=>exact O
 |cons e a c=>exact by have d:=c;unfold aS at*;rw [da,eT,d,eT,de];rfl
theorem Xt(a:N):(gr a).length<=4:=by unfold gr;split<;>simp
theorem Xv:∀a:M N,(a.flatMap gr).length<=4*a.length:=by
 intro b
 induction b with
 |nil=>exact ba _
 |cons c a d=>exact by have e:=d;have f:=Xt c;rw [eT,bN,gO];exact af 0 (C+J) (bn 4<|aj+1) (.p 1 J (bn 4 aj)<|.p 1 C 4 .z) (bk _ _ _) O e f
theorem Xs(b:a>63):[R.int (192+(a:H).fdiv 262144),.int (64+((a:H).fdiv 4096).fmod 64),.int (64+((a:H).fdiv 64).fmod 64),.int ((a:H).fmod 64)]=aS (gr a):=by unfold gr;rw [bK b,show(a:H).fdiv 262144=((a/262144:N):H) from nL a 262144,show(a:H).fdiv 4096=((a/4096:N):H) from nL a 4096,show(a:H).fdiv 64=((a/64:N):H) from nL a 64, show((a/4096:N):H).fmod 64=((a/4096%64:N):H) from kh _ 64,show((a/64:N):H).fmod 64=((a/64%64:N):H) from kh _ 64,show(a:H).fmod 64=((a%64:N):H) from kh _ 64];rfl
def su(f:bY):Prop:=∀(c a:N) (b:M N) (d:M G) (e:aQ),mZ 9 a b=X->d[c]? =Q (.liter<|cX (a::b))->e (.int ((ib b (a&&&63) a).1:N)) (d.set c<|.liter (cX (ib b (a&&&63) a).2))->f (.raw<|bS 6) [.loc c] [] d e
theorem QH(l:m.length<100000)(c:aY->M G->Prop)
 (g:c .next (eF c9 {shelf:=Q<|.loc 29,kinds:=c4,tape:=Q<|.loc 38} [("rules",h),("numbers",.lst (aS m))] [.ns [],.ns [],.ns [],.ns [],.ns [],.liter (cX<|m.flatMap gr)])):
 bz (bt w 20) (((bu 74).drop 16).take 1) (dL c9.q) (eF c9 {shelf:=Q<|.loc 29,kinds:=c4} [("rules",h),("numbers",.lst (aS m))] [.ns [],.ns [],.ns [],.ns []]) c:=by
 revert w c9 c4 h m l c g
 apply U5
 generalize P4 _=m,Q4 _=h,Q3 _=c4,Q2 _=w,Q1 _=c9
 intro l c g
 revert g
 revert c
 apply U1
 generalize Z1 _=c
 intro g
 refine lV (j:=λy c z=>iY _ _ _ z λA B D E=>kR _ _ _ [] _ A B D y E c) Hi _ (Xr m) cW O ?_ ?_
 .intro b e n P o k
  refine ac (λa S p=> ?_)<|cT.mp (show b∈aS m from e);obtain rfl:=p
  have K:=Xv m
  have o:n.length+(aS<|gr a).length<=400000:=aK o<|by refine(?_:0+(aS _).length<=_);rw [show(aS<|m.flatMap gr).length=_ from aW _];exact af 0 (0+C) 400000 (.p 4 (J+1) 100000<|.p 1 C (bn 4 J) .z) (aN _ _) O l K
  have k:=k _<|cG (by rfl) (by rfl) (iI c9 {shelf:=Q<|.loc 29,kinds:=c4} [("rules",h),("numbers",.lst (aS m))]<|.same O (.same O<|.same O (.same O<|.ns (v:=[]) (extra:=[("number",.int a)]) O .nil)))
  have v:∀q:M R,q=aS (gr a)->∀b∈q,∀(d:M R) (i:M R->M G->Prop),d.length+(uU b).length<=n.length+(aS<|gr a).length->∃r:H,b= .int r/\d.length<1048576:=λq f b e d i j=>by subst f;refine ac (λT V p=> ?_)<|cT.mp e;obtain rfl:=p;have:d.length+1<=n.length+(aS<|gr a).length:=j;exact⟨_,O,by exact af 0 (C+1) 1048576 (.p 1 (J+aj) 400000<|.p 1 (C+1) (J+aj) .z) (bk _ _ _) O o this⟩
  refine nH (λx=> ?_) λx=> ?_
  .have f:=Xs (a:=a)<|by exact jn.mp ‹_›
   refine lV (c:=eF c9 {shelf:=Q<|.loc 29,kinds:=c4} [("rules",h),("numbers",.lst (aS m))] [.ns [],.ns [],.ns [],.ns [],.ns [("number",.int a)]]) uU (aS<|gr a) (by rw [<-CK,<-f];rfl) cW O ?_ k
   intro b e d i j s
   refine ac (λr t u=> ?_)<|v _ f b e d i j;obtain rfl:=t
   exact⟨u,s _<|cG (by rfl) (by rfl) (iI c9 _ _<|.same O (.same O<|.same O (.same O<|.ns (v:=[("number",.int a)]) (extra:=[_]) O .nil)))⟩
  .have f:[R.int (128+(a:H))]=aS (gr a):=by unfold gr;rw [bF (by exact λL=>aD (.p 1 F 63<|.p 1 64 F .z) (aG _) O (mq.mp x)<|ak L)];rfl
   refine lV (c:=eF c9 {shelf:=Q<|.loc 29,kinds:=c4} [("rules",h),("numbers",.lst (aS m))] [.ns [],.ns [],.ns [],.ns [],.ns [("number",.int a)]]) uU (aS<|gr a) (by rw [<-CK,<-f];rfl) cW O ?_ k
   intro b e d i j s
   refine ac (λr t u=> ?_)<|v _ f b e d i j;obtain rfl:=t
   exact⟨u,s _<|cG (by rfl) (by rfl) (iI c9 _ _<|.same O (.same O<|.same O (.same O<|.ns (v:=[("number",.int a)]) (extra:=[_]) O .nil)))⟩
 .exact g
def Mu(e:cL)(f:ag R)(g:R)(b:M N)(h:M R)(i:M R)(j:M G):Prop:=∀c:M R->M G->Prop,(∀(d a:M N) (k:b=d++a) (l:h=aS a),c (aS d) (eF e {shelf:=Q<|.loc 29,kinds:=f,tape:=Q<|.loc 38} [("rules",g),("numbers",.lst (aS b))] [.ns [],.ns [],.ns [],.ns [],.ns [],.liter (cX<|a.flatMap gr),.ns []]))->c i j
theorem QI(k:su w)(j:m.length<100000)(l:∀d∈m,d<16777216)(f:aY->M G->Prop)(g:f .next (eF c9 {shelf:=Q<|.loc 29,kinds:=c4,tape:=Q<|.loc 38,read:=Q<|.lst (aS m)} [("rules",h),("numbers",.lst (aS m))] [.ns [],.ns [],.ns [],.ns [],.ns [],.liter [],.ns []])):
 bz (bt w 20) (((bu 74).drop 17).take 1) (dL c9.q) (eF c9 {shelf:=Q<|.loc 29,kinds:=c4,tape:=Q<|.loc 38} [("rules",h),("numbers",.lst (aS m))] [.ns [],.ns [],.ns [],.ns [],.ns [],.liter (cX<|m.flatMap gr)]) f:=by
 revert w c9 c4 h m k j l f g
 apply U5
 generalize P4 _=m,Q4 _=h,Q3 _=c4,Q2 _=w,Q1 _=c9
 intro k j l f g
 revert g
 revert f
 apply U1
 generalize Z1 _=f
 intro g
 refine⟨Mu c9 c4 h m,λ_ n=>n [] m O O,?_,?_,?_⟩
 .intro q o p a
  apply a;clear a;intro b c e i
  exact⟨cW,O,O⟩
 .intro A q o p a
  apply a;clear a;intro b c e i
  cases c with
  |nil=>exact hq i
  |cons d c=>
   (revert i;refine gW λr s=> ?_;subst r;subst s)
   refine dd (λt u v x y=> ?_)<|Xu (l d<|by rw [e];simp) (c.flatMap gr)
   have z:(aS b).length<100000:=by rw [show(aS b).length=b.length from aW _];rw [e,bN] at j;exact cd (dS _ _) j
   rw [eT,v]
   refine k 38 t u _ _ x O ?_
   rw [y]
   refine bc (fh z<|by decide) ?_
   refine⟨_,cG (by rfl) (by rfl)<|iI c9 {shelf:=Q<|.loc 29,kinds:=c4,tape:=Q<|.loc 38} [("rules",h),("numbers",.lst (aS m))] (.same O<|.same O (.same O<|.same O (.same O<|.same O (.ns (v:=[]) (extra:=[_]) O .nil)))),?_⟩
   rw [show aS b++ [.int (d:N)]=aS (b++ [d]) by unfold aS;rw [de];rfl]
   exact λ_ n=>n (b++ [d]) c (by rw [e,eo];rfl) O
 .intro o p a
  apply a;clear a;intro b c e i
  cases c with
  |cons d c=>exact jc i
  |nil=>
   rw [cZ] at e
   subst e
   exact g
theorem IY(a:m.length=3):∃b c d,m=[b,c,d]:=by
 cases m with
 |nil=>cases a
 |cons b m=>cases m with
  |nil=>cases a
  |cons c m=>cases m with
   |nil=>cases a
   |cons d m=>cases m with
    |nil=>exact⟨_,_,_,O⟩
    |cons e m=>exact bD (sb<|sb (sb a))<|Nat.succ_ne_zero _
theorem pe:∀a:M N,R.datas (aS a)=Q (a.map λb=>ju (b:N)):=by
 intro c
 induction c with
 |nil=>exact O
 |cons d a e=>exact by refine(?_:bL (Q<|ju d) (λf=>(R.datas<|aS a).map (f:: ·))=_);rw [e];rfl
theorem ob:∀a:M N,ip (.list<|a.map λb=>ju (b:N))=X:=by
 intro c
 induction c with
 |nil=>exact O
 |cons e a d=>exact d
noncomputable def BG:R->ag R
 | .lst a=>a[1]?
 |_=>U
noncomputable def Ca(a b c:N):M N:=(cP c [a,b]).flatten
theorem VI(b c:N):∀a:N,(cP a [R.int b,.int c]).flatten=aS (Ca b c a):=by
 intro d
 induction d with
 |zero=>exact O
 |succ a e=>exact by rw [uc,El,e];rfl
theorem ad5(d:N)(e:bw)(f:M N)(b c:N):∀a:M N,((a.flatMap λg=> [0,1].map<|mc d e f [b,c] g).map bJ).filterMap BG=aS (Ca b c a.length):=by
 intro h
 induction h with
 |nil=>exact O
 |cons k a i=>exact by have j:=i;rw [eT,de,MR,j];rfl
theorem ad4(d:N)(e:bw)(f:M N)(a b c:N):((jd d e f [a,b] c).map bJ).filterMap BG=aS (Ca a b c):=by have:=ad5 d e f a b<|dR c;rw [jp] at this;exact this
theorem QJ(c:c9.m.length<1000)(l:m.length<100000)(b:aY->M G->Prop)
 (e:b .next (eF c9 {shelf:=Q<|.loc 29,kinds:=Q<|.lst [.int a,.int d],tape:=Q<|.loc 38,read:=Q<|.lst (aS m)} [("rules",.lst ((jd (dg c9.od) c9.m [c9.s0,c9.s1] [a,d] c9.m.length).map bJ)),("numbers",.lst (aS m))] [.ns [],.ns [],.ns [],.ns [],.ns [],.liter [],.ns [],.ns []])):
 bz (bt w 20) (((bu 74).drop 18).take 1) (dL c9.q) (eF c9 {shelf:=Q<|.loc 29,kinds:=Q<|.lst [.int a,.int d],tape:=Q<|.loc 38,read:=Q<|.lst (aS m)} [("rules",.lst ((jd (dg c9.od) c9.m [c9.s0,c9.s1] [a,d] c9.m.length).map bJ)),("numbers",.lst (aS m))] [.ns [],.ns [],.ns [],.ns [],.ns [],.liter [],.ns []]) b:=by
 revert w c9 a d m c l b e
 apply U5
 generalize P4 _=m,Q4 _=a,Q3 _=d,Q2 _=w,Q1 _=c9
 intro c l b e
 revert e
 revert b
 apply U1
 generalize Z1 _=b
 intro e
 refine be (jy<|pe _) ?_
 refine be (jy<|pe _) ?_
 refine bc ⟨ob _,ob _⟩ ?_
 rw [nr _ (lF<|ob _)]
 refine py BG _ (ad4 (dg c9.od) c9.m [c9.s0,c9.s1] a d c9.m.length) cW O ?_ ?_ ?_ ?_
 .refine(?_:(ft bJ _).length<_);rw [aW,yD];exact af 0 ((hy C 2)+1) 1048576 (.p 2 (C+1) 1000 .z) (bj _) O c
 .intro f g u n
  refine ac (λo h i=> ?_)<|cT.mp (show f∈ft bJ _ from g);obtain rfl:=i
  have j:=CW h
  refine Jz (λp q r k=> ?_)<|IY j;obtain rfl:=k
  exact n _<|cG (by rfl) (by rfl) (iI c9 _ _<|.same O (.same O<|.same O (.same O<|.same O (.same O<|.same O (.ns (v:=[]) (extra:=[_]) O .nil)))))
 .intro f g v s
  refine ac (λo h i=> ?_)<|cT.mp (show f∈ft bJ _ from g);obtain rfl:=i
  have j:=CW h
  refine Jz (λp q r k=> ?_)<|IY j;obtain rfl:=k
  (revert s;refine aL λt=> ?_;subst t);rfl
 refine bc ⟨by exact aw 0 0 F (.p 1 0 F .z) (aG _) O<|cj _,by exact aw 0 (F+1) 1048577 (.p 1 (F+1) 1000 .z) (aG _) O<|ak c,by refine(?_:2*_<=_);exact ao2 _ c⟩ ?_
 rw [show(cP (cw (c9.m.length:N)) [R.int a,.int d]).flatten=_ from VI a d c9.m.length]
 refine be (jy<|pe _) ?_
 refine be (jy<|pe _) ?_
 refine bc ⟨ob _,ob _⟩ ?_
 rw [nr _ (lF<|ob _)]
 exact e
theorem CR(a:M R)(b c:ag H):gd a b c U=(a.drop<|qu b a.length).take (wM c a.length - qu b a.length):=by unfold gd;rw [W.kms_bounds];refine(?_:(nB _ _ 1).filterMap _=_);rw [sliceRange_one];have:=pick_run a.toArray (qu b a.length)<|wM c a.length - qu b a.length;simp only [List.getElem?_toArray] at this;exact this
theorem JP(a:M R):gd a (Q 1) U U=a.tail:=by rw [CR];refine(?_:(a.drop<|dI 1 a.length).take (a.length - dI 1 a.length)=_);rw [ly (by rw [jO];exact ba _),W.kmk_drop_min,List.drop_one]
theorem Ym(c d f:M R):gd (c++d++f) (Q (c.length:N)) (Q ((c.length+d.length:N):H)) U=d:=by
 rw [CR] at ⊢;have g:∀a:N,∀b,qu (Q (a:N)) b=dI a b:=λa b=>by unfold qu;dsimp only;rw [bF (by exact λe=>aD (.p 1 (F+1) 0<|.p 1 0 F .z) (aG _) O e<|cj _)] at ⊢;rfl
 have h:∀a:N,∀b,wM (Q (a:N)) b=dI a b:=λa b=>by unfold wM;dsimp only;rw [bF (by exact λe=>aD (.p 1 (F+1) 0<|.p 1 0 F .z) (aG _) O e<|cj _)] at ⊢;rfl
 rw [g,h,bN,bN,lB (by exact dS _ _),lB (by exact af 0 C (C+J+aj) .z (bk _ _ _) O),eo,tV,qo,wm] at ⊢
noncomputable def eZ:N->M N->M N
 |_,[]=> []
 |a,c::b=>bif c==0 then a::eZ (a+1) b else eZ (a+1) b
theorem am9(a c:N)(b:M N):eZ a (c::b)=bif c==0 then a::eZ (a+1) b else eZ (a+1) b:=O
noncomputable def sF:R->ag R
 | .tup a=>(match a with
  |[b,c]=>(match b,c with
   | .int d,.int e=>bif e==0 then Q (.int d) else U
   |_,_=>U)
  |_=>U)
 |_=>U
theorem Sh:∀(c:M N) (a:N),((aS c).mapIdx λd e=>R.tup [.int ((a+d:N):H),e]).filterMap sF=aS (eZ a c):=by
 intro f
 induction f with
 |nil=>exact λa=>O
 |cons b c g=>
  exact λa=>by
   have h:=g<|a+1;unfold aS at*;rw [da,zC,ii];have i:((c.map λb=>R.int (b:N)).mapIdx λd e=>R.tup [.int ((a+(d+1):N):H),e])=((c.map λb=>R.int (b:N)).mapIdx λd e=>R.tup [.int ((a+1+d:N):H),e]):=by congr 1;funext d e;rw [lz,fS 1 d]
   rw [i,h];have j:sF (.tup [.int ((a+0:N):H),.int (b:N)])=bif (b:H)==0 then Q (.int ((a+0:N):H)) else U:=O
   have k:((b:H)==0)=(b==0):=by cases b<;>rfl
   rw [j,k,show eZ a (b::c)=bif b==0 then a::eZ (a+1) c else eZ (a+1) c from O];cases b==0<;>rfl
theorem Sr(a:M N):(dW<|aS a).filterMap sF=aS (eZ 0 a):=by rw [<-Sh];unfold dW;congr 2;funext b c;rw [fw]
theorem GX(b:h∈dW (aS m)):∃(a c:N),a<m.length/\c∈m/\h= .tup [.int (a:H),.int (c:H)]:=by
 unfold dW at b;obtain⟨a,d,e⟩:=wh.mp b
 rw [rU] at d;rw [zz] at e;have f:a<m.length:=by rw [<-show(aS m).length=m.length from aW _];exact d
 refine⟨a,m[a],f,mu f,?_⟩;rw [<-e];unfold aS;rw [ua]
noncomputable def sH(a:M R):R->ag R
 | .tup b=>(match b with
  |[c,d]=>(match c,d with
   | .int e,.int f=>Q<|.lst (gd a (Q<|e+1) (Q f) U)
   |_,_=>U)
  |_=>U)
 |_=>U
theorem am8:∀(b:M N) (a:N) (c:M N),(∀d∈b,d≠0)->eZ a (b++0::c)=(a+b.length)::eZ (a+b.length+1) c:=by
 intro f
 induction f with
 |nil=>exact λa c _=>O
 |cons d b g=>
  exact λa c e=>by
   have h:=g (a+1) c λi j=>e i<|.tail _ j;have k:(d==0)=ai:=by simpa using e d (.head _)
   refine(?_:(bif d==0 then _ else eZ (a+1) (b++0::c))=_);rw [k,gO,show a+(b.length+1)=a+1+b.length by exact nS (C+(J+1)) (C+1+J) (aN _ _) O];exact h
theorem Yc(d:M R):∀(c:M (M N)) (a:M N),(∀b∈c,∀i∈b,i≠0)->d=aS (a++dA c)->
 (jg (.int ((a.length:H) - 1)::aS (eZ a.length<|dA c))<|aS (eZ a.length<|dA c)).filterMap (sH d)=c.map bJ:=by
 intro j
 induction j with
 |nil=>exact λ_ _ _=>O
 |cons b c k=>
  exact λa g h=>by
   have e:dA (b::c)=b++0::dA c:=by unfold dA;rw [eT,eo];rfl
   have f:=k (a++b++ [0]) (λl m=>g l<|.tail _ m) (by rw [h,e];simp);have n:(a++b++ [0]).length=a.length+b.length+1:=by rw [bN,bN];rfl
   rw [e,am8 b _ _ (g b<|.head _)];rw [n] at f;have o:((a.length+b.length+1:N):H) - 1=((a.length+b.length:N):H):=by lia
   rw [o] at f;refine(?_:Ei (sH d) (.tup [.int ((a.length:H) - 1),.int ((a.length+b.length:N):H)]::jg (.int ((a.length+b.length:N):H)::aS (eZ (a.length+b.length+1)<|dA c)) (aS<|eZ (a.length+b.length+1) (dA c)))=_);rw [ii];have p:sH d (.tup [.int ((a.length:H) - 1),.int ((a.length+b.length:N):H)])=Q (bJ b):=by refine(?_:Q (R.lst<|gd d (Q<|(a.length:H) - 1+1) _ U)=_);have:=Ym (aS a) (aS b)<|aS (0::dA c);rw [show(aS a).length=a.length from aW _,show(aS b).length=b.length from aW _] at this;rw [show(a.length:H) - 1+1=(a.length:N) by lia,h,e,show aS (a++(b++0::dA c))=aS a++aS b++aS (0::dA c) by unfold aS;rw [de,de,eo],this];rfl
   rw [p,f];rfl
theorem Yb(a:M (M N))(b:∀c∈a,∀d∈c,d≠0):(jg (.int (-1)::aS (eZ 0<|dA a))<|aS (eZ 0<|dA a)).filterMap (sH<|aS (dA a))=a.map bJ:=Yc _ a [] b O
theorem Ma:∀(a:M N) (b:N),(eZ b a).length<=a.length:=by
 intro c
 induction c with
 |nil=>exact λ_=>ba _
 |cons d a e=>
  exact λb=>by
   have:=e<|b+1;rw [am9];cases d==0
   .exact hf this
   .exact fi this
def pU(d:bY):Prop:=∀(a:H) (b:M G) (c:aQ),c (.bool<|a==0) b->d (.raw<|bS 64) [.int a] [] b c
theorem QK(i:pU w)(j:m.length<100000)(b:aY->M G->Prop)(d:b .next (eF c9 {shelf:=Q<|.loc 29,kinds:=c4,tape:=Q<|.loc 38,read:=Q<|.lst (aS m)} [("rules",h),("numbers",.lst (aS m)),("ends",.lst (.int (-1)::aS (eZ 0 m)))] [.ns [],.ns [],.ns [],.ns [],.ns [],.liter [],.ns [],.ns [],.ns []])):
 bz (bt w 20) (((bu 74).drop 19).take 1) (dL c9.q) (eF c9 {shelf:=Q<|.loc 29,kinds:=c4,tape:=Q<|.loc 38,read:=Q<|.lst (aS m)} [("rules",h),("numbers",.lst (aS m))] [.ns [],.ns [],.ns [],.ns [],.ns [],.liter [],.ns [],.ns []]) b:=by
 revert w c9 c4 h m i j b d
 apply U5
 generalize P4 _=m,Q4 _=h,Q3 _=c4,Q2 _=w,Q1 _=c9
 intro i j b d
 revert d
 revert b
 apply U1
 generalize Z1 _=b
 intro d
 refine py sF _ (Sr m) cW O ?_ ?_ ?_ ?_
 .refine(?_:(dW<|aS m).length<_);unfold dW;rw [rU,show(aS m).length=m.length from aW _];exact aK ‹_› (bA O)
 .intro n k r a
  refine dd (λg c o p l=> ?_)<|GX k;obtain rfl:=l
  have a:=a _<|cG (by rfl) (by rfl) (iI c9 {shelf:=Q<|.loc 29,kinds:=c4,tape:=Q<|.loc 38,read:=Q<|.lst (aS m)} [("rules",h),("numbers",.lst (aS m))]<|.same O (.same O<|.same O (.same O<|.same O (.same O<|.same O (.same O<|.ns (v:=[]) (extra:=[("spot",.int g),("symbol",.int c)]) O .nil)))))
  rw [show sF _=bif (c:H)==0 then Q (.int (g:H)) else U from O] at a
  refine i _ _ _ ?_
  cases e:(c:H)==0 with
  |true=>
   rw [e] at a
   exact a
  |false=>
   rw [e] at a
   exact a
 .intro n k s f
  refine dd (λg c o p l=> ?_)<|GX k;obtain rfl:=l
  rw [show sF _=bif (c:H)==0 then Q (.int (g:H)) else U from O] at f
  cases e:(c:H)==0 with
  |true=>rw [e] at f;(revert f;refine aL λq=> ?_;subst q);rfl
  |false=>rw [e] at f;exact aU f
 .refine bc ?_ d
  refine(?_:1+(aS _).length<=_)
  have:=Ma m 0
  rw [show(aS<|eZ 0 m).length=_ from aW _];exact af 0 (1+C) 1048576 (.p 1 (J+1) 100000<|.p 1 C J .z) (aN _ _) O j this
def sd(d:bY):Prop:=∀(a:H) (b:M G) (c:aQ),c (.bool<|aI (a>=256)) b->d (.raw<|bS 63) [.int a] [] b c
def oU(d:bY):Prop:=∀(a:H) (b:M G) (c:aQ),c (.bool<|aI (a<256)) b->d (.raw<|bS 62) [.int a] [] b c
def Ab(c:M N):Prop:=∀b a,c[b]? =Q a->(a>=256↔b≠1)/\a≠0
theorem am6(a:h∈jg q d5):∃b c,b∈q/\c∈d5/\h= .tup [b,c]:=by
 unfold jg at a;obtain⟨e,f,d⟩:=wh.mp a
 rw [List.getElem_zipWith] at d;exact⟨_,_,mu _,mu _,d.symm⟩
theorem za(b:el c V):∀a:M G,el (a++c) (a++V):=by
 intro d
 induction d with
 |nil=>exact b
 |cons _ a e=>exact .same O<|e
noncomputable def rs:M G:=[.ns [],.ns [],.ns [],.ns [],.ns [],.liter [],.ns [],.ns [],.ns []]
theorem Sq(b:h∈dW (aS m)):∃(a c:N),m[a]? =Q c/\h= .tup [.int (a:H),.int (c:H)]:=by
 unfold dW at b;obtain⟨a,d,e⟩:=wh.mp b
 rw [rU] at d;rw [zz] at e;have f:a<m.length:=by rw [<-show(aS m).length=m.length from aW _];exact d
 refine⟨a,m[a],gz f,?_⟩;rw [<-e];unfold aS;rw [ua]
theorem xC(a:M N):(bJ a).flat=X:=SM a
theorem QL(d:(dA e7).length<100000)(k:∀l∈e7,∀a∈l,a≠0)(b:aY->M G->Prop)
 (e:b .next (eF c9 {shelf:=Q<|.loc 29,kinds:=c4,tape:=Q<|.loc 38,read:=Q<|.lst (aS<|dA e7),parts:=Q<|.lst (e7.map bJ)} [("rules",h),("numbers",.lst (aS<|dA e7)),("ends",.lst (.int (-1)::aS (eZ 0<|dA e7)))] [.ns [],.ns [],.ns [],.ns [],.ns [],.liter [],.ns [],.ns [],.ns [],.ns []])):
 bz (bt w 20) (((bu 74).drop 20).take 1) (dL c9.q) (eF c9 {shelf:=Q<|.loc 29,kinds:=c4,tape:=Q<|.loc 38,read:=Q<|.lst (aS<|dA e7)} [("rules",h),("numbers",.lst (aS<|dA e7)),("ends",.lst (.int (-1)::aS (eZ 0<|dA e7)))] [.ns [],.ns [],.ns [],.ns [],.ns [],.liter [],.ns [],.ns [],.ns []]) b:=by
 revert w c9 c4 h e7 d k b e
 apply U5
 generalize P4 _=e7,Q4 _=h,Q3 _=c4,Q2 _=w,Q1 _=c9
 intro d k b e
 revert e
 revert b
 apply U1
 generalize Z1 _=b
 intro e
 have q:=Yb e7 k
 have r:=Ma (dA e7) 0
 have s:(aS<|eZ 0 (dA e7)).length=(eZ 0<|dA e7).length:=aW _
 generalize x:aS (eZ 0<|dA e7)=f at*
 have t:∀g∈f,∃a:N,g= .int a:=λg c=>by rw [<-x] at c;refine ac (λa y z=> ?_)<|cT.mp c;exact⟨a,z.symm⟩
 generalize A:aS (dA e7)=i at*
 have B:i.length<100000:=by rw [<-A,show(aS<|dA e7).length=_ from aW _];exact d
 refine bc (by refine(?_:f.length+1<=_);exact af 0 (C+1) 1048576 (.p 1 (J+1) 100000<|.p 1 aj J (.q 1 C aj .z)) (bk _ _ _) O d r s) ?_
 rw [JP]
 refine py (sH i) _ q cW O ?_ ?_ ?_ e
 .refine(?_:(jg _ _).length<_);unfold jg;rw [List.length_zipWith,gO];exact af 0 (C+1) 1048576 (.p 1 (J+1) 100000<|.p 1 aj J (.q 1 bo aj<|.p 1 C (bo+1) .z)) (di _ _ _ _) O d r s<|sa _ _
 .intro g c V m
  refine dd (λu D n E K=> ?_)<|am6 c;obtain rfl:=K
  have n:∃o:H,u= .int o:=by
   obtain j|j:=bO.mp n
   .exact⟨_,j⟩
   .refine ay (λa j=> ?_)<|t u j;exact⟨_,j⟩
  revert n;refine ay λo p=> ?_;obtain rfl:=p
  refine ay (λL p=> ?_)<|t D E;obtain rfl:=p
  have m:=m _<|cG (by rfl) (by rfl) (iI c9 {shelf:=Q<|.loc 29,kinds:=c4,tape:=Q<|.loc 38,read:=Q<|.lst i} [("rules",h),("numbers",.lst i),("ends",.lst (.int (-1)::f))]<|za (.ns (v:=[]) (extra:=[("first",.int o),("last",.int L)]) O .nil) rs)
  refine bc (by exact af 0 C 1048576 (.p 1 (C+1) 100000 .z) (bj _) O B) ?_
  exact m
 .intro g c P S
  have v:P∈(jg (.int (-1)::f) f).filterMap (sH i):=qj.mpr ⟨g,c,S⟩
  rw [q] at v
  refine ac (λl y T=> ?_)<|cT.mp v;obtain rfl:=T
  exact xC l
theorem QM(n:pU w)(o:sd w)(p:oU w)(q:k8={shelf:=Q<|.loc 29,kinds:=k8.kinds,tape:=Q<|.loc 38,read:=k8.read,parts:=Q<|.lst (e7.map bJ)})(r:c=[.ns [],.ns [],.ns [],.ns [],.ns [],.liter [],.ns [],.ns [],.ns [],.ns []])(g:∀f∈e7,Ab f)(b:aY->M G->Prop)(h:b .next (eF c9 k8 D<|c++ [.ns []])):
 bz (bt w 20) (((bu 74).drop 21).take 1) (dL c9.q) (eF c9 k8 D c) b:=by
 revert w c9 k8 D c e7 n o p q r g b h
 apply U6
 generalize P5 _=e7,Q5 _=D,Q4 _=c,Q3 _=w,Q2 _=k8,Q1 _=c9
 intro n o p q r g b h
 revert h
 revert b
 apply U1
 generalize Z1 _=b
 intro h
 subst r
 obtain⟨a3,v,a4,x,a5⟩:=k8
 injection q with e1 e2 e3 e4 e5
 subst e1 e3 e5
 refine lV (j:=λz b A=>iY _ _ _ A λB E K L=>kR _ _ _ [] _ B E K z L b) (λ_=> []) [] (by generalize(ft bJ e7,(U:eg)).1=i;induction i with
  |nil=>rfl
  |cons j i s=>exact s) cW O ?_ ?_
 .intro j t a6 a7 a8 P
  refine ac (λf S T=> ?_)<|cT.mp (show j∈ft bJ e7 from t);obtain rfl:=T
  have g:=g f S
  refine lV (c:=eF c9 {shelf:=Q<|.loc 29,kinds:=v,tape:=Q<|.loc 38,read:=x,parts:=Q<|.lst (e7.map bJ)} D [.ns [],.ns [],.ns [],.ns [],.ns [],.liter [],.ns [],.ns [],.ns [],.ns [],.ns [("part",bJ f)]]) (λ_=> []) [] (by generalize dW _=i;induction i with
   |nil=>rfl
   |cons j i s=>exact s) cW O ?_<|P _ (cG (by rfl) (by rfl)<|iI c9 _ _ (za (.same O<|.ns (v:=[]) (extra:=[_]) O .nil) rs))
  intro j t y a9 b0 l
  refine dw (λd e V Y=> ?_)<|Sq (show j∈dW (aS f) from t);obtain rfl:=Y
  refine aA (λm Z=> ?_)<|g d e V
  have l:=l _<|cG (by rfl) (by rfl) (iI c9 {shelf:=Q<|.loc 29,kinds:=v,tape:=Q<|.loc 38,read:=x,parts:=Q<|.lst (e7.map bJ)} D<|za (.same O<|.ns (v:=[("part",bJ f)]) (extra:=[("spot",.int d),("symbol",.int e)]) O .nil) rs)
  refine o _ _ _ ?_
  have a0:(aI ((e:H)>=256)== !((d:H)==1))=X:=by
   by_cases a:d=1
   .rw [cN (λu=>(m.mp<|by exact bd<|aw 0 256 F (.p 1 256 F .z) (aG _) O u) a)];subst a;rfl
   .rw [ck (by have:=m.mpr a;lia)]
    cases k:(d:H)==1 with
    |true=>exact bD (hd k)<|by exact Mc _ _ a k
    |false=>rfl
  have a1:(aI ((e:H)<256)==((d:H)==1))=X:=by
   by_cases a:d=1
   .rw [ck (by have:¬e>=256:=λu=>(m.mp u) a;lia)];subst a;rfl
   .rw [cN (by have:=m.mpr a;lia)]
    cases k:(d:H)==1 with
    |true=>exact bD (hd k)<|by exact Mc _ _ a k
    |false=>rfl
  have a2:((e:H)==0)=ai:=by
   cases a:(e:H)==0 with
   |true=>exact bD (hd a)<|by exact ao3 _ _ Z a
   |false=>rfl
  refine qJ (by rw [a0];rfl) ?_
  refine p _ _ _ ?_
  refine qJ (by rw [a1];rfl) ?_
  refine n _ _ _ ?_
  refine qJ (by rw [a2];rfl) ?_
  rw [show y++ []=y from cZ _] at l
  exact l
 .exact⟨⟨O,O⟩,h⟩
theorem GZ:∀b a:M N,my (.list<|b.map λc=>ju (c:N)) (.list<|a.map λc=>ju (c:N))=aI (b=a):=by
 have f:∀b a:M N,wI (b.map λc=>ju (c:N)) (a.map λc=>ju (c:N))=aI (b=a):=by
  intro b
  induction b with
  |nil=>intro a;cases a<;>simp [wI]
  |cons h b g=>
   intro a
   cases a with
   |nil=>simp [wI]
   |cons i a=>rw [da,da,wI,g];rw [oq];simp [my];exact λj=>⟨λd=>aZ (bd<|aw 0 F W (.q 1 F W .z) (aP _ _) O d)<|bd (aw 0 F W (.f 1 W F .z) (aP _ _) O d),λe=>kw (aw 0 F W (.q 1 F W .z) (aP _ _) O<|ax e)<|aw 0 F W (.f 1 W F .z) (aP _ _) O (ax e)⟩
 intro b a;rw [my];exact f b a
theorem CS(a:M N)(b c:ag H):gd (aS a) b c U=aS ((a.drop<|qu b a.length).take<|wM c a.length - qu b a.length):=by rw [CR];unfold aS;rw [aW,zG,zD]
theorem Yj(a:M N):gd (aS a) U (Q<|-1) U=aS a.dropLast:=by rw [CS];refine(?_:aS ((a.drop 0).take<|a.length - 1 - 0)=_);rw [qd,NQ,List.dropLast_eq_take]
noncomputable def sT(a:M N):M N:=a.drop<|a.length - 1
theorem Yl(a:M N):gd (aS a) (Q<|-1) U U=aS (sT a):=by rw [CS];refine(?_:aS ((a.drop<|a.length - 1).take<|a.length - (a.length - 1))=_);rw [ly (by rw [jO];exact ba _)];rfl
theorem Yi(a:M N):gd (aS a) U (Q 1) U=aS (a.take 1):=by rw [CS];refine(?_:aS ((a.drop 0).take<|dI 1 a.length - 0)=_);rw [qd,NQ,W.kmk_take_min]
theorem Yn(a:M N):gd (aS a) (Q 1) U U=aS a.tail:=by rw [JP];unfold aS;rw [List.map_tail]
noncomputable def jz(a b:M N):ah:=aI<|sT a=b.take 1
noncomputable def iy(a b:M N):M N:=a.dropLast++b.tail
noncomputable def je(b c:M (M N)):M (M N):=c.flatMap λa=>(b.filter<|jz a).map<|iy a
noncomputable def qY:R->M N
 | .lst a=>a.map λb=>match b with
  | .int c=>c.toNat
  |_=>0
 |_=> []
theorem pD(a:M N):qY (bJ a)=a:=by refine(?_:(a.map _).map _=_);rw [jq];exact List.map_id' a
noncomputable def xA(a:M N)(b:R):M R:=bif jz a (qY b) then [bJ (iy a<|qY b)] else []
noncomputable def uT(b:M (M N))(a:R):M R:=((b.filter<|jz (qY a)).map<|iy (qY a)).map bJ
theorem SD(a:M N):∀b:M (M N),(b.map bJ).flatMap (xA a)=((b.filter<|jz a).map<|iy a).map bJ:=by
 intro c
 induction c with
 |nil=>exact O
 |cons d b e=>exact by rw [da,eT,e,kz];unfold xA;rw [pD];cases jz a d<;>rfl
theorem SA(b:M (M N)):∀a:M (M N),(a.map bJ).flatMap (uT b)=(je b a).map bJ:=by
 intro c
 induction c with
 |nil=>exact O
 |cons e a d=>exact by rw [da,eT,d];unfold uT je;rw [pD,eT,de]
noncomputable def uY:M cD:=BM (bu 74)[23]?
noncomputable def iD(a:cL)(b c:ag R)(d:M (M N))(e f g:R)(h:M (M N))(i:M I)(j:M (I×R))(k:M G):M G:= eF a {shelf:=Q<|.loc 29,kinds:=b,tape:=Q<|.loc 38,read:=c,parts:=Q<|.lst (d.map bJ)} (("rules",e)::("numbers",f)::("ends",g)::("layer",.lst (aX i))::("forms",.lst (h.map bJ))::j) (rs++ .ns []:: .ns []::k)
theorem rJ(a:M (M N))(b:M I)(d:M (I×R))(e:el c V):el (iD c9 c4 f2 e7 h L d2 a b d c) (iD c9 c4 f2 e7 h L d2 a b d V):= iI c9 _ _<|za (.same O<|.same O e) rs
theorem Qq(j:∀b∈k9,b.length<1000)(k:∀c∈e7,c.length<=3)(l:(je e7 k9).length<100000)(e:aY->M G->Prop)
 (g:e .next (iD c9 c4 f2 e7 h L d2 (je e7 k9) a4 [("size",.int a)] [.ns []])):
 bz (bt w 19) (uY.take 1) (dL c9.q) (iD c9 c4 f2 e7 h L d2 k9 a4 [("size",.int a)] []) e:=by
 revert w c9 c4 f2 e7 h L d2 k9 a4 a j k l e g
 apply U11
 generalize P10 _=e7,Q10 _=k9,Q9 _=a4,Q8 _=a,Q7 _=h,Q6 _=L,Q5 _=d2,Q4 _=c4,Q3 _=f2,Q2 _=w,Q1 _=c9
 intro j k l e g
 revert g
 revert e
 apply U1
 generalize Z1 _=e
 intro g
 refine lV (j:=λA e B=>iY _ _ _ B λD E K P=>kR _ _ _ [] _ D E K A P e) (uT e7) _ (SA e7 k9) cW O ?_ ?_
 .intro m n v Y i o
  refine ac (λb S p=> ?_)<|cT.mp (show m∈ft bJ k9 from n);obtain rfl:=p
  have q:=j b S
  have x:(aS b).length=b.length:=aW _
  have i:v.length+(((e7.filter<|jz b).map<|iy b).map bJ).length<=0+((je e7 k9).map bJ).length:=by have:=i;unfold uT at this;rw [pD] at this;exact this
  unfold uT at o;rw [pD] at o
  rw [aW (as:=je e7 k9)] at i
  refine lV (c:=iD c9 c4 f2 e7 h L d2 k9 a4 [("size",.int a)] [.ns [("form",bJ b)]]) (xA b) _ (SD b e7) cW O ?_<|o _ (cG (by rfl) (by rfl)<|rJ k9 a4 [("size",.int a)] (.ns (v:=[]) (extra:=[_]) O .nil))
  intro m n r Z f d
  refine ac (λc T p=> ?_)<|cT.mp (show m∈ft bJ e7 from n);obtain rfl:=p
  have s:=k c T
  have y:(aS c).length=c.length:=aW _
  have d:=d _<|cG (by rfl) (by rfl) (rJ k9 a4 [("size",.int a)]<|.ns (v:=[("form",bJ b)]) (extra:=[("part",bJ c)]) O .nil)
  unfold xA at f d
  rw [pD] at f d
  refine bc (by refine(?_:(aS b).length<=_);exact af 0 C 1048576 (.p 1 (J+1) 1000<|.q 1 C J .z) (aN _ _) O q x) ?_
  refine bc (by refine(?_:(aS c).length<=_);exact af 0 C 1048576 (.p 1 J 3<|.q 1 C J .z) (aN _ _) O s y) ?_
  refine be (jy<|(bq R.datas<|Yl b).trans (pe _)) ?_
  refine be (jy<|(bq R.datas<|Yi c).trans (pe _)) ?_
  refine bc ⟨ob _,ob _⟩ ?_
  rw [GZ]
  rw [show jz b c=aI (sT b=c.take 1) from O] at f d
  refine fc (λt=> ?_) λt=> ?_
  .rw [t] at f d
   have f:r.length+1<=v.length+(ft bJ<|ft (iy b) (qe (jz b) e7)).length:=f
   refine bc (by refine(?_:(aS b).length<=_);exact af 0 C 1048576 (.p 1 (J+1) 1000<|.q 1 C J .z) (aN _ _) O q x) ?_
   refine bc (by refine(?_:(aS c).length<=_);exact af 0 C 1048576 (.p 1 J 3<|.q 1 C J .z) (aN _ _) O s y) ?_
   have z:gd (aS b) U (Q<|-1) U++gd (aS c) (Q 1) U U=aS (iy b c):=by rw [Yj,Yn];unfold iy aS;rw [de]
   have V:(gd (aS b) U (Q<|-1) U).length+(gd (aS c) (Q 1) U U).length=(iy b c).length:=by rw [<-bN,z];exact aW _
   have a0:(iy b c).length<=2000:=by unfold iy;rw [bN,List.length_dropLast,List.length_tail];exact aK (zL (aK (lC _ _)<|dx q)<|aK (lC _ _) s)<|by decide
   refine bc (aK (dM V)<|by exact aK ‹_› (bA O)) ?_
   rw [show gd (b.map λu=>R.int (u:N)) U (Q<|-1) U++gd (c.map λu=>R.int (u:N)) (Q 1) U U=_ from z]
   refine sA (xC _) ?_
   exact bc (by exact af 0 (C+1) 1048576 (.p 1 (J+1) 100000<|.p 1 (aj+bo) (0+J) (.p 1 (C+1) (aj+bo) .z)) (di _ _ _ _) O l i f) d
  .rw [t] at d
   rw [show r++(bif ai then _ else [])=r from cZ _] at d
   exact d
 .exact g
theorem RO(f:eL a c V):∀b:M G,(∀d∈b,G.ren (cM a) d=Q d)->eL a (b++c) (b++V):=by
 intro g
 induction g with
 |nil=>exact λ_=>f
 |cons d b h=>exact λe=> .same O (e d<|.head _)<|h λi j=>e i<|.tail _ j
theorem YM(b:N->ag R):∀a c:M (I×R),R.rend b a=Q a->R.rend b c=Q c->R.rend b (a++c)=Q (a++c):=by
 intro j
 induction j with
 |nil=>exact λc _ k=>k
 |cons l a m=>
  obtain⟨f,e⟩:=l
  exact λc d n=>by
   have d:bL (R.ren b e) (λg=>(R.rend b a).map ((f,g):: ·))=Q ((f,e)::a):=d;refine(?_:bL (R.ren b e) (λg=>(R.rend b<|a++c).map ((f,g):: ·))=Q ((f,e)::(a++c)))
   cases i:R.ren b e with
   |none=>rw [i] at d;exact aU d
   |some g=>
    rw [i] at d
    cases h:R.rend b a with
    |none=>rw [h] at d;exact aU d
    |some o=>rw [h] at d;cases d;rw [m c h n];rfl
noncomputable def DH(a:cL)(b c d:R):M (I×R):=[("pick",a.pk),("order",.int a.od),("places",.tup [.int a.p0,.int a.p1]),("front",.str a.front),("tails",.loc 27),("many",.int a.m.length),("sizes",a.sz),("given",a.gv),("refusals",a.rf),("rules",b),("numbers",c),("ends",d)]
noncomputable def XX(a:cL)(b c:ag R)(d:M (M N)):M G:= (uH a {shelf:=Q<|.loc 29,kinds:=b,tape:=Q<|.loc 38,read:=c,parts:=Q<|.lst (d.map bJ)}).l.map .cell++ [.ns [],.ns [],.ns [],.ns [],a.o1,a.o2,.ns [],a.o3,.ns [],.ns [],.ns []]++rs++ [.ns [],.ns []]
def tN(a:cL)(g h:ag R)(i:M (M N))(c d e:R):Prop:=∀b,39<=b->R.rend (cM b) (DH a c d e)=Q (DH a c d e)/\∀f∈XX a g h i,G.ren (cM b) f=Q f
theorem yx(b:N->ag R):∀a:M N,R.rens b (aS a)=Q (aS a):=by
 intro c
 induction c with
 |nil=>exact O
 |cons d a e=>exact by refine(?_:(R.rens b<|aS a).map (λa=>R.int d::a)=_);rw [e];rfl
theorem CV(b:N->ag R):∀a:M (M N),R.rens b (a.map bJ)=Q (a.map bJ):=by
 intro d
 induction d with
 |nil=>exact O
 |cons c a e=>exact by refine(?_:bL ((R.rens b<|aS c).map R.lst) (λf=>(R.rens b<|a.map bJ).map λa=>f::a)=_);rw [yx b c,e];rfl
theorem GF:∀a:M (M N),R.datas (a.map bJ)=Q (a.map λc=>oM<|c.map λd=>ju (d:N)):=by
 intro e
 induction e with
 |nil=>exact O
 |cons b a f=>exact by refine(?_:bL ((R.datas<|aS b).map oM) (λg=>(R.datas<|a.map bJ).map (g:: ·))=_);rw [pe b,f];rfl
theorem Wn:∀a:M N,nq (a.map λb=>ju (b:N))=X/\oL (a.map λb=>ju (b:N))=0:=by
 intro c
 induction c with
 |nil=>exact⟨O,O⟩
 |cons g a d=>exact by revert d;refine aA λe f=> ?_;rw [da];simp [nq,oL,oK,sl,e,f]
theorem Df(c:M (M N)):ip (.list<|c.map λa=>oM<|a.map λb=>ju (b:N))=X:=by
 have e:nq (c.map λa=>oM<|a.map λb=>ju (b:N))=X/\oL (c.map λa=>oM<|a.map λb=>ju (b:N))<=1:=by
  induction c with
  |nil=>exact⟨O,cy _⟩
  |cons a f d=>rw [da];simp [nq,oL,oK,sl,Wn a] at d ⊢;exact⟨d.1,by exact Mb _ _ d⟩
 unfold ip oK sl;rw [e.1,ck (by have:=e.2;exact cd ‹_› (bA O))];rfl
noncomputable def BI(a:M (M N))(b:M I)(c:M (I×R)):M (I×R):=("layer",.lst (aX b))::("forms",.lst (a.map bJ))::c
theorem Bq(e:tN c9 c4 f2 e7 h L d2)(f:39<=a)(b:M (M N))(d:M I)(g:R.rend (cM a) D=Q D)(i:eL a c V):
 eL a (iD c9 c4 f2 e7 h L d2 b d (D++d8) c) (iD c9 c4 f2 e7 h L d2 b d D V):=by
 refine aA (λj k=> ?_)<|e a f
 have l:R.rend (cM a) (BI b d D)=Q (BI b d D):=by refine(?_:bL ((R.rens (cM a)<|aX d).map R.lst) (λm=>(bL ((R.rens (cM a)<|b.map bJ).map R.lst) (λn=>(R.rend (cM a) D).map ((_,n):: ·))).map ((_,m):: ·))=_);rw [CV,jB,g];rfl
 exact .same O O<|.ns (v:=DH c9 h L d2++BI b d D) (extra:=d8) O (YM _ _ _ j l) (RO i _ k)
noncomputable def uW(b:R):ag R:=match b with
 | .int a=>bif aI (a<256) then U else Q (.int a)
 |_=>U
theorem ah8:∀b:M N,(aS b).filterMap uW=aS (b.filter λc=> !aI (c<256)):=by
 intro d
 induction d with
 |nil=>exact O
 |cons a b e=>
  exact by
   have f:=e;unfold aS at*;rw [da,ii,f,kz];have g:uW (.int (a:N))=bif aI (a<256) then U else Q (.int (a:N)):=by refine(?_:(bif aI ((a:H)<256) then U else _)=_);rw [show aI ((a:H)<256)=aI (a<256) from xp.mpr<|by exact ao4 _]
   rw [g];cases aI (a<256)<;>rfl
noncomputable def lj(a:M N):ah:=aI<|(a.filter λb=> !aI (b<256))=[]
noncomputable def uV(a:R):ag R:=bif lj (qY a) then Q (bJ<|qY a) else U
theorem ah6:∀a:M (M N),(a.map bJ).filterMap uV=(a.filter lj).map bJ:=by
 intro b
 induction b with
 |nil=>exact O
 |cons c a d=>exact by rw [da,ii,d,kz];unfold uV;rw [pD];cases lj c<;>rfl
noncomputable def xU(a b c d e:N):N:=[c,d].getD ([au a,au b].idxOf<|au e) 0
noncomputable def iw(a:ca)(b:I):ah:=(gG a b&&&a.fin) !=0
noncomputable def mV(a b c d:N)(e:I):M N:=e.cps.toList.map<|xU a b c d
noncomputable def Hf(a b c d:N):R->ag R
 | .str e=>Q<|.int ([c,d].getD ([au a,au b].idxOf e) 0:N)
 |_=>U
theorem Vx(b c d e:N):∀a:M N,(a.map λf=>R.str ⟨#[f]⟩).filterMap (Hf b c d e)=aS (a.map<|xU b c d e):=by
 intro g
 induction g with
 |nil=>exact O
 |cons i a h=>exact by rw [da,ii,h];rfl
noncomputable def uX(b:ca)(c d e f:N):R->ag R
 | .str a=>bif iw b a then Q (bJ<|mV c d e f a) else U
 |_=>U
theorem ai4(a:ca)(b c d e:N):∀g:M I,(aX g).filterMap (uX a b c d e)=((g.filter<|iw a).map<|mV b c d e).map bJ:=by
 intro h
 induction h with
 |nil=>exact O
 |cons f g i=>exact by have j:=i;unfold aX at*;rw [da,ii,j,kz];rw [show uX a b c d e (.str f)=bif iw a f then Q (bJ<|mV b c d e f) else U from O];cases iw a f<;>rfl
theorem Pn(a:ca)(b:I):(nn (gG a b:N) (a.fin:N) !=0)=iw a b:=by rw [kd];unfold iw;cases gG a b&&&a.fin<;>rfl
theorem Qr(u:oU w)(v:oo w c9.P)(s:tN c9 (Q<|.lst [.int a,.int d]) c4 e7 h L d2)(x:∀j∈k9,j.length<1000)(K:k9.length<100000)(y:∀b∈a4,b.length<1000/\∀n∈b.cps.toList,n=c9.s0\/n=c9.s1)(P:a4.length<100000)(z:k9.filter lj=(a4.filter<|iw c9.P).map (mV c9.s0 c9.s1 a d))(q:aY->M G->Prop)(r:q .next (iD c9 (Q<|.lst [.int a,.int d]) c4 e7 h L d2 k9 a4 [("size",.int t)] [.ns [],.ns [],.ns []])):
 bz (bt w 19) ((uY.drop 1).take 1) (dL c9.q) (iD c9 (Q<|.lst [.int a,.int d]) c4 e7 h L d2 k9 a4 [("size",.int t)] [.ns []]) q:=by
 revert w c9 c4 e7 h L d2 a d k9 a4 t u v s x K y P z q r
 apply U12
 generalize P11 _=e7,Q11 _=k9,Q10 _=a4,Q9 _=a,Q8 _=d,Q7 _=t,Q6 _=h,Q5 _=L,Q4 _=d2,Q3 _=c4,Q2 _=w,Q1 _=c9
 intro u v s x K y P z q r
 revert r
 revert q
 apply U1
 generalize Z1 _=q
 intro r
 refine py uV _ (ah6 k9) cW O ?_ ?_ ?_ ?_
 .refine(?_:(k9.map bJ).length<_);rw [aW];exact aK ‹_› (bA O)
 .intro e f a0 l
  refine ac (λj S g=> ?_)<|cT.mp (show e∈ft bJ k9 from f);obtain rfl:=g
  have a8:=x j S
  have a1:(aS j).length=j.length:=aW _
  have l:=l _<|rF (by rfl) (Bq s (show 39<=46 by decide) k9 a4 (D:=[("size",.int t)]) (d8:=[]) O (c:=[.ns [],.ns [("form",bJ j)],.ns []]) (V:=[.ns [],.ns []])<|.same O O (.ns (v:=[]) (extra:=[_]) O O .nil))
  unfold uV at l;rw [pD] at l
  refine py uW _ (ah8 j) cW O (cd (dM a1)<|by exact aK ‹_› (bA O)) ?_ ?_ ?_
  .intro e f a2 o
   refine ac (λi a3 g=> ?_)<|cT.mp (show e∈aS j from f);obtain rfl:=g
   have o:=o _<|cG (by rfl) (by rfl) (rJ k9 a4 [("size",.int t)]<|.same O (.same O<|.ns (v:=[]) (extra:=[("symbol",.int i)]) O .nil))
   rw [show uW (.int (i:N))=bif aI ((i:H)<256) then U else Q (.int (i:N)) from O] at o
   refine u _ _ _ ?_
   refine fc (λk=> ?_) λk=> ?_
   .have A:aI ((i:H)<256)=ai:=by cases m:aI ((i:H)<256) with
     |false=>rfl
     |true=>rw [m] at k;exact cY k
    rw [A] at o
    exact o
   .have A:aI ((i:H)<256)=X:=by cases m:aI ((i:H)<256) with
     |true=>rfl
     |false=>rw [m] at k;exact gX k
    rw [A] at o
    exact o
  .intro e f B c
   refine ac (λi a3 g=> ?_)<|cT.mp (show e∈aS j from f);obtain rfl:=g
   rw [show uW (.int (i:N))=bif aI ((i:H)<256) then U else Q (.int (i:N)) from O] at c
   cases m:aI ((i:H)<256) with
   |true=>rw [m] at c;exact aU c
   |false=>rw [m] at c;(revert c;refine aL λp=> ?_;subst p);rfl
  .refine be (jy<|pe _) ?_
   refine bc ⟨ob _,O⟩ ?_
   rw [show my _ (.list [])=_ from GZ _ []]
   rw [show lj j=aI (qe (λi=> !aI (i<256)) j=[]) from O] at l
   refine fc (λk=> ?_) λk=> ?_
   .rw [k] at l
    conv=>whnf
    exact l
   .rw [k] at l;exact l
 .intro e f B c
  refine ac (λj S g=> ?_)<|cT.mp (show e∈ft bJ k9 from f);obtain rfl:=g
  unfold uV at c;rw [pD] at c
  cases m:lj j with
  |true=>rw [m] at c;(revert c;refine aL λp=> ?_;subst p);exact xC j
  |false=>rw [m] at c;exact aU c
 .conv=>whnf
  refine py (uX c9.P c9.s0 c9.s1 a d) _ (ai4 c9.P c9.s0 c9.s1 a d a4) cW O ?_ ?_ ?_ ?_
  .refine(?_:(a4.map R.str).length<_);rw [aW];exact aK ‹_› (bA O)
  .intro e f a0 l
   refine ac (λb T g=> ?_)<|cT.mp (show e∈a4.map R.str from f);obtain rfl:=g
   refine aA (λa9 a5=> ?_)<|y b T
   have D:=l _<|cG (by rfl) (by rfl) (rJ k9 a4 [("size",.int t)]<|.same O (.same O<|.ns (v:=[]) (extra:=[("text",.str b)]) O .nil))
   have E:=l _<|rF (by rfl) (Bq s (show 39<=47 by decide) k9 a4 (D:=[("size",.int t)]) (d8:=[]) O (c:=[.ns [],.ns [],.ns [("text",.str b)],.ns []]) (V:=[.ns [],.ns [],.ns []])<|.same O O (.same O O<|.ns (v:=[]) (extra:=[_]) O O .nil))
   rw [show uX c9.P c9.s0 c9.s1 a d (.str b)=bif iw c9.P b then Q (bJ<|mV c9.s0 c9.s1 a d b) else U from O] at D E
   refine v _ _ _ ?_
   conv=>whnf
   rw [Pn]
   refine fc (λk=> ?_) λk=> ?_
   .rw [k] at E
    refine py (Hf c9.s0 c9.s1 a d) _ (Vx c9.s0 c9.s1 a d b.cps.toList) cW O ?_ ?_ ?_ ?_
    .refine(?_:(b.cps.toList.map _).length<_);rw [aW];have:b.cps.toList.length=b.length:=O;exact aK ‹_› (bA O)
    .intro e f a2 o
     refine ac (λn V g=> ?_)<|cT.mp (show e∈b.cps.toList.map _ from f);obtain rfl:=g
     have Y:au n∈[au c9.s0,au c9.s1]:=by
      obtain rfl|rfl:=a5 n V
      .exact .head _
      .exact .tail _<|.head _
     have Z:[au c9.s0,au c9.s1].idxOf (au n)<2:=zA Y
     have a6:[R.int a,R.int d][[au c9.s0,au c9.s1].idxOf (au n)]? =Q (R.int ([a,d].getD ([au c9.s0,au c9.s1].idxOf<|au n) 0:N)):=by
      generalize [au c9.s0,au c9.s1].idxOf (au n)=a7 at Z
      match a7,Z with|0,_=>rfl|1,_=>rfl
     refine bc ⟨Y,show 2<1048576 by decide⟩ ?_
     refine fL O a6 (show 2<1048577 by decide) ?_
     exact o _<|cG (by rfl) (by rfl) (rJ k9 a4 [("size",.int t)]<|.same O (.same O<|.same O (.ns (v:=[]) (extra:=[_]) O .nil)))
    .intro e f B c
     refine ac (λn V g=> ?_)<|cT.mp (show e∈b.cps.toList.map _ from f);obtain rfl:=g
     (revert c;refine aL λp=> ?_;subst p);rfl
    .exact E
   .rw [k] at D;exact D
  .intro e f B c
   refine ac (λb T g=> ?_)<|cT.mp (show e∈a4.map R.str from f);obtain rfl:=g
   rw [show uX c9.P c9.s0 c9.s1 a d (.str b)=bif iw c9.P b then Q (bJ<|mV c9.s0 c9.s1 a d b) else U from O] at c
   cases m:iw c9.P b with
   |true=>rw [m] at c;(revert c;refine aL λp=> ?_;subst p);exact xC _
   |false=>rw [m] at c;exact aU c
  .rw [z]
   refine be (jy<|GF _) ?_
   refine be (jy<|GF _) ?_
   refine bc ⟨Df _,Df _⟩ ?_
   rw [nr _ (lF<|Df _)]
   exact r
noncomputable def oe(b c:N)(d:M I):M I:=d.flatMap λa=> [a++au b,a++au c]
noncomputable def SF(a:I):R->M R
 | .str b=> [.str (a++b)]
 |_=> []
noncomputable def Hg(b c:N):R->M R
 | .str a=> [.str (a++au b),.str (a++au c)]
 |_=> []
theorem WG(b c:N):∀a:M I,(aX a).flatMap (Hg b c)=aX (oe b c a):=by
 intro d
 induction d with
 |nil=>exact O
 |cons g a e=>exact by have f:=e;unfold aX oe at*;rw [da,eT,f,eT];rfl
noncomputable def nO(a:M (M N)):N->M (M N)
 |0=> [[256]]
 |b+1=>je a<|nO a b
noncomputable def nP(a b:N):N->M I
 |0=> [""]
 |c+1=>oe a b<|nP a b c
structure ox(x:ca)(h i y Y:N)(j:M (M N)):Prop where
 fl:∀c,c<=4->∀Z∈nO j c,Z.length<1000
 fn:∀c,c<=4->(nO j c).length<100000
 ll:∀c,c<=4->∀o∈nP h i c,o.length<1000/\∀v∈o.cps.toList,v=h\/v=i
 ln:∀c,c<=4->(nP h i c).length<100000
 eq:∀c,c<4->(nO j<|c+1).filter lj=((nP h i c).filter<|iw x).map (mV h i y Y)
theorem Qs(g:∀b∈a4,b.length<1000)(i:(oe c9.s0 c9.s1 a4).length<100000)(c:aY->M G->Prop)
 (d:c .next (iD c9 c4 f2 e7 h L d2 k9 (oe c9.s0 c9.s1 a4) [("size",.int a)] [.ns [],.ns [],.ns [],.ns []])):
 bz (bt w 19) (uY.drop 2) (dL c9.q) (iD c9 c4 f2 e7 h L d2 k9 a4 [("size",.int a)] [.ns [],.ns [],.ns []]) c:=by
 revert w c9 c4 f2 e7 h L d2 k9 a4 a g i c d
 apply U11
 generalize P10 _=e7,Q10 _=k9,Q9 _=a4,Q8 _=a,Q7 _=h,Q6 _=L,Q5 _=d2,Q4 _=c4,Q3 _=f2,Q2 _=w,Q1 _=c9
 intro g i c d
 revert d
 revert c
 apply U1
 generalize Z1 _=c
 intro d
 refine lV (j:=λp c q=>iY _ _ _ q λr s t u=>kR _ _ _ [] _ r s t p u c) (Hg c9.s0 c9.s1) _ (WG c9.s0 c9.s1 a4) cW O ?_ d
 intro j e m B f v
 refine ac (λb x y=> ?_)<|cT.mp (show j∈a4.map R.str from e);obtain rfl:=y
 have D:=g b x
 have f:m.length+2<=0+(aX<|oe c9.s0 c9.s1 a4).length:=f
 rw [show(aX<|oe c9.s0 c9.s1 a4).length=_ from aW _] at f
 refine lV (c:=iD c9 c4 f2 e7 h L d2 k9 a4 [("size",.int a)] [.ns [],.ns [],.ns [],.ns [("text",.str b)]]) (SF b) [.str (b++au c9.s0),.str (b++au c9.s1)] O cW O ?_<|v _ (cG (by rfl) (by rfl)<|rJ k9 a4 [("size",.int a)] (.same O<|.same O (.same O<|.ns (v:=[]) (extra:=[_]) O .nil)))
 intro j e n E k z
 have e:∃o:N,j= .str (au o):=by
  obtain l|l:=bO.mp e
  .exact⟨_,l⟩
  .exact⟨_,bU.mp l⟩
 revert e;refine ay λo A=> ?_;obtain rfl:=A
 have k:n.length+1<=m.length+2:=k
 refine bc (by refine(?_:b.length+1<=_);exact aK ‹_› (bA O)) ?_
 refine bc (by refine(?_:n.length<_);exact af 0 (C+1) 1048576 (.p 1 (J+1) 100000<|.p 1 (aj+2) (0+J) (.p 1 (C+1) (aj+2) .z)) (bk _ _ _) O i f k) ?_
 exact z _<|cG (by rfl) (by rfl) (rJ k9 a4 [("size",.int a)]<|.same O (.same O<|.same O (.ns (v:=[("text",.str b)]) (extra:=[_]) O .nil)))
theorem QO(a:aY->M G->Prop)(b:a .next (iD c9 c4 f2 e7 h L d2 [[256]] [""] [] [])):
 bz (bt w 20) (((bu 74).drop 22).take 1) (dL c9.q) (eF c9 {shelf:=Q<|.loc 29,kinds:=c4,tape:=Q<|.loc 38,read:=f2,parts:=Q<|.lst (e7.map bJ)} [("rules",h),("numbers",L),("ends",d2)]<|rs++ [.ns [],.ns []]) a:=by
 exact b
theorem QQ(a:aY->M G->Prop)(b:M G)(c:a (.ret<|.bool X) b): bz (bt w 20) ((bu 74).drop 24) (dL c9.q) b a:=c
theorem ae5(c:bG)(f:M cD):∀(e:M cD) (a:bf) (b:M G) (d:aY->M G->Prop),bz c (e++f) a b d=bz c e a b (md (bz c f) a d):=by
 intro g
 induction g with
 |nil=>exact λ_ _ _=>O
 |cons h e i=>
  exact λa b d=>bq (c.S h a b) (vc λj=>vc λb=>by
   cases j with
   |next=>exact i a b d
   |_=>rfl)
theorem Dm(a:N)(b:bz u (d4.take a) o c (md (bz u<|d4.drop a) o Z)):bz u d4 o c Z:=by rw [<-ae5,kA] at b;exact b
def Mr(b:cL)(f g:ag R)(c:M (M N))(h i j:R)(k:M R)(l:M G):Prop:=∀d:M G->Prop,(∀(a e:N) (m:a+e=4) (n:k=tp a e),d (iD b f g c h i j (nO c a) (nP b.s0 b.s1 a) [] []))->d l
def rM(a:M G):Prop:=∃b,a[0]? =Q (.ctab b)
theorem QP(m:oU w)(n:oo w c9.P)(k:tN c9 (Q<|.lst [.int a,.int d]) c4 e7 h L d2)(o:∀s∈e7,s.length<=3)(e:ox c9.P c9.s0 c9.s1 a d e7)(g:aY->M G->Prop)
 (i:∀q,rM q->g .next q):
 bz (bt w 20) (((bu 74).drop 23).take 1) (dL c9.q) (iD c9 (Q<|.lst [.int a,.int d]) c4 e7 h L d2 [[256]] [""] [] []) g:=by
 revert w c9 c4 e7 h L d2 a d m n k o e g i
 apply U9
 generalize P8 _=e7,Q8 _=a,Q7 _=d,Q6 _=h,Q5 _=L,Q4 _=d2,Q3 _=c4,Q2 _=w,Q1 _=c9
 intro m n k o e g i
 revert i
 revert g
 apply U1
 generalize Z1 _=g
 intro i
 refine bc ⟨by decide,by decide⟩ ?_
 refine bc (by decide) ?_
 refine⟨Mr c9 (Q<|.lst [.int a,.int d]) c4 e7 h L d2,⟨_,pL _,λ_ p=>p 0 4 O O⟩,?_,?_,?_⟩
 .intro t r f
  apply f;clear f;intro b j c l
  exact⟨cW,O⟩
 .intro y t r f
  apply f;clear f;intro b j c l
  cases j with
  |zero=>exact hq l
  |succ j=>
   (revert l;refine gW λu v=> ?_;subst u;subst v)
   refine FS (V:=iD c9 (Q<|.lst [.int a,.int d]) c4 e7 h L d2 (nO e7 b) (nP c9.s0 c9.s1 b) [("size",.int b)] []) O ?_
   refine Dm (d4:=uY) 1<|Qq (e.fl b<|by exact af 0 C 4 (.q 1 (C+(J+1)) 4 .z) (aN _ _) O c) o (e.fn (b+1)<|by exact af 0 (C+1) 4 (.q 1 (C+(J+1)) 4 .z) (aN _ _) O c) _ ?_
   refine Dm (d4:=uY.drop 1) 1<|Qr m n k (e.fl (b+1)<|by exact af 0 (C+1) 4 (.q 1 (C+(J+1)) 4 .z) (aN _ _) O c) (e.fn (b+1)<|by exact af 0 (C+1) 4 (.q 1 (C+(J+1)) 4 .z) (aN _ _) O c) (e.ll b<|by exact af 0 C 4 (.q 1 (C+(J+1)) 4 .z) (aN _ _) O c) (e.ln b<|by exact af 0 C 4 (.q 1 (C+(J+1)) 4 .z) (aN _ _) O c) (e.eq b<|by exact af 0 (C+1) 4 (.q 1 (C+(J+1)) 4 .z) (aN _ _) O c) _ ?_
   refine Qs (λx f=>(e.ll b (by exact af 0 C 4 (.q 1 (C+(J+1)) 4 .z) (aN _ _) O c) x f).1) (e.ln (b+1)<|by exact af 0 (C+1) 4 (.q 1 (C+(J+1)) 4 .z) (aN _ _) O c) _ ?_
   exact⟨_,rF (by rfl)<|Bq k (show 39<=44 by decide) (nO e7<|b+1) (nP c9.s0 c9.s1<|b+1) (D:=[]) (d8:=[("size",.int b)]) O .nil,λ_ p=>p (b+1) j (by rw [<-c,fg];rfl) O⟩
 .intro r f
  apply f;clear f;intro b j c l
  exact i _ ⟨_,O⟩
def gA(g:N)(h:R)(i:M R)(j:M (I×R))(k:M G)(l:aQ):Prop:= ∀(d:bR) (b:ar) (a:al) (c:aa) (e:M aa) (f:M (I×aa)),br g 0 d->am b k a-> aR a.heap b c h->dN a.heap b e i->iq a.heap b f j->ie a c/\an (az aq ap) d (dF c e f) (bg b a l) aB a
noncomputable def ar.sub(a:ar)(b:M N):ar:=⟨b.map (a.l.getD · U),(a.l.filterMap id).filter (λc=> !(b.map (a.l.getD · U)).contains (Q c))++a.p⟩
noncomputable def hN(a:M N)(b:N):ag R:=bif a.contains b then Q (.loc<|a.idxOf b) else U
noncomputable def sG(c:M N)(d:M G)(a:N):ag R:=match c[a]? with
 |some e=>Q<|.loc e
 |none=>match d[a]? with
  |some (.list b)=>bif R.flats b then Q (.lst b) else U
  |_=>U
theorem Tq(b:i1.getD a U=Q j):i1[a]? =Q (Q j):=by
 rw [ed] at b
 cases c:i1[a]? with
 |none=>rw [c] at b;exact aU b
 |some d=>rw [c] at b;exact bq Q b
theorem og(c:(b.sub m).l[a]? =Q (Q j)):∃d,m[a]? =Q d/\b.l[d]? =Q (Q j):=by have c:(m.map (b.l.getD · U))[a]? =Q (Q j):=c;rw [gj] at c;refine ac (λd e f=> ?_)<|zX.mp c;exact⟨d,e,Tq f⟩
theorem Du(c:Q j∈(b.sub m).l):Q j∈b.l:=by refine ay (λd a=> ?_)<|kX c;refine ac (λe f a=> ?_)<|og a;exact iZ a
theorem Dt:bh b j↔bh (b.sub m) j:=by
 constructor
 .intro c
  refine⟨λa=>c.1<|Du a,λa=> ?_⟩;obtain a|a:=dQ.mp a
  .refine ac (λf e d=> ?_)<|qj.mp (rX.mp a).1;subst d;exact c.1 e
  .exact c.2 a
 .intro c
  refine⟨λa=> ?_,λa=>c.2<|dQ.mpr (.inr a)⟩;refine c.2<|dQ.mpr (.inl<|rX.mpr ⟨qj.mpr ⟨_,a,O⟩,?_⟩)
  have:(m.map (b.l.getD · U)).contains (Q j)=ai:=by
   cases d:(m.map (b.l.getD · U)).contains (Q j) with
   |false=>rfl
   |true=>exact bD (zs.mp d) c.1
  rw [this];rfl
theorem BQ(b:a∈m):m[m.idxOf a]? =Q a:=by have c:=zA b;rw [gz c,List.getElem_idxOf]
theorem yC(k:am b c e):iU e.heap b (b.sub m) (hN m) where
 at_:=λf l g a h=>by
  unfold hN at a
  cases d:m.contains f with
  |false=>rw [d] at a;exact aU a
  |true=>rw [d] at a;(revert a;refine aL λi=> ?_;subst i);refine .loc ?_;show(m.map (b.l.getD · U))[_]? =_;rw [gj,BQ (zs.mp d)];show Q (b.l.getD f U)=_;rw [ed,h];rfl
 fz:=λg j=>Dt.mp j
def FG(a:M N)(g b:M G):Prop:=b.length=a.length/\∀(c d:N) (e:G),a[c]? =Q d->b[c]? =Q e->∃f,g[d]? =Q f/\G.ren (hN a) f=Q e
theorem ac5(d:am b c e)(u:m.Nodup)(s:FG m c V):am (b.sub m) V e where
 len:=by refine(?_:(m.map _).length=_);rw [aW,s.1]
 inj:=λl A a o p=>by refine ac (λf n q=> ?_)<|og o;refine ac (λv i g=> ?_)<|og p;cases d.inj f v a q g;exact(List.getElem?_inj (fq.mp n).1 u).mp<|n.trans i.symm
 mo:=λl a t o p=>by refine ac (λf n q=> ?_)<|og o;refine ac (λw i g=> ?_)<|s.2 l f t n p;exact(d.mo f a w q i).ren (yC d) g
 base:=d.base
 out:=λl a j=>(by refine ac (λf x h=> ?_)<|og j;exact d.out f a h)
 ex:=λl a j=>(by refine ac (λf x h=> ?_)<|og j;exact d.ex f a h)
 prv:=λa y=>by
  obtain k|k:=dQ.mp y
  .refine aA (λi g=> ?_)<|rX.mp k;refine ac (λt z j=> ?_)<|qj.mp i;subst j;refine ay (λf h=> ?_)<|kX z;refine⟨d.out f a h,λr=> ?_,d.ex f a h⟩;rw [zs.mpr (show Q a∈m.map (b.l.getD · U) from r)] at g;exact cY g
  .exact⟨(d.prv a k).1,λr=>(d.prv a k).2.1<|Du r,(d.prv a k).2.2⟩
 tk:=d.tk
def FJ(b:M N)(d e c:M G):Prop:=c.length=d.length/\(∀a:N,a∉b->c[a]? =d[a]?)/\∀(f a:N) (g:G),b[f]? =Q a->c[a]? =Q g->∃h,e[f]? =Q h/\G.ren (sG b e) h=Q g
theorem Ko(s:am b c e)(g:aH (b.sub m) e x S)(t:am x V S):iU S.heap x b (sG m V) where
 fz:=λk h=>by refine(Dt (m:=m)).mpr ⟨λf=> ?_,λf=>h.2<|g.p▸f⟩;refine ay (λd l=> ?_)<|kX f;exact h.1<|iZ (g.at l)
 at_:=λd f k a n=>by
  unfold sG at a
  cases i:m[d]? with
  |some D=>
   rw [i] at a;(revert a;refine aL λj=> ?_;subst j);have o:d<(b.sub m).l.length:=by refine(?_:d<(m.map _).length);rw [aW];exact(fq.mp i).1
   refine ac (λE r u=> ?_)<|og ((g.pre d o).symm.trans n);rw [i] at r;(revert r;refine aL λj=> ?_;subst j);exact .loc u
  |none=>
   rw [i] at a
   cases p:V[d]? with
   |none=>rw [p] at a;exact aU a
   |some v=>
    rw [p] at a
    cases v with
    |list w=>
     dsimp only at a
     cases q:R.flats w with
     |false=>rw [q] at a;exact aU a
     |true=>
      rw [q] at a;(revert a;refine aL λj=> ?_;subst j);refine ac (λK y z=> ?_)<|t.mo d k _ n p;have o:(b.sub m).l.length<=d:=by refine(?_:(m.map _).length<=d);rw [aW];exact zx.mp i
      have A:=g.new d k o n;have B:bh b k:=s.fresh A;refine .lst B y<|z.flat_to (λL h=> ?_) q;refine(Dt (m:=m)).mpr ⟨λf=> ?_,λf=>h.2<|g.p▸f⟩;refine ay (λP l=> ?_)<|kX f;exact h.1<|iZ (g.at l)
    |_=>exact aU a
theorem ac4(d:am b c e)(i:aH (b.sub m) e x S)(n:am x V S)(o:FJ m c V l4):aH b e b S/\am b l4 S:=by
 have w:=Ko d i n;have p:∀j g,Q j∉(b.sub m).l->e.heap.get? j=Q g->S.heap.get? j=Q g:=i.keep;have u:aH b e b S:=⟨ba _,λ_ _=>O,λ_ _ k h=>bD (fO h)<|cq.mpr k,O,λj g y h=>p j g (λl=>y<|Du l) h,i.live,i.gens,i.drawn,i.os⟩
 refine⟨u,o.1▸d.len,d.inj,λf a v q r=> ?_,λj g h=> ?_,d.out,λf a h=>i.live a<|d.ex f a h,λa s=>⟨(d.prv a s).1,(d.prv a s).2.1,i.live a (d.prv a s).2.2⟩,n.tk⟩
 .by_cases k:f∈m
  .refine ac (λg z A=> ?_)<|o.2.2 _ f v (BQ k) r
   have Y:m.idxOf f<(b.sub m).l.length:=by show _<(m.map _).length;rw [aW];exact zA k
   have B:(b.sub m).l[m.idxOf f]? =Q (Q a):=by show(m.map (b.l.getD · U))[_]? =_;rw [gj,BQ k];show Q (b.l.getD f U)=_;rw [ed,q];rfl
   exact(n.mo _ a g (i.at B) z).ren w A
  .rw [o.2.1 f k] at r
   have D:Q a∉(b.sub m).l:=λl=>by refine ay (λE h=> ?_)<|kX l;refine ac (λK L P=> ?_)<|og h;cases d.inj f K a q P;exact k<|jP L
   exact(d.mo f a v q r).car u.car λg t=>p a g D t
 .refine p j g (λl=> ?_)<|d.base j g h;refine ay (λE T=> ?_)<|kX l;refine ac (λf Z t=> ?_)<|og T;rw [d.out f j t] at h;exact aU h
theorem vy(b:M N)(m:b.Nodup)(n:FG b c V)(o:R.ren (hN b) h=Q L)(p:R.rens (hN b) q=Q d5)(r:R.rend (hN b) D=Q d8)
 (t:gA a L d5 d8 V i8) (u:∀d f,i8 d f->∃g i,R.ren (sG b f) d=Q g/\FJ b c f i/\s g i):gA a h q D c s:=by
 intro v j w x y z A e B E K
 refine aA (λP S=> ?_)<|t v (j.sub b) w x y z A (ac5 e m n) (B.ren (yC e) o) (E.ren (yC e) p) (K.ren (yC e) r)
 refine⟨P,eO S (λa5 a6 T=> ?_) λ_ _ d=>d⟩
 obtain⟨a7,f,d,k,l,Y,Z⟩:=T
 refine dd (λg i a0 a1 a2=> ?_)<|u d f Z
 refine aA (λa3 a4=> ?_)<|ac4 e k l a1
 exact⟨j,i,g,a3,a4,Y.ren (Ko e k l) a0,a2⟩
theorem aD0(e:gA a h q D c i8)(f:∀b d,i8 b d->s b d):gA a h q D c s:=by intro g i j k l m n o p r t;refine aA (λu v=> ?_)<|e g i j k l m n o p r t;exact⟨u,eO v (λE K w=>(by obtain⟨x,d,b,y,z,A,B⟩:=w;exact⟨x,d,b,y,z,A,f _ _ B⟩)) λ_ _ b=>b⟩
def sw(c:bf):M (I×R)->M G->(M G->Prop)->Prop
 |[],a,b=>b a
 |d::e,a,b=>cm (mT c a d.1 d.2) λf=>sw c e f b
def Km(a:aQ)(c:aY)(b:M G):Prop:=match c with
 | .next=>a .none b
 | .ret d=>a d b
 |_=>cn
class inductive df(b:bG)(c:bf):M cD->M G->(aY->M G->Prop)->Prop
 |one {h:M cD} {d:M G} {a:aY->M G->Prop}:bz b h c d a->df b c h d a
 |seq {i j:M cD} {d:M G} {f a:aY->M G->Prop}:bz b i c d f->(∀e,f .next e->df b c j e a)->(∀g e,(g= .next->cn)->f g e->a g e)->df b c (i++j) d a
def xE(e:bG)(f:M cD)(a:dJ)(c:I)(d:ag N)(g:M (I×R))(b:M G)(h:aY->M G->Prop):Prop:= sw ⟨a,b.length,gH a.names (b.length+1) [],c,d⟩ g (b++ .ns []::ho a.names) λi=>df e ⟨a,b.length,gH a.names (b.length+1) [],c,d⟩ f i h
theorem Kv:∀{e:M (I×R)} {a:ar} {c:M G} {b:al} {d:M G->Prop},iq b.heap a b5 e->sw o e c d->am a c b->bp f n a p o->
 an (az aq ap) f (mn b5 wB λ(l:I×aa) (_:zY)=>do Fx p l.1 l.2;dj (rN wB)) (fy a b λ_ q=>d q) aB b:=by
 revert f n p o b5
 apply U5
 generalize P4 _=f,Q4 _=n,Q3 _=p,Q2 _=b5,Q1 _=o
 induction b5 with
 |nil=>intro e a c b d g h i j;cases g;rw [En];exact bP ⟨a,c,aH.refl a b,i,h⟩
 |cons z b5 r=>
  intro e a c b d g h i j
  cases g with|cons s t=>
  refine ac (λm u v=> ?_)<|cF h
  rw [qf]
  refine aJ<|aJ (bQ (tu (e0:=λm=>sw o _ m d) i j s u v) λ_ A ⟨B,D,k,w,x⟩=>bP ?_)
  exact bQ (r (k.reld t) x w<|j.ext k) λ_ _ y=>y.trans k
theorem Dl{j:aY->M G->Prop}(k:∀a q,(a= .next->cn)->Z a q->j a q)
 (s:∀{b r e},bz u d4 o r Z->am b r e->bp f n b p o->an (az aq ap) f (jY (d4++l7) p) (dV b e j) aB e)
 (t:bp f n b p o) (v:an (az aq ap) f (jX m7 p) (dV b e<|md (bz u d4) o Z) aB e):an (az aq ap) f (jY (m7::(d4++l7)) p) (dV b e j) aB e:=by
 refine oR<|bQ v λa A w=> ?_
 obtain⟨l,m,x,d,h,c,i⟩:=w
 cases x with
 |next=>
  cases a with
  |next=>exact bQ (s i h<|t.ext d) λ_ _ y=>y.trans d
  |_=>exact c.elim
 |brk=>cases a with
  |brk=>exact⟨l,m,.brk,d,h,c,k _ _ (λg=>(by cases g)) i⟩
  |_=>exact c.elim
 |cont=>cases a with
  |cont=>exact⟨l,m,.cont,d,h,c,k _ _ (λg=>(by cases g)) i⟩
  |_=>exact c.elim
 |ret z=>cases a with
  |ret B=>exact⟨l,m,.ret z,d,h,c,k _ _ (λg=>(by cases g)) i⟩
  |_=>exact c.elim
theorem KC{l:aY->M G->Prop}(q:sr n a d u.S)(r:br a d f)(s:∀m g,(m= .next->cn)->Z m g->l m g)
 (t:∀b c g,Z .next g->am b g c->bp f n b p o->an (az aq ap) f (jY d4 p) (dV b c l) aB c):
 ∀{k:M cD} {b:ar} {h:M G} {c:al},bz u k o h Z->am b h c->bp f n b p o->an (az aq ap) f (jY (k++d4) p) (dV b c l) aB c:=by
 intro k
 induction k with
 |nil=>exact @λb h c i j e=>t b c h i j e
 |cons w x v=>exact @λb h c i j e=>Dl s (λi j e=>v i j e) e<|q _ _ _ _ i f p b c r j e
theorem KB(j:sr n a d u.S)(k:br a d f)(i:df u o d4 c Z):
 ∀{g:ar} {h:al},am g c h->bp f n g p o->an (az aq ap) f (jY d4 p) (dV g h Z) aB h:=by
 induction i with
 |one i=>exact λb e=>tt j k i b e
 |seq l t m q=>exact λb e=>KC j k m (λg h r s b e=>q r s b e) l b e
theorem ZK{g:Ah}{i:ag N}(m:jh n e6 a)(A:fJ n a d u)(o:br a (d+1) f)(p:am b c e)(B:∀k b1,Z k b1->Km s k b1)(q:e.heap.get? j=Q g3)(r:g3.data= .func g)(E:g.body= .stmts d4)(L:e.heap.CodeRec g.code g.qualname)(P:g.globals=gC)(S:g.builtins=kG)(T:g.closure=[])(V:g.scope.isCoroutine=ai)(Y:g.scope.isGenerator=ai)(t:g.scope.kind= .function)(a0:g.scope.names.lookup ("__debug__":I)=U)(a1:g.scope.names.lookup ("__classdict__":I)=U)(a2:BindsTo e g ⟨K,b5⟩ l1)(a3:iq e.heap b l1 D)(v:n=X->f.frames=Q []/\c.length=1)(a4:∀h,i=Q h->∃w x,g.code= .ref w/\b.l[h]? =Q (Q x)/\wL bM w x)(a5:xE u d4 g.scope (g.qualname++bC ".<locals>.") i D c Z):ie e (.ref j)/\an (az aq ap) f (dF (.ref j) K b5) (bg b e s) aB e:=by
 revert e6 a d u b c e f n j g3 g d4 K b5 l1 D i s Z m A o p B q r E L P S T V Y t a0 a1 a2 a3 v a4 a5;apply U20;generalize P19 _=j,Q19 _=f,Q18 _=n,Q17 _=b5,Q16 _=l1,Q15 _=d4,Q14 _=K,Q13 _=a,Q12 _=d,Q11 _=g3,Q10 _=e,Q9 _=D,Q8 _=c,Q7 _=b,Q6 _=s,Q5 _=Z,Q4 _=u,Q3 _=e6,Q2 _=g,Q1 _=i;intro m A o p B q r E L P S T V Y t a0 a1 a2 a3 v a4 a5;refine⟨.inr<|.inr ⟨j,g3,g,O,q,r⟩,?_⟩;refine AC<|Fk (by have:=o.d;refine(?_:f.depth<1000);exact af 0 (C+1) 1000 (.p 1 (C+(J+1)+aj+1) 1000 .z) (bk _ _ _) O this) q r V Y E L (a2 _ _ _ _ ?_);have d1:e.heap.NoLimit:=m.gl.lim.keeps p.base;rw [T,P,S] at ⊢;refine xw p (l0:=[]) (g8:=[]) eG λb2 d2 c1 y d3 c2 h b3=> ?_;have b4:∀a6 a7,(a7=X->nE a6 b2)->bp a6 a7 b2 (qA g.scope e.heap.objs.size gC c1 (g.qualname++bC ".<locals>.") (Q j) g.code U kG) ⟨g.scope,c.length,gH g.scope.names (c.length+1) [],g.qualname++bC ".<locals>.",i⟩:=λa6 a7 c3=>⟨c3,O,t,b3,h,O,O,a0,a1,O,λh c4=>(by refine dd (λw x c5 c6 c7=> ?_)<|a4 h c4;exact⟨w,x,c5,y.at c6,c7⟩)⟩
 refine bQ (Kv (a3.car y.car) a5 c2<|b4 _ ai λz=>(by exact cY z)) λ_ d5 ⟨d6,d7,a8,b6,c8⟩=>⟨m.gl.lim.keeps b6.base,Fl ?_⟩
 refine eO (KB A.S (o.deep _) c8 b6<|(b4 _ n λz=>⟨_,e.heap.objs.size,by refine(?_:f.frames.map _=_);rw [(v z).1] at ⊢;rfl,O,by refine(?_:g.scope.kind≠_);rw [t] at ⊢;decide,(v z).2▸b3⟩).ext a8) (λk d8 c9=> ?_) λ_ _ a9=>a9.elim;obtain⟨b7,b8,a9,b9,c0,b0,l⟩:=c9
 have l:=B _ _ l
 cases a9 with
 |next=>cases k with
  |next=>exact⟨b7,b8,.none,(y.trans a8).trans b9,c0,.none,l⟩
  |_=>exact b0.elim
 |ret d0=>cases k with
  |ret d9=>exact⟨b7,b8,d0,(y.trans a8).trans b9,c0,b0,l⟩
  |_=>exact b0.elim
 |_=>exact l.elim
structure oy(h:N)(a0:aa)(a1:M aa->M (I×aa)->M (I×aa)->Prop):Prop where
 ex:∃i j c,a0= .ref i/\bM.get? i=Q j/\j.data= .func c/\c.body= .stmts (bu h)/\bM.CodeRec c.code c.qualname/\c.globals=gC/\c.builtins=kG/\c.closure=[]/\c.scope=bI h/\ ∀o:al,(∀v x,bM.get? v=Q x->o.heap.get? v=Q x)->∀y Y Z,a1 y Y Z->BindsTo o c ⟨y,Y⟩ Z
noncomputable def rD(a:dJ):ah:=a.kind== .function&& !a.isGenerator&& !a.isCoroutine&&(a.names.lookup ("__debug__":I)).isNone&&(a.names.lookup ("__classdict__":I)).isNone
def pR(g:M aa->M (I×aa)->M (I×aa)->Prop)(h:M R)(i j:M (I×R)):Prop:= ∀(a:ao->Prop) (b:aT) (c:ar) d e,cb a b c d h->eA a b c e i->∃f,g d e f/\eA a b c f j
theorem Kd(c:i.CodeRec k g)(d:∀a b,i.get? a=Q b->c0.get? a=Q b):c0.CodeRec k g:=c.keeps d
theorem ko(e:jh ai e6 a)(f:a+21<=d)(h:oy t k j1)(b:rD (bI t)=X)(i:pR j1 q D d8)(j:∀l o,Z l o->Km s l o)(m:∀y,xE (bt e6 20) (bu t) (bI t) y U d8 c Z):gA d (.raw k) q D c s:=by
 revert e6 a c d t k j1 q D d8 s Z e f h b i j m;apply U12;generalize P11 _=j1,Q11 _=a,Q10 _=d,Q9 _=t,Q8 _=k,Q7 _=D,Q6 _=d8,Q5 _=q,Q4 _=c,Q3 _=s,Q2 _=Z,Q1 _=e6;intro e f h b i j m;intro a8 a9 z l b0 b1 n g A B E;cases A;obtain⟨b2,b3,b4,rfl,K,L,P,S,T,V,Y,p,a0⟩:=h.ex
 refine ac (λb5 a1 a2=> ?_)<|i _ _ _ _ _ B E;unfold rD at b;simp only [eJ,lr,uh,fX] at b;revert b;refine aA λa3 r=> ?_;refine aA (λa4 u=> ?_)<|a3;refine aA (λa5 v=> ?_)<|a4;refine aA (λw x=> ?_)<|a5;rw [<-p] at w x v u r;refine ZK e (mf e 20) ⟨n.hh,by have:=n.d;exact af 0 (C+(20+1)+J+1) 1000 (.p 1 (J+21) aj<|.p 1 (C+0+aj+1) 1000 .z) (bk _ _ _) O f this,by have:=n.u;exact af 0 (((C+(bn 20<|20+1+J))+90)+1) aj (.p 20 (J+21) bo<|.p 1 (((C+(bn 20<|0+bo))+90)+1) aj .z) (di _ _ _ _) O f this⟩ g j (g.base _ _ K) L P (Kd S g.base) T V Y v x w u r (a0 z g.base _ _ _ a1) a2 (i:=U) (λa6=>(by exact cY a6)) (λb6 a7=>(by exact aU a7)) ?_;rw [p];exact m _
theorem AV(b:d<a):cM a d=Q (.loc d):=by unfold cM;rw [ck b];rfl
theorem bi.bel(a:bi y i b k h):R.ren (Mine.Internal.cM b.l.length) h=Q h:=a.fix<|.inr λ_ _ c=>AV<|fO c
theorem cJ.bel(a:cb y i b K q):R.rens (Mine.Internal.cM b.l.length) q=Q q:=a.fix _ _<|.inr λ_ _ c=>AV<|fO c
theorem eI.bel(a:eA y i b b5 D):R.rend (Mine.Internal.cM b.l.length) D=Q D:=a.fix _ _<|.inr λ_ _ c=>AV<|fO c
theorem ew.drop(d:iU c0 x ⟨x.l.take b.l.length,x.p⟩ (cM b.l.length))(e:ew i b j b9)(a:ew c0 x j b9):ew c0 ⟨x.l.take b.l.length,x.p⟩ j b9:=by
 cases b9 with
 |list f=>exact a.ren d<|bq (eU G.list) e.choose_spec.2.bel
 |dict w f=>exact a.ren d<|bq (eU<|G.dict _) e.choose_spec.2.bel
 |cell g=>cases g with
  |none=>exact a
  |some g=>exact a.ren d<|bq (eU λm=>G.cell<|Q m) e.choose_spec.2.bel
 |ns f=>(revert e;refine ac λc c h=> ?_);(revert a;refine ac λe n a=> ?_);exact⟨e,n,λb9 k l=>(a b9 k l).imp λg i=>⟨i.1,i.2.ren d (h b9 k l).choose_spec.2.bel⟩⟩
 |liter f=>(revert e;refine vt λc c c c c c c h=> ?_);(revert a;refine vt λo p q r s t u v=> ?_);exact⟨o,p,q,r,d.fz _ s,t,u,v.ren d h.bel⟩
 |ctab a=>exact a.ren d O
 |any=>trivial
def tO(b e d:M G):Prop:=d.length=b.length/\∀(c:N) (a:G),d[c]? =Q a->e[c]? =Q a/\(b[c]? =Q a\/G.ren (cM b.length) a=Q a)
theorem JU(w:am b c e)(E:bg b e i8 k S)(K:∀n r,i8 n r->n.flat=X/\∃t,tO c r t/\s n t):bg b e s k S:=by
 obtain⟨f,r,n,h,j,L,i⟩:=E
 refine aA (λP T=> ?_)<|K n r i;refine ac (λt V Y=> ?_)<|T;refine aA (λZ a0=> ?_)<|V
 have o:∀(a:N) (d:ao),(f.l.take b.l.length)[a]? =Q (Q d)->a<b.l.length/\f.l[a]? =Q (Q d):=λa d g=>by
  rw [qg] at g;by_cases i:a<b.l.length
  .rw [bK i] at g;exact⟨i,g⟩
  .rw [bF i] at g;exact aU g
 have y:∀d,bh f d->bh ⟨f.l.take b.l.length,f.p⟩ d:=λd i=>⟨λu=>i.1<|ql u,i.2⟩
 have z:iU S.heap f ⟨f.l.take b.l.length,f.p⟩ (cM b.l.length):=⟨λa u d l m=>by refine aA (λi a1=> ?_)<|Gb l;obtain rfl:=a1;exact .loc<|Dy i m,y⟩
 have A:(f.l.take b.l.length).length=b.l.length:=by rw [qh,lB h.le]
 refine⟨⟨f.l.take b.l.length,f.p⟩,t,n,⟨dM A.symm,λa p=> ?_,λa d p g=>h.new a d p (o a d g).2,h.p,h.keep,h.live,h.gens,h.drawn,h.os⟩, ⟨by refine(?_:(f.l.take _).length=_);rw [A,Z];exact w.len,λa B d l m=>j.inj a B d (o a d l).2 (o B d m).2,λa d x l m=> ?_,j.base,λa d g=>j.out a d (o a d g).2,λa d g=>j.ex a d (o a d g).2, λd a2=>(by refine dH (λl m v=> ?_)<|j.prv d a2;exact⟨l,λu=>m<|ql u,v⟩),j.tk⟩,L.flat_to y P,Y⟩
 .refine(?_:(f.l.take _)[a]? =_);rw [qg,bK p];exact h.pre a p
 .refine aA (λp v=> ?_)<|o a d l
  refine aA (λa3 q=> ?_)<|a0 a x m;have D:=j.mo a d x v a3;obtain q|q:=q
  .exact ew.drop z (w.mo a d x ((h.pre a p).symm.trans v) q) D
  .rw [<-w.len] at q;exact D.ren z q
theorem th(z:∀d,bM.get? d=U->(d==cR)=ai)(i:gA a h q D c i8)(j:∀b e,i8 b e->b.flat=X/\∃f,tO c e f/\s b f):gA a h q D c s:=by intro k l m n o p r g t u v;refine aA (λw x=> ?_)<|i k l m n o p r g t u v;exact⟨w,eO x (λA B y=>JU g y j) λ_ _ b=>b⟩
theorem vx(e:jh ai e6 a)(f:a+(d+1)<=t)(g:rB (bt e6 d) h L c s):gA t h [L] [] c s:=by intro p q r u v w b i j k l;cases l;refine dd (λx y m n o=> ?_)<|k.un;obtain rfl:=m;cases o.ze;exact ZE e.gl (mf e d).E ⟨b.hh,by have:=b.d;exact af 0 (C+(J+1)+aj+1) 1000 (.p 1 (aj+(J+1)) bo<|.p 1 (C+0+bo+1) 1000 .z) (di _ _ _ _) O f this,by have:=b.u;exact af 0 (((C+(bn 20<|J+1+aj))+90)+1) bo (.p 20 (aj+(J+1)) fW<|.p 1 (((C+(bn 20<|0+fW))+90)+1) bo .z) (ky _ _ _ _ _) O f this⟩ i j n g
structure db:Prop where
 gl:ht gl
 hs:∀h,bM.get? h=U->(h==cR)=ai
 fn:∀c,xB.contains c=X->oy c (bS c) (KN c)
theorem LX:∀{a:M I} {c:M aa} {d:M R},cb y i b c d->eA y i b (a.zip c) (a.zip d)
 |[],_,_,_=> .nil
 |_::_,_,_,.nil=> .nil
 |_::_,_,_,.cons e f=> .cons e<|LX f
theorem YG(a:cb y i b K q):K.length=q.length:=a.length
theorem kO(b:q.length=a4.length):pR (iG a4) q [] (a4.zip q):=λd e f g h a c=>by cases c;exact⟨_,⟨O,(YG a).trans b,O⟩,LX a⟩
def cB(a:N):bY:=gA a
theorem db.base(a:db)(b:N):jh ai (cB b) b:=⟨a.gl,a.hs,λ_ _ _ _ _ c d e f g h i j _=>c d e f g h i j⟩
theorem pF(j:db)(k:d+21<=a)(f:oy t (bS t) j1)(l:rD (bI t)=X)(m:pR j1 q [] D)(n:R.rens (hN []) q=Q q)
 (o:∀f,R.ren f h=Q h) (p:∀e c,Z e c->e= .ret h) (r:∀g,xE (bt (cB d) 20) (bu t) (bI t) g U D [] Z) (u:s h c):gA a (.raw<|bS t) q [] c s:=by
 refine vy [] .nil ⟨O,λv w i b=>(by exact aU b)⟩ O n O (ko (j.base d) k f l m (s:=λi _=>i=h) (λe x g=> ?_) r) λi y b=> ?_
 .rw [p e x g];exact O
 .rw [b];exact⟨h,c,o _,⟨O,λ_ _=>O,λv w z b=>(by exact aU b)⟩,u⟩
theorem JH(d:db)(j:21<=a)(e:d1.Ok):wY (cB a) d1:=by intro b c f k g;refine pF (d:=0) (h:= .int (hU d1 b c:N)) d (by assumption) (d.fn 67 O) (by decide+kernel) (kO (a4:=["plan","can","sign"]) (q:=[d1.av,.int b,.str c]) O) (by refine(?_:bL (R.ren _ d1.av) _=_);rw [pI];rfl) (λ_=>O) (λl f h=>h) (λi=> ?_) g;exact df.one<|Rf e b c i
theorem JC(b:db)(i:42<=a)(d:d1.Ok):oo (cB a) d1:=by intro c e j f;refine pF (d:=21) (h:= .int (gG d1 c:N)) b (by assumption) (b.fn 68 O) (by decide+kernel) (kO (a4:=["plan","text"]) (q:=[d1.av,.str c]) O) (by refine(?_:bL (R.ren _ d1.av) _=_);rw [pI];rfl) (λ_=>O) (λk e g=>g) (λh=> ?_) f;exact df.one<|Qk (JH b (ba _) d) c h
theorem CI(c:db)(j:21<=a)(d:a0.Ok m):qD (cB a) a0 m:=by intro b e k f g;refine pF (d:=0) (h:= .int (fZ a0 b:N)) c (by assumption) (c.fn 71 O) (by decide+kernel) (kO (a4:=["moves","text"]) (q:=[a0.av,.str b]) O) (by refine(?_:bL ((R.rens _<|dv a0).map R.lst) _=_);rw [vC];rfl) (λ_=>O) (λl e h=>h) (λi=> ?_) g;exact df.one<|Re d b f i
theorem XM(c:db)(h:21<=a):oU (cB a):=by intro b d i e;refine pF (d:=0) (h:= .bool<|aI (b<256)) c (by assumption) (c.fn 62 O) (by decide+kernel) (kO (a4:=["x"]) (q:=[.int b]) O) O (λ_=>O) (λj d f=>f) (λg=> ?_) e;exact df.one<|QB b g
theorem XF(c:db)(h:21<=a):sd (cB a):=by intro b d i e;refine pF (d:=0) (h:= .bool<|aI (b>=256)) c (by assumption) (c.fn 63 O) (by decide+kernel) (kO (a4:=["x"]) (q:=[.int b]) O) O (λ_=>O) (λj d f=>f) (λg=> ?_) e;exact df.one<|QA b g
theorem XB(c:db)(h:21<=a):pU (cB a):=by intro b d i e;refine pF (d:=0) (h:= .bool<|b==0) c (by assumption) (c.fn 64 O) (by decide+kernel) (kO (a4:=["x"]) (q:=[.int b]) O) O (λ_=>O) (λj d f=>f) (λg=> ?_) e;exact df.one<|Qz b g
theorem XA(i:db)(r:21<=a)(l:g.length<1048576)(f:T.length<1048576)(m:(fj g eE 0 g.length 1).isEmpty=ai->∃s t c,hI g eE=s::t::c/\(∀v∈s::t::c,v.length<1048576)/\c.length<1000000)(d:M G)(e:aQ)(h:e (.bool<|hz g T) d):
 cB a (.raw<|bS 9) [.str g,.str T] [] d e:=by
 revert a g T i r l f m d e h
 apply U3
 generalize P2 _=a,Q2 _=g,Q1 _=T
 intro i r l f m d e h
 revert h
 revert d e
 apply U2
 generalize P1 _=d,Q1 _=e
 intro h
 refine pF (d:=0) (h:= .bool<|hz g T) i (by assumption) (i.fn 9 O) (by decide+kernel) (kO (a4:=["want","got"]) (q:=[.str g,.str T]) O) O (λ_=>O) (Z:=λj _=>j= .ret (.bool<|hz g T)) (λj d b=>b) (λk=> ?_) h
 have w:bu 9=(bu 9).take 6++(bu 9).drop 6:=(kA _ _).symm
 have x:(bu 9).drop 6=((bu 9).drop 6).take 2++(bu 9).drop 8:=by rw [<-ng (i:=2) (j:=6)];exact(kA _ _).symm
 suffices b:df (bt (cB 0) 20) ⟨bI 9,0,[],k,U⟩ (bu 9) [.ns [("want",.str g),("got",.str T)]] (λj _=>j= .ret (.bool<|hz g T)) from b
 rw [w,x]
 refine df.seq (Qn g T l f k m) (λn b=> ?_) λy n o b=> ?_
 .obtain b|⟨_,p,q,c,rfl,z,A,u,B,D⟩:=b
  .cases b
  .refine df.seq (Qo g T f k p q c z D A B) (λn b=> ?_) λy n o b=> ?_
   .obtain b|⟨_,p,E,q,c,rfl,K,L,P,S⟩:=b
    .cases b
    .rw [<-u,<-P];exact df.one<|Qp g T f k p E q c K L S
   .obtain b|b:=b
    .rw [b,u]
    .exact(o b.1).elim
 .obtain b|b:=b
  .exact b
  .exact(o b.1).elim
theorem XH{c:I}{b:I}(e:db)(u:21<=a)(h:fU g "..." "\n"=T)(i:fU T "\n\n" "\n"=f9)(j:fU f9 "\n\n" "\n"=c)(k:fU c "\n\n" "\n"=b)
 (l:g.length<=1000) (m:T.length<=1000) (n:f9.length<=1000) (o:c.length<=1000) (p:b.length<=16) (d:M G) (f:aQ) (q:f (vA b.cps.toList).av d):cB a (.raw<|bS 66) [.str g] [] d f:=by
 refine pF (d:=0) (h:=(vA b.cps.toList).av) e (by assumption) (e.fn 66 O) (by decide+kernel) (kO (a4:=["want"]) (q:=[.str g]) O) O (λr=>pI r _) (λv d s=>s) (λt=> ?_) q
 exact df.one<|Rb g T f9 c b t h i j k l m n o p
theorem SB(a:N):hN [a] a=Q (.loc 0):=by unfold hN;rw [zs.mpr (bU.mpr O),List.idxOf_cons_self];rfl
theorem rd(l:c[d]? =Q b9)(p:∀f,G.ren f b9=Q b9)(r:∀f,G.ren f i2=Q i2)(t:R.ren (hN [d]) h=Q h)(u:R.rens (hN [d]) q=Q d5)(i:R.rend (hN [d]) D=Q d8)
 (v:∀f,R.ren f L=Q L) (w:gA a h d5 d8 [b9] λj m=>j=L/\m[0]? =Q i2) (x:s L (c.set d i2)):gA a h q D c s:=by
 have y:d<c.length:=(fq.mp l).1
 refine vy [d] (lx.mpr ⟨jQ,oD⟩) ⟨O,λk n j b g=> ?_⟩ t u i w λj m ⟨b,g⟩=>⟨L,c.set d i2,?_,⟨wg,λn i=> ?_,λk n A b o=> ?_⟩,x⟩
 .match k,b,g with
  |0,b,g=>(revert b;refine aL λe=> ?_;subst e);(revert g;refine aL λe=> ?_;subst e);exact⟨b9,l,p _⟩
 .rw [b];exact v _
 .exact Na λz=>i<|bU.mpr z.symm
 .match k,b with
  |0,b=>
   (revert b;refine aL λe=> ?_;subst e)
   rw [List.getElem?_set_self y] at o
   (revert o;refine aL λe=> ?_;subst e)
   exact⟨_,g,r _⟩
theorem Gc(a b:R):pR (lg c1) [a,b] [] [("a",a),("x",b),("lo",.int 0),("hi",.none),("key",.none)]:=λh i j k l c d=>by cases d;refine dd (λm n e f g=> ?_)<|c.un2;obtain rfl:=e;exact⟨_,⟨_,_,_,_,_,O,.inl ⟨O,O,O,O,O⟩⟩,.cons f<|.cons g (.cons (.int 0 c1)<|.cons .none (.cons .none .nil))⟩
theorem Gd(a b c:R):pR (lg c1) [a,b] [("key",c)] [("a",a),("x",b),("lo",.int 0),("hi",.none),("key",c)]:=λk l m n o d e=>by refine ac (λp f g=> ?_)<|e.un1;obtain rfl:=f;refine dd (λq r h i j=> ?_)<|d.un2;obtain rfl:=h;exact⟨_,⟨_,_,_,_,_,O,.inr<|.inl ⟨O,O,O,O⟩⟩,.cons i<|.cons j (.cons (.int 0 c1)<|.cons .none (.cons g .nil))⟩
theorem PZ(a b c d:R):pR (lg c1) [a,b,c,d] [] [("a",a),("x",b),("lo",c),("hi",d),("key",.none)]:=λl m n o p e f=>by cases f;refine vv (λq r s t g h i j k=> ?_)<|e.un4;obtain rfl:=g;exact⟨_,⟨_,_,_,_,_,O,.inr<|.inr (.inr<|.inl ⟨O,O,O⟩)⟩,.cons h<|.cons i (.cons j<|.cons k (.cons .none .nil))⟩
theorem AX(a b c d e:R):pR (lg c1) [a,b,c,d] [("key",e)] [("a",a),("x",b),("lo",c),("hi",d),("key",e)]:=λo p q r s f g=>by refine ac (λt h i=> ?_)<|g.un1;obtain rfl:=h;refine vv (λu v w x j k l m n=> ?_)<|f.un4;obtain rfl:=j;exact⟨_,⟨_,_,_,_,_,O,.inr<|.inr (.inr<|.inr ⟨O,O⟩)⟩,.cons k<|.cons l (.cons m<|.cons n (.cons i .nil))⟩
theorem ru(b:∀c,R.rens c q=Q q):R.rens (hN [a]) (.loc a::q)=Q (.loc 0::q):=by refine(?_:bL (hN [a] a) _=_);rw [SB];refine(?_:(R.rens _ q).map _=_);rw [b];rfl
theorem Xy(e:db)(n:21<=a):tM (cB a):=by
 intro j b c o p f q k;have l:=e.fn 4 O;refine rd (i2:= .list<|aX b) (L:= .int (cV (iE b c) 0 b.length:N)) f (λd=>hT d b) (λd=>hT d b) O (ru (a:=j) λd=>O) O (λ_=>O) (ko (e.base 0) (by assumption) l (by decide+kernel) (Gc (.loc 0)<|.str c) (Z:=λg h=>g= .ret (.int (cV (iE b c) 0 b.length:N))/\h[0]? =Q (.list<|b.map .str)) (λg h i=> ?_) λm=> ?_)<|by rw [yH f];exact k
 .rw [i.1];exact⟨O,i.2⟩
 .exact df.one<|QY b c (by exact aK ‹_› (bA O)) m
theorem Xz(f:db)(o:21<=a)(b:M I)(c:I)(p:b.length<1000000)(e:M G)(g:aQ)(h:e[0]? =Q (.list<|aX b))(l:g (.int (cV (fE b c) 0 b.length:N)) e):cB a (.raw<|bS 2) [.loc 0,.str c,.int 0,.none] [] e g:=by
 have m:=f.fn 2 O;refine rd (i2:= .list<|aX b) (L:= .int (cV (fE b c) 0 b.length:N)) h (λd=>hT d b) (λd=>hT d b) O (ru (a:=0) λd=>O) O (λ_=>O) (ko (f.base 0) (by assumption) m (by decide+kernel) (PZ (.loc 0) (.str c) (.int 0) .none) (Z:=λi j=>i= .ret (.int (cV (fE b c) 0 b.length:N))/\j[0]? =Q (.list<|b.map .str)) (λi j k=> ?_) λn=> ?_)<|by rw [yH h];exact l
 .rw [k.1];exact⟨O,k.2⟩
 .exact df.one<|Rc b c (by exact aK ‹_› (bA O)) n
theorem XC(e:db)(r:42<=a):pY (cB a):=by
 intro k b c f g l s m;have n:=e.fn 1 O;refine rd (i2:= .list<|aX (b.insertIdx (cV (fE b c) 0 b.length) c)) (L:= .none) l (λd=>hT d b) (λd=>hT d _) O (ru (a:=k) λd=>O) O (λ_=>O) (ko (e.base 21) (by assumption) n (by decide+kernel) (Gc (.loc 0)<|.str c) (Z:=λh i=>h= .next/\i[0]? =Q (.list<|(b.insertIdx (cV (fE b c) 0 b.length) c).map .str)) (λh i j=> ?_) λo=> ?_) m
 .rw [j.1];exact⟨O,j.2⟩
 .exact df.one<|Qx b c (by exact aK ‹_› (bA O)) o (λf g p q=>Xz e (ba _) b c (by exact aK ‹_› (bA O)) f g p q) (kP _ _ _ _<|cy _)
theorem Kh(b:N->ag R)(a:M N):G.ren b (.liter<|cX a)=Q (.liter<|cX a):=bq (eU G.liter)<|vD b a
theorem XO(e:db)(n:21<=a):su (cB a):=by
 intro i b c o p j k l;refine rd (i2:= .liter<|cX (ib c (b&&&63) b).2) (L:= .int ((ib c (b&&&63) b).1:N)) k (λd=>Kh d _) (λd=>Kh d _) O (ru (a:=i) λd=>O) O (λ_=>O) (ko (e.base 0) (by assumption) (e.fn 6 O) (by decide+kernel) (kO (a4:=["iterator"]) (q:=[.loc 0]) O) (Z:=λf g=>f= .ret (.int (ib c (b&&&63) b).1)/\g[0]? =Q (.liter<|cX (ib c (b&&&63) b).2)) (λf g h=> ?_) λm=> ?_) l
 .rw [h.1];exact⟨O,h.2⟩
 .exact df.one<|Rr b c j m
theorem sC(e:V.length=c.length)(f:∀(b:N) (a:G),V[b]? =Q a->c[b]? =Q a\/G.ren (cM c.length) a=Q a):tO c (V++l4) V:= ⟨e,λb a d=>⟨by rw [jM (fq.mp d).1];exact d,f b a d⟩⟩
theorem De(b:(c.set a b9)[d]? =Q i2):i2=b9\/c[d]? =Q i2:=by
 rw [MZ] at b;by_cases e:a=d
 .rw [bK e] at b
  by_cases f:d<c.length
  .rw [bK (e▸f)] at b;(revert b;refine aL λg=> ?_;subst g);exact .inl O
  .rw [bF (e▸f)] at b;exact aU b
 .rw [bF e] at b;exact .inr b
theorem GE(b:∀d,G.ren d b9=Q b9):tO c (c.set a b9++V) (c.set a b9):= sC wg λg h e=>(De e).elim (λf=> .inr<|f▸b _) .inl
theorem RS(g:∀b,G.ren b b9=Q b9)(h:∀b,G.ren b i2=Q i2):tO c ((c.set a b9).set d i2++V) ((c.set a b9).set d i2):= sC (by rw [wg,wg]) λi j e=>(De e).elim (λf=> .inr<|f▸h _) λe=>(De e).elim (λf=> .inr<|f▸g _) .inl
structure nm(o:bx)(c:I):Prop where
 f:∀h,o.f h=hz c h
 w:c.length<1048576
 s:(fj c eE 0 c.length 1).isEmpty=ai->∃w j i,hI c eE=w::j::i/\(∀h∈w::j::i,h.length<1048576)/\i.length<1000000
theorem CH(e:db)(r:32<=a)(f:nm z g)(s:I)(t u:N):nf (cB a) z g s t u:=by
 intro l h v S m n w x y A B o D d;refine th e.hs (vx (e.base 21) r<|al0 (w:=cB 21) (b8:=0) (s:=λp q=>∃c b,cc z b/\m.length<=b.length/\b.length<=m.length+1/\p= .bool (z.f l)/\q=h.set v (.dict c<|bv.av b)++ [.ns [("word",.str l)]]) w x y A B D o (λh n d=> ?_) λc b i j k=>⟨c,b,i,j,k,O,O⟩) λp q E=> ?_
 .rw [f.f] at d;exact XA e (ba _) f.w (fh o<|by decide) f.s h n d
 .revert E;refine qZ λc b i j k K L=> ?_;obtain rfl:=K;obtain rfl:=L;exact⟨O,_,GE λP=>kZ P c b,d c b i j k⟩
theorem JI(d:db)(o:49<=a)(p:nm z a3.want)(k:a0.Ok a3.S)(q:a4.length=a0.length)(r:∀s∈g.cps.toList,s∈a3.S)(Z:g.length<50000)(t:z.S=a3.S)(u:∀e∈a4,e.length<100000/\dE z e):
 oT (cB a) z a3 a4 a0 g:=by
 intro v w x y A B D f E l a1 K L P S
 refine th d.hs (vx (d.base 32) o<|al4 (w:=cB 32) (t:=0) (s:=λm n=>∃c b,cc z b/\f.length<=b.length/\b.length<=f.length+2/\m= .bool (fo z a4 a0 g l)/\n=(cE a3 ⟨v,a4,w,Q g,x,Q a0,y,A⟩ B D f E).set 26 (.dict c<|bv.av b)++ [.ns [("place",.int l)]]) K L (CH d (ba _) p _ _ _) (CI d (by decide) k) k q r (by exact aK ‹_› (bA O)) t u P λc b h i j=>⟨c,b,h,i,j,O,O⟩) λm n e=> ?_
 revert e;refine qZ λc b h i j T V=> ?_;obtain rfl:=T;obtain rfl:=V
 exact⟨O,_,GE λY=>kZ Y c b,S c b h i j⟩
theorem WS(b:N->ag R)(a:M N):G.ren b (.list<|cX a)=Q (.list<|cX a):=bq (eU G.list)<|vD b a
theorem XD(e:db)(p:66<=a)(q:nm z a3.want)(r:a0.Ok a3.S)(s:a4.length=a0.length)(t:∀u∈g.cps.toList,u∈a3.S)(v:g.length<50000)(w:z.S=a3.S)(x:∀d∈a4,d.length<100000/\dE z d):
 qa (cB a) z a3 a4 a0 g:=by
 intro y A B D E f m K L h a2 P S T V Y
 refine th e.hs (vx (e.base 49) p (al2 (w:=cB 49) (t:=0) (s:=λn o=>∃c b,cc z b/\f.length<=b.length/\b.length<=f.length+2/\n= .bool (!fo z a4 a0 g h)/\
  o=((cE a3 ⟨y,a4,A,Q g,B,Q a0,Q<|.loc 29,Q<|dO a3.q⟩ D E f (K:: .list (cX m)::L)).set 26<|.dict c (bv.av b)).set 29 (.list<|cX (m++ [h]))++ [.ns [("place",.int h)]])
  (JI e (ba _) q r s t v w x) V P S T λc b i j k=>⟨c,b,i,j,k,O,O⟩)) λn o d=> ?_
 revert d;refine qZ λc b i j k Z a1=> ?_;obtain rfl:=Z;obtain rfl:=a1
 exact⟨O,_,RS (λl=>kZ l c b) λl=>WS l _,Y c b i j k⟩
theorem yP{b c:M E}(e:b.take a=c)(f:d<a):b[d]? =c[d]? :=by subst e;rw [qg,bK f]
theorem XE(q:db)(y:53<=a)(A:nm z g)(j:I)(B:a4.length<=100)(a0:d<1000000)(D:∀m∈a4,m.length<100000/\dE z m):
 rS (cB a) z g j a4 d:=by
 intro k E t l a1 u K a2 L
 refine vy [0,1,2,3] (by decide) (V:=ra g t l a4) (d5:=[kM j 0 1,.str k,.loc 3]) ⟨O,λr n s c e=> ?_⟩ O O O
  (ko (q.base 32) y (q.fn 69 O) (by decide+kernel) (kO (a4:=["ask","head","tails"]) (q:=[kM j 0 1,.str k,.loc 3]) O)
   (s:=λs v=>s= .str (cS z a4 k)/\∃i f,v.take 4=ra g i f a4/\cc z f/\f.length<=l.length+a4.length)
   (Z:=λw x=>w= .ret (.str<|oG "" (mM z k a4))/\∃i f,x.take 4=te g i f++ [.list (aX a4)]/\cc z f/\f.length<=l.length+a4.length) (λw x o=> ?_) λP=> ?_) λs v o=> ?_
 .match r,c,e with
  |0,c,e=>(revert c;refine aL λb=> ?_;subst b);(revert e;refine aL λb=> ?_;subst b);exact⟨_,O,O⟩
  |1,c,e=>(revert c;refine aL λb=> ?_;subst b);(revert e;refine aL λb=> ?_;subst b);exact⟨_,O,O⟩
  |2,c,e=>(revert c;refine aL λb=> ?_;subst b);(revert e;refine aL λb=> ?_;subst b);exact⟨_,O,kZ _ _ _⟩
  |3,c,e=>(revert c;refine aL λb=> ?_;subst b);(revert e;refine aL λb=> ?_;subst b);exact⟨_,O,hT _ _⟩
 .rw [o.1];exact⟨O,o.2⟩
 .exact df.one<|Ra z g k a4 t l P j K B (l.length+a4.length) (ba _) (by exact cd ‹_› ‹_›) (λm S=>by have:=(D m S).1;exact af 0 (C+J+1) 1000000 (.p 1 (C+1) 900000<|.p 1 (J+1) 100000 .z) (aN _ _) O u.1 this) u.2 (CH q (ba _) A j 0 1)
 .revert o;refine aA λT V=> ?_;obtain rfl:=T;refine dd (λi f p Y Z=> ?_)<|V
  refine⟨_,ra g i f a4++E,O,⟨O,λn h=> ?_,λr n a3 c e=> ?_⟩,L i f Y Z⟩
  .match n,h with
   |0,h=>exact bD (.head _) h
   |1,h=>exact bD (.tail _<|.head _) h
   |2,h=>exact bD (.tail _<|.tail _ (.head _)) h
   |3,h=>exact bD (.tail _<|.tail _ (.tail _<|.head _)) h
   |n+4,h=>rfl
  .match r,c with
   |0,c=>(revert c;refine aL λb=> ?_;subst b);(revert e;refine aL λb=> ?_;subst b);exact⟨_,yP p<|by decide,O⟩
   |1,c=>(revert c;refine aL λb=> ?_;subst b);(revert e;refine aL λb=> ?_;subst b);exact⟨_,yP p<|by decide,O⟩
   |2,c=>(revert c;refine aL λb=> ?_;subst b);(revert e;refine aL λb=> ?_;subst b);exact⟨_,yP p<|by decide,kZ _ _ _⟩
   |3,c=>(revert c;refine aL λb=> ?_;subst b);(revert e;refine aL λb=> ?_;subst b);exact⟨_,yP p<|by decide,hT _ _⟩
theorem XN(b:db)(k:63<=a)(h:d1.Ok)(i:kL a0 d1 c3 m d)(l:g.length<=1000)(n:∀o∈g.cps.toList,o∈m)(p:gG d1 g<d)(q:gG d1 ""<d):
 qF (cB a) a0 d1 c3 m g (gg a0 d1 c3 (m.map au) (a0.length*d+1) [g,""]):=by
 intro r x s
 have t:R.ren (hN []) a0.av=Q a0.av:=by refine(?_:(R.rens _<|dv a0).map R.lst=_);rw [vC];rfl
 refine vy [] .nil (V:=[]) (d5:=[a0.av,.lst (hA c3),.lst (aX<|m.map au),d1.av,.str g]) ⟨O,λu v c e=>(by exact aU e)⟩ O (pK t<|pK (rx<|yv _ _) (pK (rx<|jB _ _)<|pK (pI _ _) (pK O O))) O (ko (b.base 42) k (b.fn 72 O) (by decide+kernel) (kO (a4:=["moves","goals","pair","plan","front"]) (q:=[a0.av,.lst (hA c3),.lst (aX<|m.map au),d1.av,.str g]) O) (s:=λc _=>c=rK (gg a0 d1 c3 (m.map au) (a0.length*d+1) [g,""])) (Z:=λj _=>j=Hn (gg a0 d1 c3 (m.map au) (a0.length*d+1) [g,""])) (λj y f=> ?_) λw=> ?_) λc z f=> ?_
 .subst f;cases gg a0 d1 c3 (m.map au) (a0.length*d+1) [g,""]<;>exact O
 .exact df.one<|Rq i (CI b (by decide) i.mok) (JC b (by decide) h) (JH b (by decide) h) g l n p q w
 .subst f;exact⟨_,r,Bm _ _,⟨O,λ_ _=>O,λu v A e=>(by exact aU e)⟩,s⟩
theorem ae7(c:I->I):∀(d:M I) (a:N) (b:M (I×N)),(jD c d a b).length<=b.length+d.length:=by
 intro f
 induction f with
 |nil=>exact λa b=>ba _
 |cons e d g=>exact λa b=>by have h:=g (a+1)<|ec b (c e) a;have i:=vK (c e) a b;refine(?_:(jD c d (a+1)<|ec b (c e) a).length<=b.length+(d.length+1));exact af 0 C (J+(aj+1)) (.p 1 C (bo+aj)<|.p 1 bo (J+1) .z) (di _ _ _ _) O h i
theorem Wm:∀(c a:M I),(mL a c).length=a.length+c.length/\∀d∈mL a c,d∈a\/d∈c:=by
 intro g
 induction g with
 |nil=>exact λa=>⟨O,λd b=> .inl b⟩
 |cons e c h=>
  exact λa=>by
   have f:cV (fE a e) 0 a.length<=a.length:=kP _ _ _ _<|cy _;refine aA (λi j=> ?_)<|h (a.insertIdx (cV (fE a e) 0 a.length) e);refine⟨i.trans<|by rw [List.length_insertIdx_of_le_length f,gO];exact fg _ _ _,λd k=> ?_⟩;obtain b|b:=j d k
   .obtain rfl|b:=(Eu f).mp b
    .exact .inr<|.head _
    .exact .inl b
   .exact .inr<|.tail _ b
theorem Jb:∀{a:M (I×N)},g∈a.map (·.1)->∃c,a.lookup g=Q c
 |(d,e)::a,b=>by
  rw [ee]
  cases f:g==d with
  |true=>exact⟨e,O⟩
  |false=>
   obtain rfl|b:=bO.mp b
   .exact bD f<|by simp
   .exact Jb b
theorem SS:∀a:M I,R.flats (aX a)=X:=by
 intro b
 induction b with
 |nil=>exact O
 |cons _ a c=>exact c
theorem SP:∀a:bw,R.flats (dv a)=X:=by
 intro b
 induction b with
 |nil=>exact O
 |cons c a d=>exact by refine(?_:(R.flatd (dY c)&&R.flats (dv a))=X);rw [Ho,d];rfl
theorem YJ(b:a1 a=Q h)(c:a1 d=Q L):R.ren a1 (.tup [.loc a,.loc d])=Q (.tup [h,L]):=by refine(?_:(bL (a1 a) λe=>(bL (a1 d) λf=>Q [f]).map (e:: ·)).map R.tup=_);rw [b,c];rfl
theorem XV(b:a∈z.S):dE z (au a):=λc d=>by rw [bU.mp (show c∈[a] from d)];exact b
theorem ag9{c:M I}(s:rS w z g T a4 a)(t:pY w)(y:tM w)(A:∀L,bM.get? L=U->(L==cR)=ai)(B:d6.length=2)(D:∀P∈d6,P.length=1/\dE z P)
 (e:I) (j:N) (h:bv) (n:cc z h) (o:h.length+(c.length+16)*a4.length<=a) (d:c.length<=8) (f:∀b∈c,b.length<=100000/\dE z b) (k:tR z a4 d6 (hF z a4 d6 c).hl):
 df (bt w 20) ⟨bI 70,4,[("shelf",7),("tails",6),("ask",5)],e,U⟩ (bu 70) (rb g j h a4 T [("pair",.lst (aX d6)),("kept",.lst (aX c))] U []) (λa3 i=>a3= .ret (.tup [.loc 10,.loc 12])/\∃l u m E,i=mQ g u m a4 T d6 c (cP l .none) E (hF z a4 d6 c) (dv (hF z a4 d6 c).mv) [] []/\cc z m/\m.length<=a):=by
 revert w z g T a4 d6 c a s t y A B D e j h n o d f k
 apply U8
 generalize P7 _=a4,Q7 _=d6,Q6 _=a,Q5 _=g,Q4 _=T,Q3 _=w,Q2 _=z,Q1 _=c
 intro s t y A B D e j h n o d f k
 revert n o d f k
 revert e j h
 apply U3
 generalize P2 _=e,Q2 _=j,Q1 _=h
 intro n o d f k
 have a5:bu 70=(bu 70).take 1++(bu 70).drop 1:=(kA _ _).symm
 have E:(bu 70).drop 1=((bu 70).drop 1).take 2++(bu 70).drop 3:=by rw [<-ng (i:=2) (j:=1)] at ⊢;exact(kA _ _).symm
 have v:(bu 70).drop 3=((bu 70).drop 3).take 1++(bu 70).drop 4:=by rw [<-ng (i:=1) (j:=3)] at ⊢;exact(kA _ _).symm
 rw [a5,E,v] at ⊢
 refine df.seq (Rj s d6 c j h e n o d λb p=>⟨cd (f b p).1<|by decide,(k b<|BO (a:=yQ z a4 c) p).2.1⟩) (λi b=> ?_) λS i q b=>(q b.1).elim
 revert b;refine aA λV r=> ?_;refine nT (λu m Y a6 a7 a8=> ?_)<|r;obtain rfl:=a6
 have x:=ae7 (cS z a4) c 0 []
 rw [wf,fw] at x
 refine aA (λZ a9=> ?_) (Wm ((jD (cS z a4) c 0 []).map (·.1)) [])
 rw [wf,aW,fw] at Z
 refine df.seq (Rk t d6 c u m Y _ e d<|aK x d) (λi b=> ?_) λS i q b=>(q b.1).elim
 revert b;refine aA λV r=> ?_;refine ac (λl b0 b1=> ?_)<|r;obtain rfl:=b0
 refine df.seq (Rl s t y A d6 c (cP l .none) (Kg l) B D e (yQ z a4 c) u Y m a7 a8 ⟨d,by refine(?_:(mL [] _).length<=8);exact af 0 C 8 (.p 1 J 8<|.p 1 aj J (.q 1 C aj .z)) (bk _ _ _) O d x Z,aK x d,cy _,λb p=>⟨aK (f b p).1<|by decide,(f b p).2⟩,λb2 b3=>Jb<|(a9 b2 b3).resolve_left (λb=>(by cases b))⟩ O λb f=>(k b f).2.2) (λi b=> ?_) λS i q b=>(q b.1).elim
 revert b;refine aA λV r=> ?_;refine Xn (λa0 v a1 a2 K b4 b5 b6=> ?_)<|r;obtain rfl:=b4
 have K:hF z a4 d6 c=a0:=K.symm
 rw [K] at ⊢
 exact df.one<|Rm d6 c l b1 e a0 v a2 a1 _ ⟨O,l,v,a1,a2,O,b5,b6⟩
theorem XK(g:db)(n:74<=a)(o:nm z a3.want)(p:a3.S.length=2)(q:z.S=a3.S):qE (cB a) z a3:=by
 revert a z a3 g n o p q;apply U3;generalize P2 _=a,Q2 _=z,Q1 _=a3;intro g n o p q;intro c L r k P b8 S T u V v w Y Z;have a0:=zO (show c.heads.length+16<=24 by exact af 0 (C+16) 24 (.p 1 C 8 .z) (bj _) O u) v
 refine vy [16,20,26,27] (by decide) (V:=ra a3.want r k c.tails) (d5:=[kM (a3.q++bC "<lambda>") 0 1,.lst (aX a3.pr),.loc 3,.lst (aX c.heads)]) ⟨O,λs x t d e=> ?_⟩ O ?_ O
  (ko (g.base 53) n (g.fn 70 O) (by decide+kernel) (kO (a4:=["ask","pair","tails","kept"]) (q:=[kM (a3.q++bC "<lambda>") 0 1,.lst (aX a3.pr),.loc 3,.lst (aX c.heads)]) O)
   (s:=λt y=>t= .tup [.loc 10,.loc 12]/\∃i h f e,y=mQ a3.want h f c.tails (a3.q++bC "<lambda>") a3.pr c.heads (cP i .none) e (hF z c.tails a3.pr c.heads) (dv (hF z c.tails a3.pr c.heads).mv) [] []/\cc z f/\f.length<=k.length+(c.heads.length+16)*c.tails.length)
   (Z:=λA B=>A= .ret (.tup [.loc 10,.loc 12])/\∃i h f e,B=mQ a3.want h f c.tails (a3.q++bC "<lambda>") a3.pr c.heads (cP i .none) e (hF z c.tails a3.pr c.heads) (dv (hF z c.tails a3.pr c.heads).mv) [] []/\cc z f/\f.length<=k.length+(c.heads.length+16)*c.tails.length)
   (λA B l=> ?_) λa1=> ?_) λt y l=> ?_
 .match s,d,e with
  |0,d,e=>(revert d;refine aL λb=> ?_;subst b);(revert e;refine aL λb=> ?_;subst b);exact⟨_,O,O⟩
  |1,d,e=>(revert d;refine aL λb=> ?_;subst b);(revert e;refine aL λb=> ?_;subst b);exact⟨_,O,O⟩
  |2,d,e=>(revert d;refine aL λb=> ?_;subst b);(revert e;refine aL λb=> ?_;subst b);exact⟨_,O,kZ _ _ _⟩
  |3,d,e=>(revert d;refine aL λb=> ?_;subst b);(revert e;refine aL λb=> ?_;subst b);exact⟨_,O,hT _ _⟩
 .refine(?_:bL (R.ren _<|oZ a3.q) (λD=>(bL ((R.rens _<|aX a3.pr).map R.lst) λa2=>(bL (hN _ 27) λa4=>(bL ((R.rens _<|aX c.heads).map R.lst) λa5=>Q [a5]).map (a4:: ·)).map (a2:: ·)).map (D:: ·))=_);rw [jB,jB];rfl
 .rw [l.1];exact⟨O,l.2⟩
 .exact ag9 (XE g (ba _) o _ v (by exact af 0 (C+J+1) 1000000 (.p 1 (C+1) 900000<|.p 1 J (bn 24 100) .z) (aN _ _) O T a0) λE K=>⟨by have:=(w E K).1;exact cd ‹_› (bA O),(w E K).2⟩) (XC g<|by decide) (Xy g<|by decide) g.hs ((aW _).trans p) (λa6 a7=>by refine ac (λb9 a8 a9=> ?_)<|cT.mp (show a6∈a3.S.map au from a7);obtain rfl:=a9;exact⟨O,XV<|q▸a8⟩) a1 r k S (ba _) u V Y
 .revert l;refine aA λb0 b1=> ?_;obtain rfl:=b0;refine yo (λi h f e b2 b3 b4=> ?_)<|b1;obtain rfl:=b2
  generalize hF z c.tails a3.pr c.heads=j at*;have b5:sG [16,20,26,27] (mQ a3.want h f c.tails (a3.q++bC "<lambda>") a3.pr c.heads (cP i .none) e j (dv j.mv) [] []) 10=Q (.lst<|aX j.hl):=by refine(?_:(bif R.flats (aX _) then _ else _)=_);rw [SS];rfl
  have b6:sG [16,20,26,27] (mQ a3.want h f c.tails (a3.q++bC "<lambda>") a3.pr c.heads (cP i .none) e j (dv j.mv) [] []) 12=Q (.lst<|dv j.mv):=by refine(?_:(bif R.flats (dv _) then _ else _)=_);rw [SP];rfl
  refine⟨_,(cE a3 c L r k P).set 26<|.dict h (bv.av f),YJ b5 b6,⟨wg,λx b7=>Na<|by rintro rfl;exact b7<|.tail _ (.tail _<|.head _),λs x D d m=> ?_⟩,Z h f b3 b4⟩
  .match s,d with
   |0,d=>(revert d;refine aL λb=> ?_;subst b);(revert m;refine aL λb=> ?_;subst b);exact⟨_,O,O⟩
   |1,d=>(revert d;refine aL λb=> ?_;subst b);(revert m;refine aL λb=> ?_;subst b);exact⟨_,O,O⟩
   |2,d=>(revert d;refine aL λb=> ?_;subst b);(revert m;refine aL λb=> ?_;subst b);exact⟨_,O,kZ _ _ _⟩
   |3,d=>(revert d;refine aL λb=> ?_;subst b);(revert m;refine aL λb=> ?_;subst b);exact⟨_,O,hT _ _⟩
noncomputable def Qc(a:M (I×R))(c:M (I×R)):M (I×R):=c.foldl (λa b=>gK a b.1 b.2) a
theorem AY(g:o.ns=c.length):∀{a b:M (I×R)},(∀d∈a,o.scope.names.lookup d.1=Q .local)->e0 (c++ .ns (Qc b a)::V)->sw o a (c++ .ns b::V) e0:=by
 intro h
 induction h with
 |nil=>exact @λ_ _ e=>e
 |cons d a i=>exact @λb f e=>be (mS (f d<|.head _) g)<|i (λj k=>f j<|.tail _ k) e
theorem XQ(e:d<=a)(f:gA d h q D c s):gA a h q D c s:= λg i j k l m b=>f g i j k l m ⟨b.hh,by have:=b.d;exact af 0 (C+0+J+1) 1000 (.p 1 J aj<|.p 1 (C+0+aj+1) 1000 .z) (bk _ _ _) O e this,by have:=b.u;exact af 0 (((C+(bn 20<|0+J))+90)+1) aj (.p 20 J bo<|.p 1 (((C+(bn 20<|0+bo))+90)+1) aj .z) (di _ _ _ _) O e this⟩
theorem hx.up(c:d<=a)(b:hx (cB d) h):hx (cB a) h:=⟨b.some,b.ren,b.nb,λe f g i=>XQ c<|b.run e f g i⟩
theorem Ba(j:mr w h a d q l9 j0 h1 t)(e:ah)(p:∀f r k,k (bif e then !c7 f else c7 f)->bif e then lP .Lt (l9 f) L r k else lP .Lt L (l9 f) r k)(l:q.length<1000000)(g:M G)(m:j0 [] g)(b:N)(c:ag N)
 (s:b<=c.getD q.length) (u:c.getD q.length<=q.length) (v:(dB c7 (c.getD q.length - b) b<|c.getD q.length).length<=t) (x:∀L∈dB c7 (c.getD q.length - b) b (c.getD q.length),h1 L) (i:I):
 df (bt w 20) ⟨bif e then bI 4 else bI 2,d,[],i,U⟩ (bif e then bu 4 else bu 2) (g++ [.ns [("a",.loc a),("x",L),("lo",.int b),("hi",HR c),("key",h)]]) λz n=>z= .ret (.int (dr c7 (c.getD q.length - b) b (c.getD q.length):N))/\∃y A,n=y++ [.ns A]/\j0 (dB c7 (c.getD q.length - b) b<|c.getD q.length) y:=by
 refine aA (λB D=> ?_)<|j.len _ _ m
 have E:=Ql (w:=w) (h:=h) (L:=L) (t:=b) (f:=c) B D l i e
 have K:(bif e then bu 4 else bu 2)=(bif e then bu 4 else bu 2).take 2++(bif e then bu 4 else bu 2).drop 2:=(kA _ _).symm
 rw [K]
 refine df.seq E (λn o=> ?_) λT n P o=>(P o.1).elim
 revert o;refine aA λV S=> ?_;obtain rfl:=S
 cases e with
 |true=>exact df.one<|QZ j p l g m b _ s u v x i
 |false=>exact df.one<|Rd j p l g m b _ s u v x i
theorem JE(q:db)(a4:d+21<=a)(A:ah):jG (cB a) (cB d) A:=by
 intro m n o b2 b3 v e p b c a5 r a6 B D w E K a7;refine aA (λL b4=> ?_)<|r.len _ _ w
 have P:∀(g:N) (s:∃S,oy g (bS g) (lg S)) (T:rD (bI g)=X) (V:∀e∈kf o n b c m,(bI g).names.lookup e.1=Q .local) (Y:ho (bI g).names=[]) (Z:∀j,gH (bI g).names j []=[])
  (a0:∀k,df (bt (cB d) 20) ⟨bI g,p.length,[],k,U⟩ (bu g) (p++ [.ns (kf o n b c m)]) λt u=>t= .ret (.int (dr e (c - b) b c:N))/\∃f l,u=f++ [.ns l]/\v (dB e (c - b) b c) f),
  gA a (.raw<|bS g) [.loc o,n,.int b,.int c] [("key",m)] p a5:=λg s T V Y Z a0=>by
  revert s;refine ay λS s=> ?_
  refine th q.hs (ko (q.base d) a4 s T (AX (.loc o) n (.int b) (.int c) m) (s:=λa1 a2=>a1= .int (dr e (c - b) b c:N)/\∃f l,a2=f++ [.ns l]/\v (dB e (c - b) b c) f) (Z:=λt u=>t= .ret (.int (dr e (c - b) b c:N))/\∃f l,u=f++ [.ns l]/\v (dB e (c - b) b c) f) (λt u h=> ?_) λk=> ?_) λa1 a2 h=> ?_
  .rw [h.1];exact⟨O,h.2⟩
  .unfold xE
   rw [Y,Z]
   exact AY O V<|a0 k
  .revert h;refine aA λa8 a9=> ?_;obtain rfl:=a8;refine dw (λf l b0 x=> ?_)<|a9;obtain rfl:=b0;exact⟨O,f,sC (r.len _ _ x).1 λb5 b1 y=> .inr<|a6 _ _ x b1 (jP y),a7 f x⟩
 have a3:∀(z:dJ),(["a","x","lo","hi","key"]:M mD).all (λj=>z.names.lookup (bC j)==Q .local)=X->∀e∈kf o n b c m,z.names.lookup e.1=Q .local :=λz h e i=>by
  obtain⟨j,L,y⟩:∃j∈(["a","x","lo","hi","key"]:M mD),bC j=e.1:=by
   obtain rfl|i:=bO.mp i
   .exact⟨_,.head _,O⟩
   obtain rfl|i:=bO.mp i
   .exact⟨_,.tail _<|.head _,O⟩
   obtain rfl|i:=bO.mp i
   .exact⟨_,.tail _<|.tail _ (.head _),O⟩
   obtain rfl|i:=bO.mp i
   .exact⟨_,.tail _<|.tail _ (.tail _<|.head _),O⟩
   .rw [bU.mp i];exact⟨_,.tail _<|.tail _ (.tail _<|.tail _ (.head _)),O⟩
  have:=hH.mp h j L;rw [y] at this;exact hd this
 cases A with
 |true=>exact P 4 ⟨_,q.fn 4 O⟩ (by decide+kernel) (a3 _<|by decide+kernel) O (λ_=>O) λk=>Ba r X B D p w b (Q c) E K (ba _) (λ_ h=>h) k
 |false=>exact P 2 ⟨_,q.fn 2 O⟩ (by decide+kernel) (a3 _<|by decide+kernel) O (λ_=>O) λk=>Ba r ai B D p w b (Q c) E K (ba _) (λ_ h=>h) k
theorem al1(b:ah)(c:I)(a:N×N)(d:M G)(e:aQ)(f:e (.int a.1) (d++ [.ns [("one",fP a)]])):rB (bt w 4) (bif b then va c else vb c) (fP a) d e:=by
 cases b with
 |true=>refine be (cA O O O) ?_;exact f
 |false=>refine be (cA O O O) ?_;exact f
theorem JF(f:db)(n:5<=a)(b:ah)(c:I):hx (cB a) (bif b then va c else vb c) where
 some:=by cases b<;>rfl
 ren:=λo=>by cases b<;>rfl
 nb:=by cases b<;>rfl
 run:=λd e p i=>by refine th f.hs (vx (f.base 0) (by assumption:0+(4+1)<=a)<|al1 (w:=cB 0) b c d e (λg h=>g= .int d.1/\h=e++ [.ns [("one",fP d)]]) ⟨O,O⟩) λg h j=> ?_;revert j;refine aA λk l=> ?_;obtain rfl:=k;obtain rfl:=l;exact⟨O,e,sC O λq r m=> .inl m,i⟩
theorem JD(j:db)(p:d+21<=a)(e:ah)(k:hx (cB d) h)(b:bZ)(l:b.length<1000000)(c:N)(i:M G)(f:aQ)(m:i[0]? =Q (.list<|bB b))(o:f (.int (bif e then cV (gV b c) 0 b.length else cV (hD b c) 0 b.length:N)) i):gA a (.raw<|bS (bif e then 4 else 2)) [.loc 0,.int c,.int 0,.none] [("key",h)] i f:=by
 revert a d h j p e k b l c i f m o;apply U3;generalize P2 _=a,Q2 _=d,Q1 _=h;intro j p e k b l c i f m o;revert k l m o;revert e b c i f;apply U5;generalize P4 _=e,Q4 _=b,Q3 _=c,Q2 _=i,Q1 _=f;intro k l m o;have r:(bB b).length=b.length:=aW _;have y:=VF k b l (λ_=>kc) (dB (bif e then gV b c else hD b c) b.length 0 b.length).length
 have z:∀(g:N) (i:M G) (f:ah->Prop),f (bif e then !(bif e then gV b c else hD b c) g else(bif e then gV b c else hD b c) g)->
  bif e then lP .Lt (.int (b.getD g (0,0)).1) (.int c) i f else lP .Lt (.int c) (.int (b.getD g (0,0)).1) i f:=by
  intro g i f n
  cases e with
  |true=>
   refine(?_:f (aI<|((b.getD g (0,0)).1:H)<(c:H)))
   rw [show aI (((b.getD g (0,0)).1:H)<(c:H))=aI ((b.getD g (0,0)).1<c) from xp.mpr<|by exact⟨λs=>bd<|aw 0 (F+1) W (.p 1 (F+1) W .z) (aP _ _) O s,λt=>aw 0 (F+1) W (.p 1 (F+1) W .z) (aP _ _) O<|ak t⟩] at ⊢
   have:(!gV b c g)=aI ((b.getD g (0,0)).1<c):=by unfold gV;rw [zh] at ⊢
   rw [<-this] at ⊢;exact n
  |false=>
   refine(?_:f (aI<|(c:H)<((b.getD g (0,0)).1:H)))
   rw [show aI ((c:H)<((b.getD g (0,0)).1:H))=aI (c<(b.getD g (0,0)).1) from xp.mpr<|by exact⟨λs=>bd<|aw 0 (F+1) W (.p 1 (F+1) W .z) (aP _ _) O s,λt=>aw 0 (F+1) W (.p 1 (F+1) W .z) (aP _ _) O<|ak t⟩] at ⊢
   exact n
 have v:=λA=>Ba (L:= .int c) y e z (by rw [r] at ⊢;exact l) [.list (bB b)] O 0 U (cy _) (ba _) (by refine(?_:(dB _ ((bB b).length - 0) 0 (bB b).length).length<=_);rw [r] at ⊢;exact ba _) (λ_ _=>eG) A;have w:∀q,G.ren q (.list<|bB b)=Q (.list<|bB b):=λq=>bq (eU G.list)<|yy q b;have x:dr (bif e then gV b c else hD b c) ((U:ag N).getD (bB b).length - 0) 0 ((U:ag N).getD (bB b).length)=bif e then cV (gV b c) 0 b.length else cV (hD b c) 0 b.length:=by refine(?_:dr _ ((bB b).length - 0) 0 (bB b).length=_);rw [r] at ⊢;cases e<;>rfl
 refine rd (d:=0) (i2:= .list<|bB b) (L:= .int (bif e then cV (gV b c) 0 b.length else cV (hD b c) 0 b.length:N)) m w w O (ru (a:=0) λq=>O) (by refine(?_:(bL (R.ren _ h) λB=>Q [(_,B)])=_);rw [k.ren] at ⊢;rfl) (λ_=>O) ?_ (by rw [yH m] at ⊢;exact o);have D:=j.fn 2 O;have E:=j.fn 4 O
 cases e with
 |true=>
  refine ko (j.base d) p E (by decide+kernel) (AX (.loc 0) (.int c) (.int 0) .none h) (j:= ?_) (m:=v);intro K L n;obtain⟨rfl,P,S,rfl,rfl⟩:=n
  exact⟨bq (λu:N=>R.int u) x,O⟩
 |false=>
  refine ko (j.base d) p D (by decide+kernel) (AX (.loc 0) (.int c) (.int 0) .none h) (j:= ?_) (m:=v);intro K L n;obtain⟨rfl,P,S,rfl,rfl⟩:=n
  exact⟨bq (λu:N=>R.int u) x,O⟩
theorem yg(b:N->ag R)(a:bZ):G.ren b (.list<|bB a)=Q (.list<|bB a):=bq (eU G.list)<|yy b a
theorem JG(e:db)(r:47<=a)(s:ah):pX (cB a) (cB 5) s:=by
 intro f j n b c k l t m u;have v:hx (cB 26) f:=j.up (by decide);have w:R.rend (hN [n]) ([("key",f)]:M (I×R))=Q ([("key",f)]:M (I×R)):=by refine(?_:(bL (R.ren _ f) λz=>Q [(_,z)])=_);rw [j.ren];rfl
 have x:∀y,cV y 0 b.length<=b.length:=λy=>kP _ _ _ _<|cy _;have A:=e.fn 1 O;have B:=e.fn 3 O
 cases s with
 |true=>
  refine rd (i2:= .list<|bB (b.insertIdx (cV (gV b c.1) 0 b.length) c)) (L:= .none) t (λd=>yg d b) (λd=>yg d _) O (ru (a:=n) λd=>O) w (λ_=>O) (ko (e.base 26) r B (by decide+kernel) (Gd (.loc 0) (fP c) f) (Z:=λg h=>g= .next/\h[0]? =Q (.list<|bB (b.insertIdx (cV (gV b c.1) 0 b.length) c))) (λg h i=> ?_) λo=> ?_) u
  .rw [i.1];exact⟨O,i.2⟩
  .exact df.one<|Qw v b c m o _ (x _) λk l p q=>JD e (d:=5) (ba _) X j b m c.1 k l p q
 |false=>
  refine rd (i2:= .list<|bB (b.insertIdx (cV (hD b c.1) 0 b.length) c)) (L:= .none) t (λd=>yg d b) (λd=>yg d _) O (ru (a:=n) λd=>O) w (λ_=>O) (ko (e.base 26) r A (by decide+kernel) (Gd (.loc 0) (fP c) f) (Z:=λg h=>g= .next/\h[0]? =Q (.list<|bB (b.insertIdx (cV (hD b c.1) 0 b.length) c))) (λg h i=> ?_) λo=> ?_) u
  .rw [i.1];exact⟨O,i.2⟩
  .exact df.one<|Qy v b c m o _ (x _) λk l p q=>JD e (d:=5) (ba _) ai j b m c.1 k l p q
noncomputable def qP(a:M bH):M ao:=a.filterMap (·.frame)
structure gR(j:M bH)(o:ar)(v:M G):Prop where
 all:∀c∈j,c.scope.kind≠ .module/\∃(h:ao) (i:N) (x:M (I×R)),c.frame=Q h/\o.l[i]? =Q (Q h)/\v[i]? =Q (.ns x)
theorem gR.mem(f:gR e3 b c)(g:j∈qP e3):∃(a:N) (d:M (I×R)),b.l[a]? =Q (Q j)/\c[a]? =Q (.ns d):=by refine ac (λh i e=> ?_)<|qj.mp g;refine aA (λp k=> ?_)<|f.all h i;refine nT (λq a d l m n=> ?_)<|k;rw [l] at e;(revert e;refine aL λo=> ?_;subst o);exact⟨a,d,m,n⟩
theorem gR.ext(d:gR e3 b c)(f:aH b e x S):gR e3 x (c++V):=⟨λg h=>by refine aA (λi j=> ?_)<|d.all g h;refine nT (λk l m n o a=> ?_)<|j;exact⟨i,k,l,m,n,f.at o,by rw [jM (fq.mp a).1];exact a⟩⟩
theorem gR.cons(e:gR e3 b c)(f:p.scope.kind≠ .module)(g:p.frame=Q j)(h:b.l[a]? =Q (Q j))(i:c[a]? =Q (.ns D)):gR (p::e3) b c:=
 ⟨λk d=>by
  obtain rfl|d:=bO.mp d
  .exact⟨f,j,a,D,g,h,i⟩
  .exact e.all k d⟩
theorem Tk(m:am b c e):∀{a:M bH},gR a b c->(∀f∈qP a,i.get? f=U)->e.heap.FunFrames i a:=by
 intro n
 induction n with
 |nil=>exact λ_ _=>eG
 |cons h a o=>
  exact λj g=>by
   refine aA (λp q=> ?_)<|j.all h (.head _);refine nT (λd r E k s t=> ?_)<|q;refine ac (λK u v=> ?_)<|m.mo r d _ s t;refine nT (λw L P x y v=> ?_)<|id u;have z:qP (h::a)=d::qP a:=by unfold qP;rw [ii,k]
   rw [z] at g;exact⟨p,⟨d,w,k,g d<|.head _,x,λS l=>by rw [y] at l;cases l⟩,o ⟨λA B=>j.all A<|.tail _ B⟩ λf D=>g f<|.tail _ D⟩
theorem am.slots(f:am b c e)(m:∀a∈d9,∃(g:N) (s:M (I×R)),b.l[g]? =Q (Q a)/\c[g]? =Q (.ns s))(n:∀a h,a∉d9->e.heap.get? a=Q h->i.get? a=Q h)(p:e.heap.UpToSlots i):
 aH b e b {e with heap:=i}/\am b c {e with heap:=i}:=by
 revert b c e i d9 f m n p
 apply U5
 generalize P4 _=i,Q4 _=d9,Q3 _=e,Q2 _=c,Q1 _=b
 intro f m n p
 have q:aH b e b {e with heap:=i}:=⟨ba _,λ_ _=>O,λ_ _ o d=>bD (fO d)<|cq.mpr o,O,λa h x d=>n a h (λk=>by obtain⟨g,_,j,_⟩:=m a k;exact x<|iZ j) d,λa y=>by
  obtain⟨h,d⟩:=y
  by_cases k:a∈d9
  .obtain⟨g,s,j,r⟩:=m a k
   obtain⟨w,⟨z,Z,a0,A,B,_⟩,_⟩:=f.mo g a _ j r
   obtain⟨a1,D⟩:=p a z A λa2 j=>by rw [B] at j;cases j
   exact⟨_,D⟩
  .exact⟨h,n a h k d⟩,O,O,O⟩
 refine⟨q,f.next q f.len (λ_ _ _ o d=>bD (fO d)<|cq.mpr o) (λg l h t u=> ?_) (λ_ _ o d=>bD (fO d)<|cq.mpr o) f.tk⟩
 by_cases k:l∈d9
 .obtain⟨E,s,j,r⟩:=m l k
  cases f.inj g E l t j
  rw [u] at r;cases r
  obtain⟨w,K,L⟩:=f.mo g l _ t u
  exact⟨w,p.ns K,λv P S=>(by obtain⟨T,V,Y⟩:=L v P S;exact⟨T,V,Y.car q.car⟩)⟩
 .exact(f.mo g l h t u).car q.car λv d=>n l v k d
structure jm(a2:M bH)(a3:I)(a4:ar)(x:M G)(a5:al)(a6:aa)(a7:al):Prop where
 ex:∃j y c o Y v a8 i,a6= .ref Y/\a7={c with heap:=i}/\aH a4 a5 j c/\am j (x++y) c/\Heap.FlyingW o a2 Y (.type "ValueError") (.ref v) i/\i.TupAt v [.str a3 a8]/\o.get? v=U/\c.heap.UpToSlots i/\ ∃Z:M ao,(∀h∈Z,∃(a0:N) (a9:M (I×R)),j.l[a0]? =Q (Q h)/\(x++y)[a0]? =Q (.ns a9))/\∀h a1,c.heap.get? h=Q a1->h∉Z->o.get? h=Q a1
theorem jm.up(a:aH b e x e9)(d:jm e3 g x (c++V) e9 k S):jm e3 g b c e k S:=by
 revert b x e S e3 g c V e9 k a d;apply U10;generalize P9 _=e3,Q9 _=e,Q8 _=S,Q7 _=e9,Q6 _=g,Q5 _=k,Q4 _=c,Q3 _=V,Q2 _=b,Q1 _=x;intro a d;obtain⟨i,j,l,m,n,o,p,q,r,s,t,f,u,v,w,y,z,h,A⟩:=d.ex
 rw [eo] at f h;exact⟨i,V++j,l,m,n,o,p,q,r,s,a.trans t,f,u,v,w,y,z,h,A⟩
theorem SX{a:ek->al->Prop}(l:f.frames=Q (p::e3))(m:p.frame=Q j)(n:aH b e x S)(d:am x (c++V) S)(h:gR (p::e3) x (c++V))
 (k:Heap.MadeExc S.heap i a7 "ValueError" [.str g c1]) (o:∀t,jm e3 g b c e (.ref a7) t->a () t):an (az aq ap) f (uv p<|.ref a7) a aB {S with heap:=i}:=by
 revert b x c e f p e3 j g c1 S V i a7 a l m n d h k o
 apply U15
 generalize P14 _=j,Q14 _=a7,Q13 _=f,Q12 _=p,Q11 _=i,Q10 _=e3,Q9 _=e,Q8 _=S,Q7 _=g,Q6 _=c1,Q5 _=c,Q4 _=V,Q3 _=b,Q2 _=x,Q1 _=a
 intro l m n d h k o
 refine wpAny_leaves_madeW (base:=W.hideAll S.heap<|qP (p::e3)) (h:=S.heap) l m (λq u r=>W.of_hideAll _ r) (Tk d h λq s=>W.hideAll_none _ s) (ay7 k) λv w y z A B=>o _ ⟨x,V,S,_,a7,w,c1,v,O,O,n,d,y,z,A,(ay9 k.keeps).trans B,qP (p::e3),λq s=>h.mem s,λq u r D=>W.hideAll_get _ r D⟩
theorem SY{a:ek->al->Prop}(d:f.frames=Q (p::e3))(h:p.frame=Q j)(i:jm (p::e3) g b c e k S)(l:∀m,jm e3 g b c e k m->a () m):
 an (az aq ap) f (uv p k) a aB S:=by
 revert b c e S f p e3 j g k a d h i l
 apply U11
 generalize P10 _=j,Q10 _=f,Q9 _=p,Q8 _=e3,Q7 _=e,Q6 _=S,Q5 _=g,Q4 _=k,Q3 _=c,Q2 _=b,Q1 _=a
 intro d h i l
 obtain⟨o,q,r,s,t,u,v,T,rfl,rfl,w,x,y,z,A,B,D,E,K⟩:=i.ex
 exact wpAny_leaves_onW d h y λL P n=>l _ ⟨o,q,r,s,t,u,v,L,O,O,w,x,P,z.of_slots n,A,B.trans n,D,E,K⟩
set_option backward.match.sparseCases true in
theorem KA(gl:ht gl)(q:f.depth<1000)(g:am b c e)(r:oy a k j1)(m:rD (bI a)=X)(s:j1 K b5 l1)(t:iq e.heap b l1 D)(o:∀u,sw ⟨bI a,c.length,gH (bI a).names (c.length+1) [],u,U⟩ D (c++ .ns []::ho (bI a).names) λZ=>Z=c++V)(p:∀d j i u,aH b e j i->am j (c++V) i->d.frame=Q d.locals->d.scope.kind≠ .module->j.l[c.length]? =Q (Q d.locals)->(∀l,bp l ai j d ⟨bI a,c.length,gH (bI a).names (c.length+1) [],u,U⟩)->
 an (az aq ap) (f.deeper d) (jY (bu a) d) (λa0 i=>g6 (match a0 with| .ret k=>k|_=> .none) i) (λn i=>an (az aq ap) (f.deeper d) (uv d n) (λ_ a1=>a6 n a1) a6 i) i):
 ie e k/\an (az aq ap) f (dF k K b5) g6 a6 e:=by
 revert b c e f a6 a k j1 K b5 l1 D V g6 gl q g r m s t o p
 apply U14
 generalize P13 _=f,Q13 _=b5,Q12 _=l1,Q11 _=K,Q10 _=j1,Q9 _=a,Q8 _=e,Q7 _=k,Q6 _=a6,Q5 _=g6,Q4 _=D,Q3 _=c,Q2 _=V,Q1 _=b
 intro gl q g r m s t o p
 obtain⟨x,a2,h,rfl,y,z,a3,a4,a5,a7,a8,a9,b0⟩:=r.ex
 unfold rD at m
 simp only [eJ,lr,uh,fX] at m
 revert m;refine aA λb1 A=> ?_;refine aA (λb2 B=> ?_)<|b1;refine aA (λb3 E=> ?_)<|b2;refine aA (λv L=> ?_)<|b3
 rw [<-a9] at v L E B A o p
 refine⟨.inr<|.inr ⟨x,a2,h,O,g.base _ _ y,z⟩,?_⟩
 refine AC<|Fk q (g.base _ _ y) z E L a3 (Kd a4 g.base) (b0 e g.base _ _ _ s _ _ _ _ ?_)
 have c2:e.heap.NoLimit:=gl.lim.keeps g.base
 rw [a8,a5,a7]
 refine xw g (l0:=[]) (g8:=[]) eG λj c3 b4 P c4 b6 S n=> ?_
 have T:∀l,bp l ai j (qA h.scope e.heap.objs.size gC b4 (h.qualname++bC ".<locals>.") (Q x) h.code U kG) ⟨h.scope,c.length,gH h.scope.names (c.length+1) [],h.qualname++bC ".<locals>.",U⟩:=λl=>⟨(λb7=>(by exact cY b7)),O,v,n,S,O,O,B,A,O,λS b8=>(by exact aU b8)⟩
 refine bQ (Kv (t.car P.car) (o _) b6<|T _) λ_ b9 ⟨c0,c5,w,Y,c1⟩=>⟨gl.lim.keeps Y.base,Fl ?_⟩
 subst c1
 exact p _ c0 b9 _ (P.trans w) Y O (by refine(?_:h.scope.kind≠_);rw [v];decide) (w.at n) λl=>(T l).ext w
theorem Hr{s:R->M R->M G->Prop}(q:ej ai a d u.E)(r:br a d f)(x:am b c e)(y:bp f ai b p o)(z:∀B D E,v≠ .Attribute B D E)(m:c6.all fQ=X)
 (K:u.E v o c λh L=>kt u c6 [] o L λi j=>s h i j)
 (P:∀h i j k g n t,s h i j->aH b e k g->am k j g->aR g.heap k n h->dN g.heap k t i->ie g n/\an (az aq ap) f (dF n t []) g6 a6 g):
 an (az aq ap) f (cQ (.Call v c6 [] A) p) g6 a6 e:=by
 rw [sy z]
 refine aJ<|eO (ez q r x y K λh a4 a5 a7 l S T V Y Z=>pc (a6:=a6) (g6:=g6) (lb m) O<|pg (lb m) O ?_) (λ_ _ l=>l) λ_ _ l=>l.elim
 refine bQ (rC q r m Z T V) λi a8 a0=> ?_
 obtain⟨a9,b0,b1,w,a1,a2,a3⟩:=a0
 exact bP<|P _ _ _ _ _ _ _ a3 (S.trans w) a1 (w.rel Y) a2
theorem tl(a:bi y i b k (.raw Y)):k=Y:=a.inv
theorem yB(b:br 0 (a+10) f):br 0 a (f.deeper p):=⟨b.hh,by have:=b.d;refine(?_:f.depth+1+a+0<1000);exact af 0 (C+1+J+0+1) 1000 (.p 1 (C+(J+10)+0+1) 1000 .z) (aN _ _) O this,by have:=b.u;refine(?_:f.units+3+20*(a+0)+90<hJ);exact af 0 (((C+3+(bn 20<|J+0))+90)+1) aj (.p 1 (((C+(bn 20<|J+10+0))+90)+1) aj .z) (bk _ _ _) O this⟩
theorem Dp(d:gR e3 b c)(f:p.scope.kind≠ .module)(g:p.frame=Q p.locals)(h:x.l[c.length]? =Q (Q p.locals))(i:aH b e x S)(a:aH x S j3 e9):gR (p::e3) j3 (c++ [.ns D]):= (d.ext<|i.trans a).cons f g (a.at h)<|by rw [tY (ba _),qq] at ⊢;rfl
noncomputable def mF(a b:R)(c:H)(d:R):M (I×R):=[("a",a),("x",b),("lo",.int c),("hi",d),("key",.none)]
structure hc(c:N):Prop where
 f:∃h,oy c (bS c) (lg h)
 sc:rD (bI c)=X
 loc:∀i∈(["a","x","lo","hi","key"]:M I),(bI c).names.lookup i=Q .local
 own:ho (bI c).names=[]
theorem hc.b1(a:db):hc 1:=⟨⟨_,a.fn 1 O⟩,by decide+kernel,by decide+kernel,O⟩
theorem hc.b2(a:db):hc 2:=⟨⟨_,a.fn 2 O⟩,by decide+kernel,by decide+kernel,O⟩
theorem hc.b3(a:db):hc 3:=⟨⟨_,a.fn 3 O⟩,by decide+kernel,by decide+kernel,O⟩
theorem hc.b4(a:db):hc 4:=⟨⟨_,a.fn 4 O⟩,by decide+kernel,by decide+kernel,O⟩
set_option backward.match.sparseCases true in
theorem GT(q:db)(i:hc a)(r:br 0 30 f)(s:am b c e)
 (t:aR e.heap b k h) (u:aR e.heap b Y L) (v:aR e.heap b f0 (.int a5)) (w:aR e.heap b i6 d2) (x:(K=[k,Y,f0]/\i6= .none)\/K=[k,Y,f0,i6])
 (y:∀d j g o,aH b e j g->am j (c++ [.ns (mF h L a5 d2)]) g->d.frame=Q d.locals->d.scope.kind≠ .module->j.l[c.length]? =Q (Q d.locals)->(∀z,bp z ai j d ⟨bI a,c.length,gH (bI a).names (c.length+1) [],o,U⟩)-> an (az aq ap) (f.deeper d) (jY (bu a) d) (λl g=>a6 (match l with| .ret A=>A|_=> .none) g) (λp g=>an (az aq ap) (f.deeper d) (uv d p) (λ_ B=>g6 p B) g6 g) g):
 ie e (bS a)/\an (az aq ap) f (dF (bS a) K []) a6 g6 e:=by
 refine ay (λD l=> ?_)<|i.f
 have E:lg D K [] [("a",k),("x",Y),("lo",f0),("hi",i6),("key",.none)]:=by
  refine⟨_,_,_,_,_,O,?_⟩;obtain⟨m,P⟩|m:=x
  .exact .inr<|.inr (.inl ⟨m,O,P,O⟩)
  .exact .inr<|.inr (.inr<|.inl ⟨m,O,O⟩)
 refine KA q.gl (cd (aK (dS _ _)<|dS _ _) r.d) s l i.sc E (D:=mF h L a5 d2) (.cons t<|.cons u (.cons v<|.cons w (.cons .none .nil))) (λo=> ?_) y
 rw [i.own]
 exact AY O (λn S=>i.loc n.1<|qk (f:=λn:I×R=>n.1) S) O
theorem Hq(g:db)(l:hc a)(m:(bI a).names.lookup ("ValueError":I)=Q .globalImplicit)(n:bu a= .If v [.Raise (Q<|.Call (.Name "ValueError" A) [.Constant (.str ga) d e4] [] k0) U m4] [] m5::d4)(o:f.frames=Q e3)(i:br 0 30 f)(p:am b c e)(q:gR e3 b c)(r:∀V j,(bt (cB 0) 20).T v ⟨bI a,c.length,j,V,U⟩ (c++ [.ns (mF h L a5 d2)]) λj s=>j=X/\s=c++ [.ns (mF h L a5 d2)])(t:aR e.heap b k h)(u:aR e.heap b Y L)(w:aR e.heap b f0 (.int a5))(x:aR e.heap b i6 d2)(y:(K=[k,Y,f0]/\i6= .none)\/K=[k,Y,f0,i6]):
 ie e (bS a)/\an (az aq ap) f (dF (bS a) K []) a6 (λZ z=>jm e3 ga b c e Z z) e:=by
 revert b c e f e3 a v A e4 k0 m4 m5 d d4 k Y f0 i6 h L d2 a5 K a6 g l m n o i p q r t u w x y
 apply U20
 generalize P19 _=f,Q19 _=v,Q18 _=a5,Q17 _=e3,Q16 _=d4,Q15 _=K,Q14 _=a,Q13 _=d,Q12 _=A,Q11 _=e4,Q10 _=k0,Q9 _=m4,Q8 _=m5,Q7 _=e,Q6 _=k,Q5 _=Y,Q4 _=f0,Q3 _=i6,Q2 _=a6,Q1 _=h
 apply U4
 generalize P3 _=L,Q3 _=d2,Q2 _=c,Q1 _=b
 intro g l m n o i p q r t u w x y
 refine GT g l i p t u w x y λB c6 z V a0 b1 a1 b2 b3 D=> ?_
 have a2:=g.base 0
 have E:br 0 20 (f.deeper B):=yB i
 have D:=D<|f.deeper B
 rw [n]
 generalize mF h L a5 d2=a3 at*
 refine oR ?_
 rw [Fp]
 refine aJ<|iT (aJ<|eO (oa (mf a2 20).T E b1 D (r _ _) λj c7 c8 c9 a4 a7 a8 b4=> ?_) (λ_ _ L=>L) λ_ _ L=>L.elim)
 revert b4;refine aA λb5 P=> ?_;obtain rfl:=b5;obtain rfl:=P
 refine oR<|au8 PySem.F.excCall_ValueError PySem.F.excRaise_ValueError E.hh (tq g.gl a7 a8 (h:= .raw<|.type "ValueError") ?_ λd0 b6=>⟨tl b6,?_⟩)
 .refine(?_:bL ((bI a).names.lookup ("ValueError":I)) _=_);rw [m];rfl
 .refine bQ (rC (mf a2 20).E E (c6:=[.Constant (.str ga) d e4]) (e:=[]) O (h:=λa9 s=>a9=[.str ga]/\s=c++ [.ns a3]) (show _/\_ from⟨O,O⟩) a7 a8) λa9 d1 b7=> ?_
  obtain⟨b8,d3,b9,b0,c0,c1,S,c2⟩:=b7
  subst c2
  have S:b9=[.str ga]:=S
  subst S
  cases c1 with
  |cons c3 c4=>
   cases c4
   refine ay (λd5 P=> ?_)<|c3.str_inv;obtain rfl:=P
   exact⟨by refine(?_:1<=wU);decide+kernel,λd6 Z c5=>bQ (SX (e3:=e3) (j:=B.locals) (x:=b8) (V:=[.ns a3]) (ES o) a1 ((a0.trans a4).trans b0) c0 (Dp q b2 a1 b3 a0<|a4.trans b0) c5 λz T=>T) λ_ _ T=>T⟩
theorem BJ(d:db)(s:a=2\/a=4)(g:f.frames=Q e3)(i:br 0 30 f)(j:am b c e)(l:gR e3 b c)(m:a5<0)
 (n:aR e.heap b k h) (o:aR e.heap b Y L) (p:aR e.heap b f0 (.int a5)) (q:aR e.heap b i6 d2) (r:(K=[k,Y,f0]/\i6= .none)\/K=[k,Y,f0,i6]):
 ie e (bS a)/\an (az aq ap) f (dF (bS a) K []) a6 (λt u=>jm e3 ga b c e t u) e:=by
 obtain rfl|rfl:=s
 .exact Hq d (hc.b2 d) (by decide+kernel) O g i j l (λv w=>be (cA O O O) ⟨ck m,O⟩) n o p q r
 .exact Hq d (hc.b4 d) (by decide+kernel) O g i j l (λv w=>be (cA O O O) ⟨ck m,O⟩) n o p q r
theorem br.half(a:br 0 60 f):br 0 30 f:=⟨a.hh,by have:=a.d;exact af 0 (C+30+0+1) 1000 (.p 1 (C+60+0+1) 1000 .z) (bj _) O this,by have:=a.u;exact af 0 (((C+(bn 20<|30+0))+90)+1) J (.p 1 (((C+(bn 20<|60+0))+90)+1) J .z) (aN _ _) O this⟩
theorem br.forty(a:br 0 60 f):br 0 40 f:=⟨a.hh,by have:=a.d;exact af 0 (C+40+0+1) 1000 (.p 1 (C+60+0+1) 1000 .z) (bj _) O this,by have:=a.u;exact af 0 (((C+(bn 20<|40+0))+90)+1) J (.p 1 (((C+(bn 20<|60+0))+90)+1) J .z) (aN _ _) O this⟩
theorem Ht(l:db)(n:d=2\/d=4)(o:hc a)(p:bu a= .If v [.Assign [c5] (.Call i7 c6 [] A) e4] d4 k0::l7)(q:∀b2 b3 b4,i7≠ .Attribute b2 b3 b4)(r:c6.all fQ=X)(s:ka (.Call i7 c6 [] A) (Q c5) e4.line (gn<|bI a)=dj ai)(t:f.frames=Q e3)(j:br 0 60 f)(u:am b c e)(w:gR e3 b c)(x:a5<0)(y:∀m g,(bt (cB 0) 20).T v ⟨bI a,c.length,g,m,U⟩ (c++ [.ns (mF h L a5 .none)]) λg b5=>g=X/\b5=c++ [.ns (mF h L a5 .none)])(z:∀m g,(bt (cB 0) 20).E i7 ⟨bI a,c.length,g,m,U⟩ (c++ [.ns (mF h L a5 .none)]) λT b6=>kt (bt (cB 0) 20) c6 [] ⟨bI a,c.length,g,m,U⟩ b6 λV Z=>T= .raw (bS d)/\V=[h,L,.int a5,.none]/\Z=c++ [.ns (mF h L a5 .none)])(B:aR e.heap b k h)(D:aR e.heap b Y L)(E:aR e.heap b f0 (.int a5)):
 ie e (bS a)/\an (az aq ap) f (dF (bS a) [k,Y,f0] []) a6 (λa0 a1=>jm e3 ga b c e a0 a1) e:=by
 revert b c e f e3 a d v c5 i7 c6 A e4 k0 d4 l7 k Y f0 h L a5 a6 l n o p q r s t j u w x y z B D E
 apply U20
 generalize P19 _=f,Q19 _=v,Q18 _=c5,Q17 _=i7,Q16 _=a5,Q15 _=e3,Q14 _=c6,Q13 _=d4,Q12 _=l7,Q11 _=a,Q10 _=d,Q9 _=A,Q8 _=e4,Q7 _=k0,Q6 _=e,Q5 _=k,Q4 _=Y,Q3 _=f0,Q2 _=a6,Q1 _=h
 apply U3
 generalize P2 _=L,Q2 _=c,Q1 _=b
 intro l n o p q r s t j u w x y z B D E
 refine GT l o j.half u B D E .none (.inl ⟨O,O⟩) λa2 d6 a1 m a3 b7 a4 b8 b9 K=> ?_
 have a7:=l.base 0
 have K:=K<|f.deeper a2
 have a8:=ES (env:=a2) t
 rw [p]
 generalize mF h L a5 .none=d7 at*
 refine oR ?_
 rw [Fp]
 refine aJ<|iT (aJ<|eO (oa (mf a7 20).T (yB j.half) b7 K (y _ _) λg d8 d9 e0 a9 c0 b0 c1=> ?_) (λ_ _ L=>L) λ_ _ L=>L.elim)
 revert c1;refine aA λP S=> ?_;obtain rfl:=P;obtain rfl:=S
 refine oR<|FQ b0 s (Hr (mf a7 20).E (yB j.half) c0 b0 q r (z _ _) λT V Z e1 e2 e5 e6 i b1 c2 c3 c4=> ?_)
 revert i;refine dH λP S c7=> ?_;obtain rfl:=P;obtain rfl:=S;obtain rfl:=c7
 cases tl c3
 refine vv (λe7 e8 e9 f1 c8 c9 d0 d1 d2=> ?_)<|c4.un4;obtain rfl:=c8
 refine aA (λd3 d5=> ?_)<|BJ l n a8 (yB (a:=30) j.forty) c2 (Dp w b8 a4 b9 a3<|a9.trans b1) x c9 d0 d1 d2 (.inr O) (a6:=λ_ _=>cn)
 exact⟨d3,eO d5 (λ_ _ L=>L.elim) λa0 f2 i=>bQ (SY a8 a4 (jm.up ((a3.trans a9).trans b1) i) λf3 i=>i) λ_ _ i=>i⟩
theorem Hs(g:db)(u:(a=1/\d=2)\/(a=3/\d=4))(m:f.frames=Q e3)(n:br 0 60 f)(o:am b c e)(p:gR e3 b c)(q:a5<0)
 (r:aR e.heap b k h) (s:aR e.heap b Y L) (t:aR e.heap b f0 (.int a5)):
 ie e (bS a)/\an (az aq ap) f (dF (bS a) [k,Y,f0] []) a6 (λv w=>jm e3 ga b c e v w) e:=by
 obtain⟨rfl,rfl⟩|⟨rfl,rfl⟩:=u
 .exact Ht g (.inl O) (hc.b1 g) O (λ_ _ _ i=>(by cases i)) O O m n o p q (λj l=>be (cA O O O) ⟨O,O⟩) (λj l=>be (cA O O O)<|be (cA O O O) (be (cA O O O)<|be (cA O O O) ⟨O,O,O⟩)) r s t
 .exact Ht g (.inr O) (hc.b3 g) O (λ_ _ _ i=>(by cases i)) O O m n o p q (λj l=>be (cA O O O) ⟨O,O⟩) (λj l=>be (cA O O O)<|be (cA O O O) (be (cA O O O)<|be (cA O O O) ⟨O,O,O⟩)) r s t
def NS(g:N)(h:R)(i:M R)(j:M (I×R))(k:M G)(l:aQ):Prop:= ∀(c:bR) (b:ar) (a:al) (d:aa) (e:M aa) (f:M (I×aa)),br g 0 c->nE c b->am b k a-> aR a.heap b d h->dN a.heap b e i->iq a.heap b f j->ie a d/\an (az aq ap) c (dF d e f) (bg b a l) aB a
def jb(a:N):bY:=λb c d e f=>gA a b c d e f\/NS a b c d e f
theorem db.top(b:db)(c:N):jh X (jb c) c:=⟨b.gl,b.hs,λ_ _ _ _ _ a d e f g h i j k=>a.elim (λa=>a d e f g h i j) λa=>a d e f g h i j<|k O⟩
theorem Xh(d:i.Ns j g5)(c:i.get? j=Q g3):∃a b,g3.data= .dict a b:=by revert d;refine nT λh a b e f k=> ?_;rw [e] at c;(revert c;refine aL λg=> ?_;subst g);exact⟨a,b,f⟩
theorem Hu(k:am b c e)(o:∀a∈d9,∃(d:N) (l:M (I×R)),b.l[d]? =Q (Q a)/\c[d]? =Q (.ns l))(p:∀a f,e.heap.get? a=Q f->a∉d9->i.get? a=Q f)(q:e.heap.UpToSlots c0)(m:i.get? j=U)(r:c0.get? j=Q g3)(s:∀g h,g3.data≠ .dict g h):Q j∉b.l:=λt=>by
 refine ay (λd u=> ?_)<|kX t;refine ay (λf v=> ?_)<|k.ex d j u;by_cases n:j∈d9
 .refine dw (λw l x y=> ?_)<|o j n;refine ac (λB z D=> ?_)<|k.mo w j _ x y;refine tc (λg h A=> ?_)<|Xh (q.ns z) r;exact s g h A
 .rw [p j f v n] at m;exact rr m
theorem SW{z:bV}{r:io->al->Prop}(o:db)(B:f.frames=Q (p::e3))(E:f.units+10<hJ)(K:p.frame=Q p.locals)(a4:b.l[c.length]? =Q (Q p.locals))(s:∀i,bp i ai b p ⟨bI 73,c.length,[],g,U⟩)(j:jm (p::e3) T b (c++ [.ns D]) e k S)(L:∀t a5 d V,aH b e a5 V->am a5 (c++d) V->r (.ret<|.str T t) V):
 an (az aq ap) f (Fs k p) (λ_ c4=>an (az aq ap) f (setFlight k U) (λ_ c5=>an (az aq ap) f (handleBy k p [.ExceptHandler (Q<|.Name "ValueError" A) (Q "error") [.Return (Q<|.Call (.Name "str" e4) [.Name "error" k0] [] m4) m5] z]) r aB c5) aB c4) aB S:=by
 revert b c e f e3 p g T D k S A e4 k0 m4 m5 z r o B E K a4 s j L
 apply U18
 generalize P17 _=f,Q17 _=p,Q16 _=e3,Q15 _=A,Q14 _=e4,Q13 _=k0,Q12 _=m4,Q11 _=m5,Q10 _=e,Q9 _=S,Q8 _=g,Q7 _=T,Q6 _=k,Q5 _=D,Q4 _=c,Q3 _=b,Q2 _=z,Q1 _=r
 intro o B E K a4 s j L
 obtain⟨a6,d,g2,g3,n,a7,t,g4,rfl,rfl,Y,u,c6,c7,c8,c9,g5,v,w⟩:=j.ex
 refine wpAny_looks_onW B K c6 λg6 d0 a8=>wpAny_landsW d0 λg7 Z a9=> ?_
 have b0:=(c9.trans a8).trans a9
 obtain⟨d1,d2⟩:=u.slots v (λa h l k=>Z.1 a h<|w a h k l) b0
 have d3:=λi=>((s i).ext Y).ext d1
 obtain⟨d4,d5,d6⟩:=Z.there
 refine wpAny_handleBy_builtin_as (X:= "ValueError") (T:= "ValueError") (b:=X) PySem.F.isExc_ValueError PySem.F.notTuple_ValueError (by rw [isSubtype_type] at ⊢;kernel_rfl)<|tq o.gl d2 (d3 _) (h:= .raw<|.type "ValueError") O λd7 a0=>⟨tl a0,⟨d4,d5,d6⟩,?_⟩
 refine aw7 Z λg8 a1 b1=> ?_
 have a2:=b0.trans b1
 obtain⟨b2,b3⟩:=u.slots v (λa h l k=>a1.1 a h<|w a h k l) a2
 have b4:=λi=>((s i).ext Y).ext b2
 have d8:=((c7.of_slots a8).of_slots a9).of_slots b1
 obtain⟨d9,e0,b5,e1,b6,e2⟩:=a1.first
 obtain⟨e5,e6,b7,e7,b8⟩:=id d8
 have e8:Q n∉a6.l:=Hu u v w a2 a1.2.1 b5 λe9 l g=>by rw [b6] at g;cases g
 have f0:Q a7∉a6.l:=Hu u v w a2 c8 b7 λe9 l g=>by rw [b8] at g;cases g
 have g9:(c++ .ns D::d)[c.length]? =Q (.ns D):=by rw [tY (ba _),qq] at ⊢;rfl
 have f1:(c++ [G.ns D]++d)=c++ .ns D::d:=by rw [eo] at ⊢;rfl
 rw [f1] at b3
 refine bQ (tu (V:=c++ .ns (gK D "error"<|.raw (.ref n))::d) b3 (b4 _) (g:= "error") (h:= .raw<|.ref n) (.raw _) (mS (o:=⟨bI 73,c.length,[],g,U⟩) O O) (e0:=λf2=>f2=c++ .ns (gK D "error"<|.raw (.ref n))::d) O) λ_ q f3=> ?_
 obtain⟨a3,h0,x,y,f4⟩:=f3
 subst f4
 have m:=λi=>(b4 i).ext x
 refine oR<|OU ?_
 rw [sy (v:= .Name "str" e4) (λ_ _ _ j=>(by cases j))] at ⊢
 refine aJ<|tq o.gl y (m _) (h:= .blt .str) O λh1 f5=> ?_
 cases xh f5
 refine pc O O<|pg O O ?_
 refine oF (tq o.gl y (m _) (h:= .raw<|.ref n) (cA O O<|by rw [LM] at ⊢;rfl) λd7 a0=> ?_) O
 cases tl a0
 refine bP<|bP ⟨.inr<|.inl ⟨_,O⟩,?_⟩
 refine P.str_of_exc_one (t0:=a7) PySem.F.excStr_ValueError (by refine(?_:f.units+2<hJ);exact af 0 (C+2+1) J (.p 1 (C+10+1) J .z) (aN _ _) O E) (m:=T) (tk:=t) ⟨d9,e0,x.keep _ _ e8 b5,e1,b6,e2⟩ ⟨e5,e6,x.keep _ _ f0 b7,e7,b8⟩ ?_
 obtain⟨h2,f6,_⟩:=y.mo c.length p.locals _ ((m f).ns)<|by rw [tY (ba _),qq] at ⊢;rfl
 have f7:p.kindOf "error"=Q .local :=by unfold jW;rw [(m f).sc] at ⊢;rfl
 refine wpAny_nameGoes f7 f6 (by rw [(m f).sc,show(bI 73).kind= .function from O] at ⊢;rfl) λb9 f8 c0 f9=> ?_
 obtain⟨c1,c2⟩:=lX c0
 have c3:∀a h,a≠p.locals->q.heap.get? a=Q h->b9.get? a=Q h:=λa h l k=>(f9.2 a l).trans k
 have g0:aH a3 q a3 {q with heap:=b9,toks:=q.toks+1}:=aH.upd (m f).ns c3 ⟨c1,c2⟩
 have g1:=y.upd (x:= .ns []) (n:=q.toks+1) (fT _) (m f).ns c3 ⟨f8,c0,λ_ _ j=>(by cases j)⟩ ⟨c1,c2⟩
 refine L t a3 (.ns []::d) _ (((Y.trans b2).trans x).trans g0) ?_
 have:(c++G.ns (gK D "error"<|.raw (.ref n))::d).set c.length (.ns [])=c++ .ns []::d:=by rw [Nt _ _ (ba _),qq] at ⊢;rfl
 rw [<-this] at ⊢;exact g1
noncomputable def tm(a b:N)(c:H):M (I×R):=[("search",.raw (bS a)),("row",.loc b),("low",.int c)]
theorem br.twenty(a:br 0 60 f):br 0 20 f:=⟨a.hh,by have:=a.d;exact af 0 (C+20+0+1) 1000 (.p 1 (C+60+0+1) 1000 .z) (bj _) O this,by have:=a.u;exact af 0 (((C+(bn 20<|20+0))+90)+1) J (.p 1 (((C+(bn 20<|60+0))+90)+1) J .z) (aN _ _) O this⟩
theorem SV(g:db)(d:a∈[4,2,3,1])(i:f.frames=Q e3)(j:br 0 60 f)(l:am b c e)(m:gR e3 b c)(n:a5<0)
 (o:aR e.heap b k h) (p:aR e.heap b Y L) (q:aR e.heap b f0 (.int a5)):
 ie e (bS a)/\an (az aq ap) f (dF (bS a) [k,Y,f0] []) a6 (λr s=>jm e3 ga b c e r s) e:=by
 obtain rfl|d:=bO.mp d
 .exact BJ g (.inr O) i j.half l m n o p q .none<|.inl ⟨O,O⟩
 obtain rfl|d:=bO.mp d
 .exact BJ g (.inl O) i j.half l m n o p q .none<|.inl ⟨O,O⟩
 obtain rfl|d:=bO.mp d
 .exact Hs g (.inr ⟨O,O⟩) i j l m n o p q
 .rw [bU.mp d];exact Hs g (.inl ⟨O,O⟩) i j l m n o p q
theorem YD(g:am b c e)(h:s (.str ga) c)(i:aH b e x S)(j:am x (c++V) S):bg b e s (.str ga c1) S:= JU g (i8:=λa d=>a= .str ga/\∃f,d=c++f) ⟨x,_,.str ga,i,j,.str _ _,O,V,O⟩ λa d k=>by revert k;refine aA λl m=> ?_;obtain rfl:=l;refine ay (λf n=> ?_)<|m;obtain rfl:=n;exact⟨O,c,sC O λp q o=> .inl o,h⟩
set_option backward.match.sparseCases true in
theorem YC{l:bH}{t:bV}{u:bV}{w:bV}{y:bV}(j:db)(z:a∈[4,2,3,1])(B:a5<0)(D:s (.str ga) c)(E:am b c e)(m:aH b e x S)(K:am x (c++ [.ns (tm a d a5)]) S)(L:gR [l] b c)(n:f.frames=Q [p,l])(k:br 0 60 f)(o:p.frame=Q p.locals)(P:p.scope.kind≠ .module)(q:x.l[c.length]? =Q (Q p.locals))(i:∀T,bp T ai x p ⟨bI 73,c.length,[],g,U⟩)(V:∀a7 a8 a9,v≠ .Attribute a7 a8 a9)(Y:c6.all fQ=X)(Z:ka (.Call v c6 [] A) U e4.line (gn<|bI 73)=dj ai)(a0:(bt (cB 0) 20).E v ⟨bI 73,c.length,[],g,U⟩ (c++ [.ns (tm a d a5)]) λa1 b0=>kt (bt (cB 0) 20) c6 [] ⟨bI 73,c.length,[],g,U⟩ b0 λa2 a3=>a1= .raw (bS a)/\a2=[.loc d,.tup [.int 0,.int 0],.int a5]/\a3=c++ [.ns (tm a d a5)]):
 an (az aq ap) f (jY (.Try [.Expr (.Call v c6 [] A) e4] [.ExceptHandler (Q<|.Name "ValueError" k0) (Q "error") [.Return (Q<|.Call (.Name "str" m4) [.Name "error" m5] [] t) u] w] [] [] y::d4) p) (λb1 S=>bg b e s (match b1 with| .ret a4=>a4|_=> .none) S) a6 S:=by
 revert a d a5 c s f b x e S p l a6 g v c6 A e4 k0 m4 m5 t u w y d4 j z B D E m K L n k o P q i V Y Z a0
 apply U20
 generalize P19 _=f,Q19 _=p,Q18 _=v,Q17 _=a5,Q16 _=c6,Q15 _=d4,Q14 _=a,Q13 _=d,Q12 _=A,Q11 _=e4,Q10 _=k0,Q9 _=m4,Q8 _=m5,Q7 _=e,Q6 _=S,Q5 _=g,Q4 _=a6,Q3 _=c,Q2 _=b,Q1 _=x
 apply U6
 generalize P5 _=s,Q5 _=l,Q4 _=t,Q3 _=u,Q2 _=w,Q1 _=y
 intro j z B D E m K L n k o P q i V Y Z a0
 have b2:=j.base 0
 generalize tm a d a5=c7 at*
 refine oR<|wpAny_Try_except (oR<|wpAny_Expr (Hr (mf b2 20).E (k.twenty) K (i _) V Y a0 λa1 a2 a3 c8 c9 a4 d0 h r b3 b4 b5=> ?_) ?_ ?_)
 .revert h;refine dH λb6 b7 b8=> ?_;obtain rfl:=b6;obtain rfl:=b7;obtain rfl:=b8
  cases tl b4
  refine mP (λd1 d2 d3 b9 c0 c1 c2=> ?_)<|b5.un3;obtain rfl:=b9
  exact And.imp_right (λh=>eO h (λ_ _ c3=>False.elim c3) λd5 d6 h=>bQ (SW j n (by have:=k.u;exact af 0 (C+10+1) J (.p 1 (((C+(bn 20<|60+0))+90)+1) J .z) (aN _ _) O this) o (r.at q) (λT=>(i T).ext r) h λd7 x d8 d9 c4 c5=>YD E D ((m.trans r).trans c4) c5) λ_ _ h=>bQ h λ_ _ h=>bQ h λ_ _ h=>h)<|SV j z n k b3 (Dp L P o q m r) B c0 c1 c2
 .unfold OQ;rw [(i f).sc];rfl
 .rw [yN (i f),show ka _ _ _ (gn<|bI 73)=_ from Z]
theorem XI(b:db)(c:100<=a):AJ (jb a):=by
 revert a b c;apply U1;generalize Z1 _=a;intro b c;intro i n j b1 k o b2 p f b3 q;refine .inr λd r b4 b5 b6 b7 e s l t u v=> ?_;cases tl t;cases v;refine gb (λm w x y z A=> ?_)<|s.ex;revert f;refine ay λB f=> ?_;have D:gR [m] r o:=⟨λb8 E=>by rw [bU.mp E];exact⟨z,w,1,B,y,A,f⟩⟩
 refine mP (λK L P S T V Y=> ?_)<|u.un3;obtain rfl:=S;refine KA b.gl (by have:=e.d;exact af 0 (C+1) 1000 (.p 1 (C+0+J+1) 1000 .z) (aN _ _) O this) l (b.fn 73 O) (by decide+kernel) (V:=[.ns (tm i j k)]) (l1:=[("search",K),("row",L),("low",P)]) ⟨O,O,O⟩ (D:=tm i j k) (.cons T<|.cons V (.cons Y .nil)) (λZ=>AY O (λg a0=> ?_) O) λh b9 c0 Z X a2 a3 a4 a5 a6=> ?_
 .have:∀a7∈(["search","row","low"]:M I),(bI 73).names.lookup a7=Q .local :=by decide+kernel
  exact this g.1<|qk (f:=λg:I×R=>g.1) a0
 .have c1:=b.base 0
  have a8:(d.deeper h).frames=Q [h,m]:=ES x;have a9:br 0 60 (d.deeper h):=⟨e.hh,by have:=e.d;refine(?_:d.depth+1+60+0<1000);exact af 0 (C+1+60+0+1) 1000 (.p 1 100 J<|.p 1 (C+0+J+1) 1000 .z) (aN _ _) O c this,by have:=e.u;refine(?_:d.units+3+20*(60+0)+90<hJ);exact af 0 (((C+3+(bn 20<|60+0))+90)+1) J (.p 20 100 aj<|.p 1 (((C+(bn 20<|0+aj))+90)+1) J .z) (bk _ _ _) O c this⟩
  exact YC b n p q l X a2 D a8 a9 a3 a4 a5 a6 (λ_ _ _ b0=>(by cases b0)) O O<|be (cA O O O) (be (cA O O O)<|be (cA O O O) ⟨O,O,O⟩)
def dX:M N->M N->Prop
 |[],b=>b=[]
 |c::d,b=>bif c==10 then ∃e a,b=e++a/\dX d a else ∃a,b=c::a/\dX d a
def lh:M (M N)->M N->Prop
 |[],_=>kc
 |b::c,d=>∃e a,d=e++(b++a)/\lh c a
theorem Lh(b:M N)(a:lh e7 m):lh e7 (b++m):=by
 cases e7 with
 |nil=>trivial
 |cons f e7=>(revert a;refine dw λc d e a=> ?_;obtain rfl:=e);exact⟨b++c,d,by rw [eo],a⟩
theorem Li:lh ([]::e7) m↔lh e7 m:= ⟨λ⟨c,d,b,a⟩=>by rw [b];exact Lh _ a,λa=>⟨[],m,O,a⟩⟩
theorem Dn:∀{b:M (M N)} {a:M N},lh (b++ [[]]) a↔lh b a:=by
 intro g
 cases g with
 |nil=>exact @λa=>⟨λ_=>eG,λ_=>⟨[],a,O,eG⟩⟩
 |cons j b=>exact @λa=>⟨λh=>(by(revert h;refine dw λc d e f=> ?_);exact⟨c,d,e,Dn.mp f⟩),λi=>(by(revert i;refine dw λc d e f=> ?_);exact⟨c,d,e,Dn.mpr f⟩)⟩
theorem vd:dX (10::m) b7↔∃b a,b7=b++a/\dX m a:=tS
theorem xG(c:a≠10):dX (a::m) b7↔∃b,b7=a::b/\dX m b:=by refine(?_:(bif a==10 then _ else _)↔_);rw [eP.mpr c];rfl
theorem sJ:∀{c e d:M N},(∀g∈c,g≠10)->(dX (c++e) d↔∃a,d=c++a/\dX e a):=by
 intro l
 induction l with
 |nil=>exact @λe d _=>⟨λb=>⟨d,O,b⟩,λ⟨a,m,b⟩=>by subst m;exact b⟩
 |cons g c k=>
  exact @λe d h=>by
   refine(?_:dX (g::(c++e)) d↔_);rw [xG (h g<|.head _)];constructor
   .intro n;(revert n;refine ac λa f b=> ?_;obtain rfl:=f);refine ac (λo f p=> ?_)<|(k λi j=>h i<|.tail _ j).mp b;obtain rfl:=f;exact⟨o,O,p⟩
   .intro q;(revert q;refine ac λa f b=> ?_;obtain rfl:=f);exact⟨c++a,O,(k λi j=>h i<|.tail _ j).mpr ⟨a,O,b⟩⟩
noncomputable def yS(a:M (M N)):M N:=a.flatMap (10:: ·)
theorem HI(n:∀i∈m,i≠10):∀{f:M (M N)} {d:M N},(∀c∈f,∀i∈c,i≠10)->(dX (yS<|f++ [m]) d↔∃b,d=b++m/\lh f b):=by
 intro q
 induction q with
 |nil=>
  exact @λd _=>by
   refine(?_:dX (10::(m++ [])) d↔_);rw [vd];constructor
   .intro r;(revert r;refine dw λe g j h=> ?_;obtain rfl:=j);refine ac (λs a k=> ?_)<|(sJ n).mp h;obtain rfl:=a;subst k;exact⟨e,by rw [cZ],eG⟩
   .intro t;(revert t;refine ac λb a B=> ?_;obtain rfl:=a);exact⟨b,m,O,(sJ n).mpr ⟨[],(cZ _).symm,O⟩⟩
 |cons c f o=>
  exact @λd l=>by
   refine(?_:dX (10::(c++yS (f++ [m]))) d↔_);have p:=λu v=>l u<|.tail _ v;rw [vd];constructor
   .intro w;(revert w;refine dw λe g j h=> ?_;obtain rfl:=j);refine ac (λs a k=> ?_)<|(sJ<|l c (.head _)).mp h;obtain rfl:=a;refine ac (λb a x=> ?_)<|(o p).mp k;obtain rfl:=a;exact⟨e++(c++b),by simp only [eo],e,b,O,x⟩
   .intro y;(revert y;refine ac λb a z=> ?_;obtain rfl:=a;refine dw (λe g A h=> ?_)<|z;obtain rfl:=A);exact⟨e,c++(g++m),by simp only [eo],(sJ<|l c (.head _)).mpr ⟨g++m,O,(o p).mpr ⟨g,O,h⟩⟩⟩
noncomputable def fY:M N->M N
 |[]=> []
 |b::a=>bif b==10&&(fY a).head? ==Q 10 then fY a else b::fY a
theorem TA:dX (10::10::m) b7↔dX (10::m) b7:=by
 rw [vd];constructor
 .intro b;(revert b;refine dw λc i d e=> ?_;obtain rfl:=d;refine dw (λf g h a=> ?_)<|e;obtain rfl:=h);exact⟨c++f,g,by rw [eo],a⟩
 .exact λa=>⟨[],b7,O,a⟩
theorem HH(c:∀b,dX m b↔dX b7 b)(b:M N):dX (a::m) b↔dX (a::b7) b:=by refine(?_:(bif a==10 then _ else _)↔(bif a==10 then _ else _));simp only [c]
theorem Tz:∀(a b:M N),dX (fY a) b↔dX a b:=by
 intro g
 induction g with
 |nil=>exact λb=>tS
 |cons c a e=>
  exact λb=>by
   refine(?_:dX (bif c==10&&(fY a).head? ==Q 10 then fY a else c::fY a) b↔_)
   cases h:(c==10&&(fY a).head? ==Q 10) with
   |false=>exact HH (e) b
   |true=>
    refine aA (λi j=> ?_)<|fp.mp h;rw [show c=10 from hd i];refine DZ ?_<|HH (e) b;have d:(fY a).head? =Q 10:=hd j
    cases f:fY a with
    |nil=>rw [f] at d;exact aU d
    |cons l m=>rw [f] at d;(revert d;refine aL λk=> ?_;subst k);exact TA.symm
section
open Builtin Builtin.Str
noncomputable abbrev aO(a:I):M N:=a.cps.toList
theorem AS(h:a<=g.length):Ao g T a d↔d<=a/\∃i,((aO g).take a).drop d=aO T++i:=by
 have j:(aO g).length=g.length:=na;have k:(aO T).length=T.length:=na;have e:sg g T d=X↔((aO g).take<|d+T.length).drop d=aO T:=by unfold sg;rw [fX,<-pQ,tL,tX,rT]
 constructor
 .intro l;(revert l;refine aA λb c=> ?_);refine⟨aK (dS _ _) b,((aO g).take a).drop<|d+T.length,?_⟩;rw [<-e.mp c,rT,rT,rT,show a - d=(d+T.length - d)+(a - (d+T.length)) by rw [qo,fS,<-Nat.sub_sub,dD (Nat.le_sub_of_add_le' b)],List.take_add,ng];rw [qo]
 .intro m;(revert m;refine aA λb n=> ?_;refine ay (λi c=> ?_)<|n);have f:=bq iM c;rw [jO,qh,bN] at f;refine⟨by exact ao5 _ _ _ _ _ _ _ h j k b f,e.mpr ?_⟩;have:=bq (wk (aO T).length) c;rw [wm,rT,Ny] at this;rw [<-this,rT];congr 1;exact ao6 _ _ _ _ _ _ _ _ _ h j k e b f
theorem Xp(d e:I)(a b:N):(fj d e a b 1=[]/\∀c,a<=c->c<=b->¬Ao d e b c)\/
 ∃c r,fj d e a b 1=c::r/\a<=c/\Ao d e b c/\∀h,a<=h->h<c->¬Ao d e b h:=by
 revert d e a b
 apply U4
 generalize P3 _=d,Q3 _=e,Q2 _=a,Q1 _=b
 rw [OI]
 obtain⟨g,j⟩|⟨u,m,v,n,g,s,j⟩:=StrLaws.occ_first d e b 1 (ba _) (rY a<|b+1 - a) a λc f=>(wi.mp f).1
 .exact .inl ⟨by rw [g],λc k i=>j c<|wi.mpr ⟨k,by exact af 0 (C+1) (J+aj) (.p 1 C bo<|.p 1 (bo+1) (aj+J) .z) (di _ _ _ _) O i<|dz _ _⟩⟩
 .refine .inr ⟨m,?_⟩
  have o:m∈rY a (b+1 - a):=by rw [n];exact ff _<|.head _
  have l:(rY a<|b+1 - a).Pairwise (· < ·):=List.pairwise_lt_range'
  rw [<-zd] at g
  refine⟨(mn (rY a<|b+1 - a) (#[],a)<|wK d e b 1).run.fst.toList.tail,?_,(wi.mp o).1,s,λh k i=>j h ?_⟩
  .revert g
   generalize(mn (rY a<|b+1 - a) (#[],a)<|wK d e b 1).run.fst.toList=p
   intro g
   cases p with
   |nil=>exact aU g
   |cons w p=>(revert g;refine aL λt=> ?_;subst t);rfl
  .have q:h∈rY a (b+1 - a):=wi.mpr ⟨k,by have:=(wi.mp o).2;exact af 0 (C+1) (J+aj) (.p 1 (C+1) bo<|.p 1 (bo+1) (J+aj) .z) (di _ _ _ _) O i this⟩
   rw [n] at q l
   obtain f|f:=dQ.mp q
   .exact f
   .exfalso
    rw [List.pairwise_append] at l
    obtain rfl|f:=bO.mp f
    .exact cp (.p 1 (C+1) C .z) (bj _) O i
    .have:=List.rel_of_pairwise_cons l.2.1 f;exact cp (.p 1 (C+1) J<|.p 1 (J+1) C .z) (aN _ _) O i this
end
theorem uO(b:m.drop a=b7++l5):m.drop (a+b7.length)=l5:=by rw [<-ng,b,tV]
theorem GO(i:a<=g.length):∀{f:M I} {b:N},b<=a->(mI g a b f=X↔lh (f.map aO) (((aO g).take a).drop b)):=by
 intro x
 induction x with
 |nil=>exact @λb _=>⟨λ_=>eG,λ_=>O⟩
 |cons d f y=>
  exact @λb q=>by
   have r:((aO g).take a).length=a:=by rw [qh,show(aO g).length=g.length from na];exact lB i
   have s:(aO d).length=d.length:=na;obtain⟨m,n⟩|⟨c,P,m,z,t,n⟩:=Xp g d b a
   .refine⟨λj=> ?_,λ⟨e,k,l,o⟩=> ?_⟩
    .rw [xt,m] at j;exact cY j
    .have h:=bq iM l
     rw [jO,r,bN] at h
     exact bD ((AS i).mpr ⟨by exact af 0 (C+J) aj (.f 1 bo (J+fW)<|.q 1 (bo+C) aj .z) (ky _ _ _ _ _) O h<|dD (af 0 C J (.p 1 C J .z) (aN _ _) O q),k,by rw [<-uO l]⟩)<|n (b+e.length) (dS _ _) (by exact af 0 (C+J) aj (.f 1 bo (J+fW)<|.q 1 (bo+C) aj .z) (ky _ _ _ _ _) O h<|dD (af 0 C J (.p 1 C J .z) (aN _ _) O q))
   .have S:=t.1
    refine aA (λl A=> ?_)<|(AS i).mp t;refine ay (λB o=> ?_)<|A;have u:=uO o;rw [s] at u;have D:mI g a (c+d.length) f=X↔_:=y (show c+d.length<=a by assumption);rw [xt,m];refine(?_:mI g a (c+d.length) f=X↔_);rw [D];constructor
    .intro j
     refine⟨(((aO g).take a).drop b).take<|c - b,B,?_,u▸j⟩
     rw [<-o,show c=b+(c - b) by exact aZ (af 0 C (J+aj) (.p 1 C (aj+J) .z) (bk _ _ _) O<|dz _ _)<|af 0 (C+J) aj (.q 1 (J+C) aj .z) (bk _ _ _) O (dD<|af 0 C J (.p 1 C J .z) (aN _ _) O z),<-ng,qo,kA]
    .intro E;(revert E;refine dw λe k p K=> ?_)
     have h:=bq iM p
     rw [jO,r,bN] at h
     have L:c<=b+e.length:=jU λv=>n _ (dS _ _) v<|(AS i).mpr ⟨by exact af 0 (C+J) aj (.p 1 bo aj<|.p 1 (C+J+1) bo .z) (di _ _ _ _) O l v,k,uO p⟩
     have w:=uO<|uO p
     rw [s] at w
     have:((aO g).take a).drop (c+d.length)=(((aO g).take a).drop<|c+d.length).take (b+e.length - c)++k:=by conv=>lhs;rw [<-kA (b+e.length - c) (((aO g).take a).drop<|c+d.length),ng,show c+d.length+(b+e.length - c)=b+e.length+d.length by exact aZ (af 0 (C+J+aj) (bo+fW+J) (.q 1 (aj+C) (bo+fW) .z) (ky _ _ _ _ _) O<|dD (af 0 C (J+aj) (.p 1 C (J+aj) .z) (bk _ _ _) O L))<|af 0 (C+J+aj) (bo+aj+fW) (.p 1 (C+J) (fW+bo) .z) (ky _ _ _ _ _) O (dz _ _),w]
     rw [this];exact Lh _ K
theorem fd(a:I):(aO a).length=a.length:=na
theorem lN(a:aO g=aO T):g=T:=An<|pQ.mp a
theorem Sk:qs g T=X↔∃a,aO g=a++aO T:=by
 have b:=fd g;have c:=fd T;unfold qs sg;rw [eJ,fX,<-pQ,tL,tX,kg];constructor
 .intro h;(revert h;refine aA λi e=> ?_);refine⟨(aO g).take<|g.length - T.length,?_⟩;rw [ly (by rw [jO,b,qo,NP (fw T.length▸i)];exact ba _)] at e;rw [show aO T=_ from e.symm,kA]
 .intro j;(revert j;refine ay λa f=> ?_);have d:=bq iM f;rw [bN] at d;refine⟨by rw [fw,<-b,d,c];exact EE _ _,?_⟩;refine(?_:wk _ (zt _<|aO g)=aO T);rw [f,show g.length - T.length=a.length by rw [<-b,d,c,zM],tV];exact ly<|by rw [qo,c];exact ba _
theorem af1:qt g T=X↔∃a,aO g=aO T++a:=by
 have d:=fd g;have e:=fd T;unfold qt sg;rw [eJ,fX,<-pQ,tL,tX,kg];constructor
 .intro f;(revert f;refine aA λj h=> ?_);refine⟨(aO g).drop T.length,?_⟩;rw [show aO T=_ from h.symm,show 0+T.length - 0=T.length by exact fS _ _,qd,kA]
 .intro i;(revert i;refine ay λa b=> ?_);have c:=bq iM b;rw [bN] at c;refine⟨by exact af 0 (0+C) J (.q 1 aj J<|.f 1 bo C (.f 1 aj (bo+fW) .z)) (ky _ _ _ _ _) O d e c,?_⟩;refine(?_:wk _ (zt _<|aO g)=aO T);rw [b,qd,show 0+T.length - 0=(aO T).length by exact fS _ _,wm]
theorem GN(e:d<=g.length):lQ g a d a4=X↔a<=d/\lh (a4.map aO) (((aO g).take d).drop a):=by
 unfold lQ;rw [eJ];constructor
 .intro f;(revert f;refine aA λb c=> ?_)
  have b:a<=d:=by simpa using b
  exact⟨b,(GO e b).mp c⟩
 .intro h;(revert h;refine aA λb c=> ?_);exact⟨by simpa using b,(GO e b).mpr c⟩
theorem BB(i:a<=g.length)(f:M I):lR g a (f++ [T])=X↔∃d,(aO g).drop a=d++aO T/\lh (f.map aO) d:=by
 have h:=fd g;have j:=fd T;unfold lR;rw [List.getLastD_concat,MN]
 cases o:(T.length !=0) with
 |true=>
  refine(?_:(qs g T&&lQ g a (g.length - T.length) f)=X↔_);rw [eJ,Sk,GN (lC _ _)];constructor
  .intro p;(revert p;refine dH λq e l=> ?_;refine ay (λr b=> ?_)<|q)
   have c:=bq iM b;rw [bN] at c;refine⟨r.drop a,?_,?_⟩
   .rw [h,j] at c;rw [b,wd (by rw [c,zM] at e;exact e)]
   .rw [h,j] at c;rw [b,c,zM,wm] at l;exact l
  .intro s;(revert s;refine ac λd b e=> ?_)
   have c:=bq iM b;rw [bN,jO] at c;have m:aO g=((aO g).take a++d)++aO T:=by rw [eo,<-b,kA]
   have k:((aO g).take a).length=a:=by rw [qh,h];exact lB i
   have n:g.length - T.length=a+d.length:=by rw [h,j] at c;rw [<-Nat.add_sub_cancel' i,c,<-lz,zM]
   refine⟨⟨_,m⟩,n▸dS _ _,?_⟩
   have:(aO g).take (g.length - T.length)=(aO g).take a++d:=by
    conv=>lhs;rw [m]
    rw [show g.length - T.length=((aO g).take a++d).length by rw [bN,k,n],wm]
   rw [this,wd (dM k.symm),qc (dM k)];exact e
 |false=>
  have x:T.length=0:=by simpa using o
  have t:aO T=[]:=Er.mp (by assumption);refine(?_:lQ g a g.length (f++ [T])=X↔_);rw [GN (ba _),de,da,zF,t,Dn,ly (by exact ba _)];constructor
  .intro u;(revert u;refine aA λy v=> ?_);exact⟨_,(cZ _).symm,v⟩
  .intro w;(revert w;refine ac λd b e=> ?_);rw [cZ] at b;exact⟨i,b▸e⟩
theorem Sf(d:M I):nK g T (d++ [f9])=X↔∃b,aO g=aO T++(b++aO f9)/\lh (d.map aO) b:=by
 have h:=fd g;have f:=fd T;unfold nK
 cases j:(T.length !=0) with
 |true=>
  refine(?_:(qt g T&&lR g T.length (d++ [f9]))=X↔_);rw [eJ,af1];constructor
  .intro k;(revert k;refine aA λl c=> ?_;refine ay (λr a=> ?_)<|l);have e:=bq iM a;rw [bN] at e;obtain⟨b,i,m⟩:=(BB (by exact af 0 C J (.q 1 aj J<|.f 1 bo C (.f 1 aj (bo+fW) .z)) (ky _ _ _ _ _) O h f e) d).mp c;rw [a,<-f,tV] at i;exact⟨b,by rw [a,i],m⟩
  .intro n;(revert n;refine ac λb a c=> ?_);have e:=bq iM a;rw [bN] at e;refine⟨⟨_,a⟩,(BB (by exact af 0 C J (.q 1 aj J<|.f 1 bo C (.f 1 aj (bo+fW) .z)) (ky _ _ _ _ _) O h f e) d).mpr ⟨b,?_,c⟩⟩;rw [a,<-f,tV]
 |false=>
  have s:T.length=0:=by simpa using j
  have o:aO T=[]:=Er.mp (by assumption);refine(?_:lR g 0 ((T::d)++ [f9])=X↔_);rw [BB (cy _),da,o,qd];exact⟨λp=>(by(revert p;refine ac λb a c=> ?_);exact⟨b,a,Li.mp c⟩),λq=>(by(revert q;refine ac λb a c=> ?_);exact⟨b,a,Li.mpr c⟩)⟩
noncomputable def xT:M (M N)->M N
 |[]=> []
 |a::b=>a++yS b
theorem Sg(a:(hI g eE).map aO=e7)(r:(fj g eE 0 g.length 1).isEmpty=(e7.length==1))(b:∀d∈e7,∀c∈d,c≠10)(s:e7.length=1->e7=[aO g])(t:e7≠[]):
 hz g T=X↔dX (xT e7) (aO T):=by
 unfold hz
 rw [r]
 cases e:(e7.length==1) with
 |true=>
  refine(?_:aI (g=T)=X↔_)
  rw [s (hd e)] at b ⊢
  refine(?_:_↔dX (aO g++ []) (aO T))
  rw [sJ (b _<|.head _),kg]
  constructor
  .rintro rfl;exact⟨[],(cZ _).symm,O⟩
  .intro u;(revert u;refine ac λn o v=> ?_);rw [show n=[] from v,cZ] at o;exact(lN o).symm
 |false=>
  refine(?_:nK T ((hI g eE).headD eE) (hI g eE).tail=X↔_)
  revert a
  generalize hI g eE=f
  intro a
  cases f with
  |nil=>exact bD a.symm t
  |cons d f=>
   obtain rfl|⟨h,i,rfl⟩:=List.eq_nil_or_concat f
   .rw [<-a] at e;exact gX e
   .rw [List.concat_eq_append] at a ⊢
    rw [<-a] at b ⊢
    refine(?_:nK T d (h++ [i])=X↔dX (aO d++yS ((h++ [i]).map aO)) (aO T))
    rw [Sf,sJ (b _<|.head _),de,da,zF]
    have p:∀c∈aO i,c≠10:=b _<|.tail _ (by rw [de];exact ff _<|.head _)
    have q:∀j∈h.map aO,∀c∈j,c≠10:=λj w=>b j<|.tail _ (by rw [de];exact eH _ w)
    constructor
    .intro x;(revert x;refine ac λk l m=> ?_);exact⟨_,l,(HI p q).mpr ⟨k,O,m⟩⟩
    .intro y;(revert y;refine ac λn l m=> ?_)
     refine ac (λk z A=> ?_)<|(HI p q).mp m;obtain rfl:=z
     exact⟨k,l,A⟩
section
open PySem.Builtin.Str (tooLong occurrences subAt glued partsBetween strSub)
noncomputable def gI:M N->M N->ah
 |[],_=>X
 |_::_,[]=>ai
 |a::b,c::d=>bif cU a c then gI b d else ai
noncomputable def hE(b:M N):M N->N->N->M N
 |[],_,_=> []
 |e::c,a,d=>bif bif ei d a then gI b (e::c) else ai then a::hE b c (a+1) (a+b.length) else hE b c (a+1) d
theorem CU:∀{a b:M N},gI a b=X↔b.take a.length=a:=by
 intro h
 cases h with
 |nil=>exact @λb=>⟨λ_=>O,λ_=>O⟩
 |cons d a=>
  intro i
  cases i with
  |nil=>exact⟨(by intro g;first|contradiction|(intros;contradiction)),(by intro g;first|contradiction|(intros;contradiction))⟩
  |cons e b=>
   exact by
    refine(?_:(bif cU d e then gI a b else ai)=X↔e::b.take a.length=d::a)
    cases f:cU d e with
    |true=>rw [show d=e from ni f];exact CU.trans ⟨λc=>by rw [c],λc=>(ms c).2⟩
    |false=>refine⟨(by intro g;first|contradiction|(intros;contradiction)),λc=> ?_⟩;rw [(ms c).1,nh] at f;exact gX f
theorem Dv{a b:I}{c:N}(g:c<=a.length):(c+b.length<=a.length/\sg a b c=X)↔gI (aO b) ((aO a).drop c)=X:=by
 have h:=fd a;have e:=fd b;unfold sg;rw [fX,<-pQ,tL,tX,CU,qo,<-e];constructor
 .exact λd=>d.2
 .intro d;have f:=bq iM d;rw [qh,jO,h,e] at f;exact⟨by rw [e,fS];exact(Nat.le_sub_iff_add_le g).mp<|aK (dM f.symm) (wt _ _),d⟩
theorem Xq(j:1<=T.length):∀(c:M N) (a:N) (b:eR N×N),(aO g).drop a=c->a+c.length=g.length->b.1.size<=a->
 (mn (rY a<|g.length+1 - a) b<|wK g T g.length (g.length+1)).run.fst.toList=b.1.toList++hE (aO T) c a b.2:=by
 revert g T j
 apply U2
 generalize P1 _=g,Q1 _=T
 intro j
 intro r
 induction r with
 |nil=>exact λa b k d f=>by have d:a=g.length:=d;rw [show g.length+1 - a=1 by rw [d,qo],List.range'_one,qf] at ⊢;unfold wK;rw [bF (λe=>bD (aK (kB j a) e.1.2)<|by rw [d];exact NL _)] at ⊢;exact(cZ _).symm
 |cons l c m=>
  exact λa b k d f=>by
   have d:a+(c.length+1)=g.length:=d;have n:(aO g).drop (a+1)=c:=by rw [<-ng,k] at ⊢;rfl
   have o:a<g.length:=by rw [<-d] at ⊢;exact wp<|fT _
   have p:a+1+c.length=g.length:=by rw [<-d,fg] at ⊢;rfl
   have q:= @Dv g T a<|dx o;rw [k] at q;rw [show g.length+1 - a=(g.length+1 - (a+1))+1 by rw [Nat.add_sub_add_right];exact Nat.succ_sub<|dx o,List.range'_succ,qf] at ⊢;unfold wK;show _=_++(bif bif ei b.2 a then gI (aO T) (l::c) else ai then _ else _);by_cases h:gI (aO T) (l::c)=X
   .refine aA (λs t=> ?_)<|q.mpr h
    by_cases i:b.2<=a
    .rw [bK ⟨⟨⟨uf<|aK f (dx o),i⟩,s⟩,t⟩,zN i,h] at ⊢
     refine(m (a+1) _ n p<|by show(b.1.push a).size<=_;rw [Mk] at ⊢;exact fi f).trans ?_
     show(b.1.push a).toList++hE (aO T) c (a+1) (a+T.length)=b.1.toList++(a::hE (aO T) c (a+1) (a+(aO T).length))
     rw [Array.toList_push,eo,fd] at ⊢;rfl
    .rw [bF (λe=>i e.1.1.2),show ei b.2 a=ai from rL.mpr λe=>i<|bA e] at ⊢;exact m (a+1) _ n p<|hf f
   .rw [bF (λe=>h<|q.mp ⟨e.1.2,e.2⟩),show gI (aO T) (l::c)=ai from rL.mpr h] at ⊢
    have:(bif bif ei b.2 a then ai else ai then a::hE (aO T) c (a+1) (a+(aO T).length) else hE (aO T) c (a+1) b.2)=hE (aO T) c (a+1) b.2:=by cases ei b.2 a<;>rfl
    rw [this] at ⊢;exact m (a+1) _ n p<|hf f
theorem JB(a:1<=T.length):fj g T 0 g.length (g.length+1)=hE (aO T) (aO g) 0 0:=by rw [OI];exact Xq a (aO g) 0 (#[],0) O (by rw [fd];exact fS _ _)<|cy _
noncomputable def pd(a:M N)(c:N):N->M N->M (M N)
 |b,[]=> [a.drop b]
 |b,d::e=>(a.take d).drop b::pd a c (d+c) e
noncomputable def gu(a b:M N):M (M N):=pd b a.length 0<|hE a b 0 0
noncomputable def sK(a:M N):M (M N)->M N
 |[]=> []
 |b::c=>b++c.flatMap (a++ ·)
theorem RT(a:I)(c:N):∀(d:M N) (b:N),(((b::d.map (· +c)).zip<|d++ [a.length]).map λf:N×N=>strSub a f.1 f.2).map aO=pd (aO a) c b d:=by
 intro g
 induction g with
 |nil=>exact λb=>by refine(?_:[(a.cps.extract b a.length).toList]=[(aO a).drop b]);rw [tL,tX,ly (by rw [jO];exact Nat.sub_le_sub_right (dM<|fd a) _)]
 |cons e d h=>exact λb=>by refine(?_:(a.cps.extract b e).toList::_=(zt b<|wk e (aO a))::pd (aO a) c (e+c) d);rw [tL,tX,rT];exact bq _<|h (e+c)
theorem CP(a:I)(b:N)(c:M N):(wC a c b).map aO=pd (aO a) b 0 c:=RT a b c 0
theorem KI{b:M N}:∀{a:M N} {c d:N},a.length<b.length->hE b a c d=[]
 |[],_,_,_=>O
 |e::a,c,d,f=>by
  have g:a.length+1<b.length:=f;have:gI b (e::a)=ai:=rL.mpr λh=>by have:=bq iM<|CU.mp h;rw [qh,gO] at this;exact cp (.p 1 (C+1+1) J<|.f 1 aj J (.p 1 aj (C+1) .z)) (bk _ _ _) O g this<|wt _ _
  refine(?_:(bif bif ei d c then gI b (e::a) else ai then _ else _)=_);rw [this];refine DU ?_<|KI (b:=b) (a:=a) (c:=c+1) (d:=d) (by exact dx ‹_›);cases ei d c<;>rfl
theorem ae0(d:1<=T.length)(e:wD T=1):(hI g T).map aO=gu (aO T) (aO g):=by
 unfold hI gu;rw [JB d,<-fd T,<-CP,e] at ⊢;have f:aI (wD g<1)=ai:=cN (by unfold wD;split<;>(try split)<;>decide);have c:∀b:M N,b=[]->(wC g b (aO T).length).map aO=[aO g]:=λb a=>by rw [a,CP] at ⊢;rfl
 rw [f,Ml] at ⊢;split
 .next a=>rw [c _ (KI<|by rw [fd,fd];exact hW a)] at ⊢;rfl
 .split
  .next a=>rw [c _ (jN.mp a)] at ⊢;rfl
  .rfl
theorem TC(c:I):∀(b:M I) (a:eR N),(b.foldl (λe d=>e++c.cps++d.cps) a).toList=a.toList++(b.map aO).flatMap (aO c++ ·):=by
 intro f
 induction f with
 |nil=>exact λa=>(cZ _).symm
 |cons d b g=>exact λa=>by rw [Em,g,tK,tK];rw [da,eT,eo,eo,eo]
theorem xH(b:I)(a:M I):aO (oG b a)=sK (aO b) (a.map aO):=by
 cases a with
 |nil=>rfl
 |cons c a=>exact TC b a c.cps
noncomputable def nY(a b c:M N):M N:=sK b<|gu a c
theorem Kl(a:1<=T.length):aO (fU g T f9)=nY (aO T) (aO f9) (aO g):=by
 unfold fU nY gu;rw [JB a,show(T.length==0)=ai from eP.mpr<|by exact wv ‹_›,Bool.false_and,Ml];split
 .next b=>
  rw [jN.mp b]
  refine(?_:aO g=(aO g).drop 0++ [])
  rw [cZ];rfl
 .rw [xH,CP,fd]
end
theorem JW(f:∀a b,e8 a=e8 b->a=b):∀d c:M N,gI (d.map e8) (c.map e8)=gI d c
 |[],c=>O
 |_::_,[]=>O
 |a::d,b::c=>by refine(?_:(bif cU (e8 a) (e8 b) then gI (d.map e8) (c.map e8) else ai)=bif cU a b then gI d c else ai);rw [JW f d c,show cU (e8 a) (e8 b)=cU a b from oq.mpr ⟨λe=>by rw [f _ _ (ni e)];exact nh _,λe=>by rw [ni e];exact nh _⟩]
theorem ab1(h:∀e f,e8 e=e8 f->e=f)(b:M N):∀(c:M N) (a d:N),hE (b.map e8) (c.map e8) a d=hE b c a d:=by
 intro i
 induction i with
 |nil=>exact λ_ _=>O
 |cons j c g=>exact λa d=>by refine(?_:(bif bif ei d a then gI (b.map e8) ((j::c).map e8) else ai then a::hE (b.map e8) (c.map e8) (a+1) (a+(b.map e8).length) else hE (b.map e8) (c.map e8) (a+1) d)=_);rw [JW h,aW,g,g];rfl
theorem RR(d:N)(b:M N):∀(c:M N) (a:N),pd (b.map e8) d a c=(pd b d a c).map (ft e8):=by
 intro e
 induction e with
 |nil=>exact λa=>by refine(?_:[(b.map e8).drop a]=_);rw [<-zD];rfl
 |cons f c g=>exact λa=>by refine(?_:((b.map e8).take f).drop a::_=_);rw [<-zG,<-zD,g];rfl
theorem Lb(e:∀a b,e8 a=e8 b->a=b)(c d:M N):gu (c.map e8) (d.map e8)=(gu c d).map (ft e8):=by unfold gu;rw [ab1 e,aW,RR]
theorem TB(b:M N)(a:M (M N)):sK (b.map e8) (a.map<|ft e8)=(sK b a).map e8:=by
 cases a with
 |nil=>rfl
 |cons c a=>refine(?_:c.map e8++(a.map<|ft e8).flatMap _=(c++a.flatMap _).map e8);rw [de,zE,zw];congr 1;exact bq (a.flatMap ·)<|vc λd=>(de).symm
theorem Ki(f:∀a b,e8 a=e8 b->a=b)(c d e:M N):nY (c.map e8) (d.map e8) (e.map e8)=(nY c d e).map e8:=by unfold nY;rw [Lb f,TB]
theorem RI(h:∀d e,e8 d=e8 e->d=e)(f:e8 10=10):∀a:M N,fY (a.map e8)=(fY a).map e8:=by
 intro i
 induction i with
 |nil=>exact O
 |cons b a j=>
  exact by
   have g:∀b,(e8 b==10)=(b==10):=λb=>oq.mpr ⟨λc=>fX.mpr<|h _ _ ((hd c).trans f.symm),λc=>by rw [hd c,f];rfl⟩;refine(?_:(bif (e8 b==10)&&(fY<|a.map e8).head? ==Q 10 then fY (a.map e8) else e8 b::fY (a.map e8))=(bif (b==10)&&(fY a).head? ==Q 10 then fY a else b::fY a).map e8)
   rw [j,g b,show(((fY a).map e8).head? ==Q 10)=((fY a).head? ==Q 10) by
    cases fY a with
    |nil=>rfl
    |cons k l=>exact g k]
   cases(b==10&&(fY a).head? ==Q 10)<;>rfl
theorem Ub(d:e8 10=10):∀a:M (M N),xT (a.map<|ft e8)=(xT a).map e8:=by
 intro e
 cases e with
 |nil=>exact O
 |cons b a=>exact by refine(?_:b.map e8++(a.map<|ft e8).flatMap _=(b++a.flatMap _).map e8);rw [de,zE,zw];congr 1;exact bq (a.flatMap ·) (vc λc=>by refine(?_:10::c.map e8=e8 10::c.map e8);rw [d])
theorem ab2{c:M N}:∀{b:M N} {d e:N},e<=d->(hE c b d e=[]↔∀a,a<b.length->gI c (b.drop a)=ai):=by
 intro k
 induction k with
 |nil=>exact @λd e _=>⟨λ_ a f=>bD f<|zQ _,λ_=>O⟩
 |cons h b l=>
  exact @λd e i=>by
   refine(?_:(bif bif ei e d then gI c (h::b) else ai then _ else _)=_↔_);rw [zN i];refine(?_:(bif gI c (h::b) then _ else _)=_↔_)
   cases j:gI c (h::b) with
   |true=>exact⟨(by intro m;first|contradiction|(intros;contradiction)),λg=>by cases j.symm.trans (g 0<|fT _)⟩
   |false=>
    refine DZ (l<|hf i) ⟨λg a f=> ?_,λg a f=>g (a+1)<|Nat.succ_lt_succ f⟩
    cases a with
    |zero=>exact j
    |succ a=>exact g a<|NH f
theorem Tf(k:1<=T.length):(fj g T 0 g.length 1).isEmpty=((gu (aO T)<|aO g).length==1):=by
 have l:∀(g:M N) (h d:N) (b:M N),(pd g h d b).length=b.length+1:=λg h d b=>by
  induction b generalizing d with
  |nil=>rfl
  |cons s b m=>exact bq (· +1)<|m _
 unfold gu;rw [l,<-Bool.not_inj_iff,oq,StrLaws.found_iff];have i:= @ab2 (aO T) (aO g) 0 0<|ba _;have n:=fd g;constructor
 .intro o;(revert o;refine ac λp f q=> ?_)
  have j:=(Dv<|by exact af 0 C J (.p 1 (C+aj) J .z) (bk _ _ _) O f).mp ⟨f,q⟩
  cases r:hE (aO T) (aO g) 0 0 with
  |nil=>rw [i.mp r p (by exact af 0 (C+1) J (.p 1 1 aj<|.f 1 J bo (.p 1 (C+aj) bo .z)) (di _ _ _ _) O k n f)] at j;exact cY j
  |cons d t=>rfl
 .intro e
  by_cases a:∀c,c<(aO g).length->gI (aO T) ((aO g).drop c)=ai
  .rw [i.mpr a] at e;exact cY e
  .refine ay (λc a=> ?_)<|at0.mp a
   refine aA (λu a=> ?_)<|at1.mp a
   exact⟨c,(Dv<|by exact dx ‹_›).mpr<|by cases e:gI (aO T) ((aO g).drop c) with|true=>rfl|false=>exact bD e a⟩
noncomputable def hY(a b:N)(c:M N):M N:=c.flatMap λd=>match d with
 |0=> [a]
 |1=> [b]
 |_=> [46,46,46]
noncomputable def fN(a b c:N):N:=match c with
 |0=>a
 |1=>b
 |_=>10
noncomputable def nX(a:M N):M N:=nY [46,46,46] [10] a
noncomputable def kr(a:M N):M N:=nY [10,10] [10] a
noncomputable def rh(b c:N)(a d:M N):ah:=
 (gu [46,46,46] a).all (·.all (· !=10))&&((gu [46,46,46] a).length !=1||gu [46,46,46] a==[a])&&(gu [46,46,46] a).all (·.length<100)&&aI ((gu [46,46,46] a).length<100)&&
 aI ((nX a).length<100)&&aI ((kr<|nX a).length<100)&&aI ((kr<|kr (nX a)).length<100)&&
 (kr (kr<|kr (nX a))==d.map (fN b c))&&(fY (xT<|gu [46,46,46] a)==d.map (fN b c))
noncomputable def Yz(b c a:N):N:=bif a==b then 0 else bif a==c then 1 else 2
noncomputable def vi(a b:N)(c:M N):M N:=(kr<|kr (kr<|nX c)).map<|Yz a b
noncomputable def tf(a b:N)(c:M N):ah:=rh a b (hY a b c) (vi a b<|hY a b c)&&pE (vi a b<|hY a b c)&&aI (1<=(vi a b<|hY a b c).length)&&aI ((vi a b<|hY a b c).length<=5)&&(vi a b<|hY a b c).all (· <3)
noncomputable def pG:M (M N):=kq 1++kq 2++kq 3++kq 4++kq 5
theorem XY:(pG.all<|tf 1 2)=X:=by decide+kernel
theorem XZ:(pG.all<|tf 46 2)=X:=by decide+kernel
theorem Ya:(pG.all<|tf 1 46)=X:=by decide+kernel
noncomputable def pM(b c a:N):N:=if a=b then c else if a=c then b else a
theorem Lq(c e:N)(b:pM c e a=pM c e d):a=d:=by unfold pM at b;split at b<;>split at b<;>(try split at b)<;>(try split at b)<;>(first|assumption|lia)
noncomputable def nZ(a c b d e:N):N:=pM (pM a b c) d<|pM a b e
theorem YP(a b c d:N)(e f:N)(g:nZ a b c d e=nZ a b c d f):e=f:=Lq _ _<|Lq _ _ g
theorem YO(b:a≠d)(c:t≠a2):nZ a d t a2 a=t/\nZ a d t a2 d=a2:=by unfold nZ pM;constructor<;>(repeat' split)<;>(first|exact cp (.f 1 C J<|.p 1 (C+1) J .z) (aN _ _) O ‹_› (iO (af 0 C J (.q 1 C J .z) (aN _ _) O ‹_›)<|jr b)|exact cp (.p 1 (C+1) J<|.p 1 (J+1) C .z) (aN _ _) O (iO (af 0 C J (.f 1 J aj<|.f 1 aj C .z) (bk _ _ _) O ‹_› ‹_›) b) (iO (af 0 C J (.q 1 C aj<|.q 1 aj J .z) (bk _ _ _) O ‹_› ‹_›)<|jr b)|exact nS C C (bj _) O|exact cp (.f 1 C J<|.p 1 (C+1) J .z) (aN _ _) O ‹_› (iO (af 0 C J (.q 1 C J .z) (aN _ _) O ‹_›)<|jr ‹_›)|exact cp (.p 1 (C+1) C .z) (bj _) O (iO (af 0 C C .z (bj _) O) ‹_›)|assumption)
theorem to(e:t≠a2)(b:b8=a/\t=a\/b8=d/\a2=d\/b8≠a/\b8≠d/\b8≠t/\b8≠a2)(c:a≠d):nZ a d t a2 b8=b8:=by unfold nZ pM;(repeat' split)<;>(first|exact cp (.q 1 C J<|.p 1 (J+1) C .z) (aN _ _) O ‹_› (iO (af 0 C J (.f 1 J C .z) (aN _ _) O ‹_›) c)|exact ao7 _ _ _ _ _ b c ‹_› ‹_›|exact ao8 _ _ _ _ _ b c ‹_› ‹_›|exact ao9 _ _ _ _ _ b c ‹_› ‹_›|exact ap0 _ _ _ _ _ b c ‹_›|exact ap1 _ _ _ _ _ e b ‹_› ‹_›|exact aZ (af 0 C J (.f 1 J C .z) (aN _ _) O ‹_›) (af 0 C J (.q 1 C J .z) (aN _ _) O ‹_›)|exact ap2 _ _ _ _ _ e b ‹_› ‹_›|exact ap3 _ _ _ _ _ e b ‹_› ‹_›|exact cp (.f 1 C J<|.p 1 (C+1) J .z) (aN _ _) O ‹_› (iO (af 0 C J (.q 1 C J .z) (aN _ _) O ‹_›)<|jr c)|exact ap4 _ _ _ _ _ b ‹_› ‹_› ‹_› ‹_›|exact nS C C (bj _) O|exact ap5 _ _ _ _ _ b ‹_› ‹_›|exact ap6 _ _ _ _ _ b ‹_› ‹_› ‹_› ‹_›)
theorem Yh(d:e8 46=46)(a b:N)(c:M N):(hY a b c).map e8=hY (e8 a) (e8 b) c:=by
 unfold hY;rw [zE];congr 1;funext e;split
 .rfl
 .rfl
 .refine(?_:[e8 46,e8 46,e8 46]=_);rw [d]
theorem Jh(d:e8 10=10)(a b:N)(c:M N):(c.map<|fN a b).map e8=c.map (fN (e8 a)<|e8 b):=by
 rw [jq];congr 1;funext e;refine(?_:e8 (fN a b e)=_);unfold fN;split
 .rfl
 .rfl
 .exact d
theorem Yd(c:∀a d,e8 a=e8 d->a=d)(g:e8 46=46)(b:e8 10=10)(e:rh a d m b7=X):rh (e8 a) (e8 d) (m.map e8) b7=X:=by
 revert e8 a d m b7 c g b e;apply U5;generalize P4 _=m,Q4 _=b7,Q3 _=a,Q2 _=d,Q1 _=e8;intro c g b e;have k:gu [46,46,46] (m.map e8)=(gu [46,46,46] m).map (ft e8):=by rw [<-Lb c];refine(?_:_=gu [e8 46,e8 46,e8 46] _);rw [g]
 have l:nX (m.map e8)=(nX m).map e8:=by unfold nX;rw [<-Ki c];refine(?_:_=nY [e8 46,e8 46,e8 46] [e8 10] _);rw [g,b]
 have n:∀h:M N,kr (h.map e8)=(kr h).map e8:=λh=>by unfold kr;rw [<-Ki c];refine(?_:_=nY [e8 10,e8 10] [e8 10] _);rw [b]
 unfold rh at e ⊢;simp only [eJ,kg,fX,pS,mG] at e ⊢;revert e;refine aA λo p=> ?_;refine aA (λq r=> ?_)<|o;refine aA (λs t=> ?_)<|q;refine aA (λu v=> ?_)<|s;refine aA (λw x=> ?_)<|u;refine aA (λy z=> ?_)<|w;refine aA (λA B=> ?_)<|y;refine aA (λD E=> ?_)<|A;simp only [k,l,n,aW];refine⟨⟨⟨⟨⟨⟨⟨⟨?_,?_⟩,?_⟩,z⟩,x⟩,v⟩,t⟩,?_⟩,?_⟩
 .rw [Ef];refine hH.mpr λf i=> ?_;refine(?_:(f.map e8).all _=X);rw [Ef];refine hH.mpr λK L=> ?_;have:=hH.mp (hH.mp D f i) K L;simp only [mG] at this;simp only [at2,mG];exact λP=>this<|c _ _ (P.trans b.symm)
 .obtain j|j:=E
  .exact .inl j
  .exact .inr<|by rw [j];rfl
 .rw [Ef];refine hH.mpr λf i=> ?_;have:=hH.mp B f i;refine(?_:aI ((f.map e8).length<100)=X);rw [aW];exact this
 .rw [r];exact Jh b a d b7
 .rw [Ub b,RI c b,p];exact Jh b a d b7
theorem Yg:∀(a:M N),(∀b∈a,b<3)->a∈kq a.length:=by
 intro d
 induction d with
 |nil=>exact λ_=> .head _
 |cons b a e=>exact λc=>by refine oC.mpr ⟨a,e λf g=>c f<|.tail _ g,?_⟩;have h:=c b<|.head _;obtain rfl|rfl|rfl:=(by exact vN _ h:b=0\/b=1\/b=2)<;>simp
theorem JN(b:∀c∈m,c<3)(d:1<=m.length)(e:m.length<=5):m∈pG:=by have:=Yg m b;unfold pG;simp only [dQ];obtain a|a|a|a|a:=(by exact ap7 _ d e:m.length=1\/m.length=2\/m.length=3\/m.length=4\/m.length=5)<;>rw [a] at this<;>simp [this]
structure iP(c:I)(j o:N)(h:M N):Prop where
 mem:h∈oV
 ell:∀v,hz c v=X↔dX (h.map<|fN j o) (aO v)
 w:c.length<100
 s:(fj c eE 0 c.length 1).isEmpty=ai->∃w x i,hI c eE=w::x::i/\(∀y∈w::x::i,y.length<1048576)/\i.length<1000000
 r1:(fU c "..." "\n").length<100
 r2:(fU (fU c "..." "\n") "\n\n" "\n").length<100
 r3:(fU (fU (fU c "..." "\n") "\n\n" "\n") "\n\n" "\n").length<100
 r4:aO (fU (fU (fU (fU c "..." "\n") "\n\n" "\n") "\n\n" "\n") "\n\n" "\n")=h.map (fN j o)
theorem Yf(k:m∈oV)(l:g.length<100)(f:rh a d (aO g) m=X):iP g a d m:=by
 revert g a d m k l f;apply U4;generalize P3 _=m,Q3 _=a,Q2 _=d,Q1 _=g;intro k l f;unfold rh at f;simp only [eJ,kg,fX,pS,mG] at f;revert f;refine aA λx y=> ?_;refine aA (λz A=> ?_)<|x;refine aA (λB D=> ?_)<|z;refine aA (λE K=> ?_)<|B;refine aA (λL P=> ?_)<|E;refine aA (λS t=> ?_)<|L;refine aA (λT V=> ?_)<|S;refine aA (λY Z=> ?_)<|T;have n:aO "..."=[46,46,46]:=by decide+kernel
 have u:aO "\n"=[10]:=by decide+kernel
 have a0:aO "\n\n"=[10,10]:=by decide+kernel
 have o:1<=("...":I).length:=by decide+kernel
 have a1:1<=("\n\n":I).length:=by decide+kernel
 have i:∀b:I,aO (fU b "..." "\n")=nX (aO b):=λb=>by rw [Kl o,n,u];rfl
 have c:∀b:I,aO (fU b "\n\n" "\n")=kr (aO b):=λb=>by rw [Kl a1,a0,u];rfl
 have e:(hI g eE).map aO=gu [46,46,46] (aO g):=by rw [<-n];exact ae0 o<|by decide+kernel
 have v:(fj g eE 0 g.length 1).isEmpty=((gu [46,46,46]<|aO g).length==1):=by rw [<-n];exact Tf o
 have p:gu [46,46,46] (aO g)≠[]:=λh=>by unfold gu at h;cases a2:hE [46,46,46] (aO g) 0 0<;>rw [a2] at h<;>exact hq h
 refine⟨k,λa9=> ?_,l,λq=> ?_,?_,?_,?_,?_⟩
 .refine(Sg e v (λr a3 a4 a5=> ?_) (λh=> ?_) p).trans ?_
  .have:=hH.mp (hH.mp Y r a3) a4 a5;simpa using this
  .exact Z.resolve_left λa6=>a6 h
  .rw [<-y];exact(Tz _ _).symm
 .rw [v] at q
  revert e;generalize hI g eE=j;intro e;have a7:∀b∈j,b.length<100:=λb s=>by have:=hH.mp V (aO b)<|e▸qk s;rw [<-fd];simpa using this
  rw [<-e,aW] at q t
  cases j with
  |nil=>rw [<-e] at p;exact bD O p
  |cons r j=>cases j with
   |nil=>exact gX q
   |cons a8 w=>
    refine⟨r,a8,w,O,λb s=>fh (a7 b s)<|by decide,?_⟩
    have:w.length+2<100:=t
    exact af 0 (C+1) 1000000 (.p 1 (C+2+1) 100 .z) (bj _) O this
 .rw [<-fd,i];exact P
 .rw [<-fd,c,i];exact K
 .rw [<-fd,c,c,i];exact D
 .rw [c,c,c,i];exact A
theorem XG(b:(pG.all<|tf a d)=X)(c:m∈pG):∃e∈oV,rh a d (hY a d m) e=X:=by have:=hH.mp b m c;unfold tf at this;simp only [eJ,kg] at this;revert this;refine aA λf g=> ?_;refine aA (λh i=> ?_)<|f;refine aA (λj k=> ?_)<|h;refine aA (λl n=> ?_)<|j;refine⟨_,rX.mpr ⟨JN (λo p=> ?_) k i,n⟩,l⟩;simpa using hH.mp g o p
theorem Ye(l:aO g=hY a d m)(s:∀j∈m,j<3)(t:1<=m.length)(n:m.length<=5)(e:a≠d)(u:a≠10)(v:d≠10):∃i,iP g a d i:=by
 have w:=JN s t n
 have x:g.length<100:=by
  rw [<-fd,l]
  have:∀b:M N,(hY a d b).length<=3*b.length:=λb=>by
   induction b with
   |nil=>exact ba _
   |cons j b y=>
    rw [gO]
    have z:(hY a d (j::b)).length<=3+(hY a d b).length:=by
     cases j with
     |zero=>exact jS (show 1<=3 by decide) _|>aK (dM<|fS _ _)
     |succ o=>cases o with
      |zero=>exact jS (show 1<=3 by decide) _|>aK (dM<|fS _ _)
      |succ o=>exact dM<|fS (hY a d b).length 3
    exact af 0 C (bn 3<|J+1) (.p 1 aj (bn 3 J)<|.p 1 C (3+aj) .z) (bk _ _ _) O y z
  have:=this m;exact af 0 (C+1) 100 (.p 3 J 5<|.p 1 C (bn 3 J) .z) (aN _ _) O n this
 have k:∀f h,f≠h->(pG.all<|tf f h)=X->(nZ f h a d 46=46)->(nZ f h a d 10=10)->∃i,iP g a d i:=λf h A B p c=>by refine ac (λi D E=> ?_)<|XG B w;refine aA (λK L=> ?_)<|YO A e;have:=Yd (YP f h a d) p c E;rw [Yh p,K,L] at this;exact⟨i,Yf D x<|l▸this⟩
 have c:10≠a/\10≠d:=⟨jr u,jr v⟩
 by_cases q:a=46
 .exact k 46 2 (by decide) XZ (to e (.inl ⟨O,q⟩)<|by decide)<|to e (.inr<|.inr ⟨by decide,by decide,c.1,c.2⟩) (by decide)
 .by_cases r:d=46
  .exact k 1 46 (by decide) Ya (to e (.inr<|.inl ⟨O,r⟩)<|by decide)<|to e (.inr<|.inr ⟨by decide,by decide,c.1,c.2⟩) (by decide)
  .exact k 1 2 (by decide) XY (to e (.inr<|.inr ⟨by decide,by decide,jr q,jr r⟩)<|by decide)<|to e (.inr<|.inr ⟨by decide,by decide,c.1,c.2⟩) (by decide)
noncomputable section
theorem dZ(a:N)(b:N->E):ch a b=b a:=by cases a<;>rfl
end
theorem Ch(a:eM)(b:N)(c:ah):en a b c=(b&&&a.g|||(b&&&nR a c)<<<1)|||((b&&&a.g|||(b&&&nR a c)<<<1)<<<1&&&a.g):=dZ _ _
theorem Vv(a:eM)(b:N)(c:ah):sO a b c=((b|||(b&&&a.g)>>>1)&&&a.g)|||((b|||(b&&&a.g)>>>1)>>>1&&&nR a c):=dZ _ _
theorem BX(a:eM)(b:ah)(c:aM):dK a (b::c)=sO a (dK a c) b:=dZ (dK a c) λd=>sO a d b
theorem ps(a:eM)(b:ah)(c:aM)(d:N):gF a (b::c) d=gF a c (en a d b):=dZ (en a d b)<|gF a c
theorem xY(a:M E):nQ a=a.length:=by
 induction a with
 |nil=>rfl
 |cons c a b=>exact bq (· +1) b
theorem BZ(b c:N):cr b c=X↔∃d,b.testBit d=X/\c.testBit d=X:=by
 have g:cr b c=X↔b&&&c≠0:=by
  refine(?_:(ci X ai (cU (b&&&c) 0):ah)=X↔_)
  cases e:cU (b&&&c) 0 with
  |true=>exact⟨(by intro k;first|contradiction|(intros;contradiction)),λa=>bD (ni e) a⟩
  |false=>exact⟨λ_ a=>(by rw [a] at e;exact gX e),λ_=>O⟩
 rw [g];constructor
 .intro a;refine ay (λd f=> ?_)<|Nat.exists_testBit_of_ne_zero a;rw [wz,eJ] at f;exact⟨d,f⟩
 .intro h a;(revert h;refine ac λd i j=> ?_);have:=bq (·.testBit d) a;simp only [wz,i,j,zW] at this;exact gX this
noncomputable def fM(a:M N)(b:N):ah:=match b with
 |0=>ai
 |c+1=>a[c]? ==Q 2
theorem IF(a:N):∀(b:M N) (d:N),(eW a b).testBit d=(b[d]? ==Q a):=by
 intro e
 induction e with
 |nil=>exact λd=>zW d
 |cons c b f=>
  exact λd=>by
   have g:eW a (c::b)=2*eW a b+(cU c a).toNat:=by refine(?_:(ci (2*eW a b) (im<|2*eW a b) (cU c a):N)=_);cases cU c a<;>rfl
   rw [g]
   cases d with
   |zero=>
    rw [EQ];refine(?_:_=(Q c==Q a));rw [show(Q c==Q a)=cU c a by rw [oq,fX,NA,NV]];cases cU c a
    .exact cN<|by refine(?_:¬(2*eW a b+0)%2=1);exact Me _
    .exact ck<|by refine(?_:(2*eW a b+1)%2=1);exact Mf _
   |succ d=>rw [EP,show(2*eW a b+(cU c a).toNat)/2=eW a b by cases cU c a<;>simp [Mm]<;>exact aZ (af 1 C J (.p 1 (bn 2 C) ((bn 2 J)+1) .z) (aN _ _) O<|jV _ _)<|af 1 C J (.p 1 (((bn 2 C)+1)+1) (bn 2<|J+1) .z) (aN _ _) O (qp _<|bA O),f d];rfl
theorem Cg(a:M N)(b:N):(aE a).g.testBit b=fM a b:=by
 refine(?_:(2*eW 2 a).testBit b=_)
 cases b with
 |zero=>rw [EQ];exact cN<|by exact ap8 _
 |succ b=>rw [EP,show 2*eW 2 a/2=eW 2 a by exact aZ (af 1 C J (.p 1 (bn 2 C) (bn 2 J) .z) (aN _ _) O<|jV _ _)<|af 1 C J (.p 1 ((bn 2 C)+1) (bn 2<|J+1) .z) (aN _ _) O (qp _<|bA O),IF];rfl
theorem IJ(a:M N)(b:ah)(c:N):(nR (aE a) b).testBit c=(a[c]? ==Q (bif b then 1 else 0)):=by cases b<;>exact IF _ a c
theorem II(a:M N)(b:N):(aE a).fin.testBit b=aI (a.length=b):=by refine(?_:(1<<<nQ a).testBit b=_);rw [xY,EJ,zV]
theorem It(b:M N)(c:N)(d:ah)(a:N):(sO (aE b) c d).testBit a=(((c.testBit a||(c.testBit (a+1)&&fM b (a+1)))&&fM b a)||((c.testBit (a+1)||(c.testBit (a+2)&&fM b (a+2)))&&(b[a]? ==Q (bif d then 1 else 0)))):=by rw [Vv];simp only [zU,wz,Nat.testBit_shiftRight,Cg,IJ];rw [fS 1 a,fS 1 (a+1)]
theorem FK(e:M N)(h:ah)(f j:N):cr (en (aE e) f h) j=cr f (sO (aE e) j h):=by
 revert e h f j;apply U4;generalize P3 _=e,Q3 _=h,Q2 _=f,Q1 _=j;rw [oq,BZ,BZ];have l:∀a,(en (aE e) f h).testBit a=(((f.testBit a&&fM e a)||(aI (1<=a)&&(f.testBit (a - 1)&&(e[a - 1]? ==Q (bif h then 1 else 0)))))||((aI (1<=a)&&((f.testBit (a - 1)&&fM e (a - 1))||(aI (1<=a - 1)&&(f.testBit (a - 1 - 1)&&(e[a - 1 - 1]? ==Q (bif h then 1 else 0))))))&&fM e a)):=λa=>by rw [Ch];simp only [zU,wz,Nat.testBit_shiftLeft,Cg,IJ,ge_iff_le]
 simp only [l,It,pS,eJ,kg];constructor
 .rintro⟨a,(⟨b,c⟩|⟨b,c,d⟩)|⟨⟨b,⟨c,d⟩|⟨c,d,m⟩⟩,k⟩,g⟩
  .exact⟨a,b,.inl ⟨.inl g,c⟩⟩
  .obtain⟨a,rfl⟩:∃i,a=i+1:=⟨a - 1,by exact aZ (af 0 C (J+1) (.p 1 C (J+1) .z) (aN _ _) O<|dz _ _)<|af 0 (C+1) J (.q 1 (C+1) J .z) (aN _ _) O (dD<|af 0 1 C (.p 1 1 C .z) (bj _) O b)⟩
   exact⟨a,c,.inr ⟨.inl g,d⟩⟩
  .obtain⟨a,rfl⟩:∃i,a=i+1:=⟨a - 1,by exact aZ (af 0 C (J+1) (.p 1 C (J+1) .z) (aN _ _) O<|dz _ _)<|af 0 (C+1) J (.q 1 (C+1) J .z) (aN _ _) O (dD<|af 0 1 C (.p 1 1 C .z) (bj _) O b)⟩
   exact⟨a,c,.inl ⟨.inr ⟨g,k⟩,d⟩⟩
  .obtain⟨a,rfl⟩:∃i,a=i+1+1:=⟨a - 2,by exact ap9 _ b c⟩
   exact⟨a,d,.inr ⟨.inr ⟨g,k⟩,m⟩⟩
 .rintro⟨a,g,⟨b|⟨b,c⟩,d⟩|⟨b|⟨b,c⟩,d⟩⟩
  .exact⟨a,.inl<|.inl ⟨g,d⟩,b⟩
  .exact⟨a+1,.inr ⟨⟨fT _,.inl ⟨g,d⟩⟩,c⟩,b⟩
  .exact⟨a+1,.inl<|.inr ⟨fT _,g,d⟩,b⟩
  .exact⟨a+2,.inr ⟨⟨fT _,.inr ⟨fT _,g,d⟩⟩,c⟩,b⟩
theorem BP(a:M N):∀(b:aM) (c:N),cr (gF (aE a) b c) (aE a).fin=cr c (dK (aE a) b):=by
 intro d
 induction d with
 |nil=>exact λ_=>O
 |cons f b e=>exact λc=>by rw [ps,e,FK,BX]
noncomputable def dn(a b:N)(c:ah):N:=bif c then b else a
theorem Lc{e:M N->Prop}:(∃b c,a::m=b++c/\e c)↔e (a::m)\/∃b c,m=b++c/\e c:=by
 constructor
 .intro g;(revert g;refine dw λb c f d=> ?_)
  cases b with
  |nil=>subst f;exact .inl d
  |cons j b=>(revert f;refine gW λh i=> ?_;subst h;subst i);exact .inr ⟨b,c,O,d⟩
 .rintro(d|⟨b,c,rfl,d⟩)
  .exact⟨[],_,O,d⟩
  .exact⟨a::b,c,O,d⟩
theorem CA:∀{b:M N},pE b=X->∀a,b[a]? =Q 2->b[a+1]? ≠Q 2:=by
 intro f
 induction f with
 |nil=>exact λ_ a c=>by exact aU c
 |cons g b h=>
  exact λc a d=>by
   refine aA (λe i=> ?_)<|fp.mp c
   cases a with
   |zero=>intro j;rw [show g=2 from wA d,show b.head? =Q 2 by rw [List.head?_eq_getElem?];exact j] at e;exact cY e
   |succ a=>exact h i a d
def px(c:M N)(a b d:N)(e:aM):Prop:=bif fM c d then ∃g f,e.map (dn a b)=g++f/\dX ((c.map<|fN a b).drop d) f else dX ((c.map<|fN a b).drop d) (e.map<|dn a b)
noncomputable def uK(c:M N)(b a:N):ah:=b.testBit a||(b.testBit (a+1)&&fM c (a+1))
theorem GM(b:m[t]? =Q 2):(m.map<|fN a d).drop t=10::(m.map<|fN a d).drop (t+1):=by refine ay (λc e=> ?_)<|fq.mp b;rw [qb (by rw [aW];exact c),ua,e];rfl
theorem uP(b:m[t]? =Q (bif n then 1 else 0)):(m.map<|fN a d).drop t=dn a d n::(m.map<|fN a d).drop (t+1):=by refine ay (λc e=> ?_)<|fq.mp b;rw [qb (by rw [aW];exact c),ua,e];cases n<;>rfl
theorem xO(e:∀c∈m,c<3)(d:a<m.length):m[a]? =Q 2\/∃c:ah,m[a]? =Q (bif c then 1 else 0):=by
 have:=e _<|mu d;rw [gz d];obtain b|b|b:=(by exact aq0 _ _ _ d this:m[a]=2\/m[a]=0\/m[a]=1)
 .exact .inl<|by rw [b]
 .exact .inr ⟨ai,by rw [b];rfl⟩
 .exact .inr ⟨X,by rw [b];rfl⟩
theorem We(n:pE m=X)(l:∀f∈m,f<3)(s:a≠d)(x:a≠10)(y:d≠10):∀(k:aM) (b:N),b<=m.length->(uK m (dK (aE m) k) b=X↔px m a d b k):=by
 revert m a d n l s x y;apply U3;generalize P2 _=m,Q2 _=a,Q1 _=d;intro n l s x y;intro K
 induction K with
 |nil=>
  exact λb g=>by
   have j:uK m (dK (aE m) []) b=X↔m.length=b\/(m.length=b+1/\fM m (b+1)=X):=by refine(?_:(((aE m).fin.testBit b)||((aE m).fin.testBit (b+1)&&fM m (b+1)))=X↔_);rw [II,II,pS,eJ,kg,kg]
   have L:px m a d b []↔dX ((m.map<|fN a d).drop b) []:=by
    unfold px
    cases fM m b with
    |false=>exact tS
    |true=>exact⟨λ⟨o,h,j,c⟩=>by rw [(No.mp j).2] at c;exact c,λc=>⟨[],[],O,c⟩⟩
   rw [j,L];obtain g|g:=wr g
   .obtain c|⟨f,c⟩:=xO l g
    .rw [GM c,show fM m (b+1)=X by refine(?_:(m[b]? ==Q 2)=X);rw [c];rfl,vd]
     constructor
     .rintro(e|⟨e,_⟩)
      .exact cp (.p 1 (C+1) J<|.q 1 J C .z) (aN _ _) O g e
      .exact⟨[],[],O,by rw [<-e,qc (by rw [aW];exact ba _)];rfl⟩
     .rintro⟨o,h,j,v⟩
      rw [(No.mp j).2] at v
      refine .inr ⟨?_,O⟩
      obtain e|e:=wr<|EN g
      .obtain h|⟨f,h⟩:=xO l e
       .exact bD h<|CA n b c
       .rw [show im b=b+1 from O] at*
        rw [uP h,xG (by cases f<;>assumption)] at v
        obtain⟨_,e,_⟩:=v;cases e
      .exact e.symm
    .rw [uP c,xG (by cases f<;>assumption),show fM m (b+1)=ai by refine(?_:(m[b]? ==Q 2)=ai);rw [c];cases f<;>rfl]
     constructor
     .rintro(e|⟨_,e⟩)
      .exact cp (.p 1 (C+1) J<|.q 1 J C .z) (aN _ _) O g e
      .cases e
     .rintro⟨_,e,_⟩;cases e
   .rw [g,qc (by rw [aW];exact ba _)];exact⟨λ_=>O,λ_=> .inl O⟩
 |cons i k P=>
  exact λb g=>by
   have p:=P;have S:∀f t:ah,dn a d f=dn a d t->f=t:=λf t c=>by cases f<;>cases t<;>first|rfl|exact bD c s|exact bD c.symm s
   have z:∀b,(dK (aE m) (i::k)).testBit b=X↔(uK m (dK (aE m) k) b=X/\fM m b=X)\/(uK m (dK (aE m) k) (b+1)=X/\m[b]? =Q (bif i then 1 else 0)):=λb=>by rw [BX,It,pS,eJ,eJ,fX];rfl
   have w:∀{f:ah} {q u:M N},dX (dn a d f::q) (dn a d i::u)↔f=i/\dX q u:=λ{f q u}=>by rw [xG (by cases f<;>assumption)];exact⟨λ⟨h,j,c⟩=>⟨(S _ _ (ms j).1).symm,(ms j).2▸c⟩,λ⟨j,c⟩=>⟨u,by rw [j],c⟩⟩
   have A:∀f:ah,(Q (bif f then 1 else 0):ag N)=Q (bif i then 1 else 0)↔f=i:=λf=>by cases f<;>cases i<;>simp
   refine(?_:((dK (aE m) (i::k)).testBit b||((dK (aE m) (i::k)).testBit (b+1)&&fM m (b+1)))=X↔_);rw [pS,eJ,z,z];unfold px;rw [da];obtain g|g:=wr g
   .obtain c|⟨f,c⟩:=xO l g
    .have r:fM m (b+1)=X:=by refine(?_:(m[b]? ==Q 2)=X);rw [c];rfl
     have B:fM m b=ai:=by
      cases b with
      |zero=>rfl
      |succ q=>exact eP.mpr λe=>CA n q e c
     rw [B,r,GM c,c,p (b+1) g]
     refine(?_:_↔dX (10::_) _)
     rw [vd,Lc]
     unfold px
     rw [r]
     refine(?_:(_/\ai=X\/_/\Q 2=_)\/((∃o h,_/\_)/\X=X\/_)/\X=X↔_)
     have T:¬(Q 2:ag N)=Q (bif i then 1 else 0):=by cases i<;>simp
     simp only [T,lq,FN,false_or,kp,and_true]
     rw [CL]
     refine or_congr ?_ tS
     obtain e|e:=wr<|EN g
     .have e:b+1<m.length:=e
      obtain h|⟨f,h⟩:=xO l e
      .exact bD h<|CA n b c
      .rw [uP h,w,p (b+1+1) e,h,A]
       unfold px
       rw [show fM m (b+1+1)=ai by refine(?_:(m[b+1]? ==Q 2)=ai);rw [h];cases f<;>rfl]
       exact FM
     .rw [show b+1=m.length from e,qc (by rw [aW];exact ba _),jo (ba _)];exact⟨nofun,nofun⟩
    .have r:fM m (b+1)=ai:=by refine(?_:(m[b]? ==Q 2)=ai);rw [c];cases f<;>rfl
     rw [r,uP c,c,A,p (b+1) g,p b (dx g)]
     unfold px
     rw [r,uP c]
     cases B:fM m b with
     |false=>
      refine(?_:(_/\ai=X\/dX _ _/\_)\/_/\ai=X↔dX (dn a d f::_) (dn a d i::_))
      rw [w]
      simp only [lq,FN,false_or,kp]
      exact FM
     |true=>
      refine(?_:((∃o h,_/\_)/\X=X\/dX _ _/\_)\/_/\ai=X↔∃o h,dn a d i::_=o++h/\dX (dn a d f::_) h)
      rw [Lc,w]
      simp only [lq,FN,and_true,kp]
      rw [CL]
      exact or_congr FM tS
   .have D:(m.map<|fN a d).drop b=[]:=qc<|by rw [aW,g];exact ba _
    have E:m[b]? =U:=jo (by rw [g];exact ba _);rw [D,E,show fM m (b+1)=ai by refine(?_:(m[b]? ==Q 2)=ai);rw [E];rfl,p b (dM g)];unfold px;rw [D]
    cases fM m b with
    |false=>exact⟨λc=>(by obtain(⟨_,e⟩|⟨_,e⟩)|⟨_,e⟩:=c<;>cases e),nofun⟩
    |true=>exact⟨λ_=>⟨_,[],(cZ _).symm,O⟩,λ_=> .inl<|.inl ⟨⟨_,[],(cZ _).symm,O⟩,O⟩⟩
theorem Tx(g:pE m=X)(h:∀i∈m,i<3)(j:a≠d)(k:a≠10)(l:d≠10)(e:aM):dX (m.map<|fN a d) (e.map<|dn a d)↔cr (eC<|aE m) (dK (aE m) e)=X:=by
 have n:=We g h j k l e 0<|cy _;refine DZ n.symm ?_;rw [BZ]
 have o:∀b,(eC<|aE m).testBit b=(aI (b=0)||(aI (b=1)&&fM m 1)):=λb=>by
  refine(?_:(1|||(2&&&(aE m).g)).testBit b=_);rw [zU,wz,Cg,show EO 1 b=aI (0=b) from zV (n:=0),show EO 2 b=aI (1=b) from zV (n:=1)];by_cases c:b=1
  .subst c;rfl
  .rw [cN (jr c),cN c,show aI (0=b)=aI (b=0) from xp.mpr eq_comm];rfl
 simp only [o,uK,pS,eJ,kg];constructor
 .rintro(c|⟨c,f⟩)
  .exact⟨0,.inl O,c⟩
  .exact⟨1,.inr ⟨O,f⟩,c⟩
 .rintro⟨b,rfl|⟨rfl,f⟩,c⟩
  .exact .inl c
  .exact .inr ⟨c,f⟩
theorem qL(b:au a=au d):a=d:=by have:=bq aO b;exact(ms this).1
theorem Sa(d:M N)(a:N):∀(b:M N) (c:M (I×N)),(nJ d b c).lookup (au a)=if a∈b then Q (mN d a) else c.lookup (au a):=by
 intro i
 induction i with
 |nil=>exact λc=>O
 |cons f b j=>
  exact λc=>by
   refine(?_:(nJ d b<|ec c (au f) (mN d f)).lookup (au a)=_);rw [j] at ⊢;by_cases e:a∈b
   .rw [bK e,bK (.tail _ e)] at ⊢
   .rw [bF e] at ⊢
    by_cases g:a=f
    .rw [g,bK (.head _),yZ] at ⊢
    .rw [bF (λh=>by cases h with
      |head=>exact g O
      |tail _ h=>exact e h),LN _ (λk=>g<|qL k)] at ⊢
theorem WK(c:a∉m):∀(d:N),ge (λb=>aI<|au b=au a) m d=[]:=by
 induction m with
 |nil=>exact λ_=>O
 |cons b m e=>intro d;refine(?_:(bif aI (au b=au a) then _ else _)=_);rw [cN (λf=>c<|by rw [qL f];exact .head _)];exact e (λg=>c<|.tail _ g) _
theorem Yq(a:M N)(b:N):sY (vA a) (au b)=mN a b:=by
 refine(?_:((nJ a a []).lookup<|au b).getD 0=_);rw [Sa];by_cases c:b∈a
 .rw [bK c];rfl
 .rw [bF c,show mN a b=0 by unfold mN;rw [WK c];rfl];rfl
structure iN(c:M N)(a b:N):Prop where
 nrm:pE c=X
 lt:∀h∈c,h<3
 ab:a≠b
 a:a≠10
 b:b≠10
noncomputable abbrev eb(a:M N)(b c:N):ca:=vA<|a.map (fN b c)
theorem Xc:bC "\n"=au 10:=by decide+kernel
theorem Gh:∀(c:M N) (b:N),(∀e∈c,c7 (e8 e)=cU e d)->(ke a<|ge c7 (c.map e8) b).sum=2^(b+a)*eW d c:=by
 intro g
 induction g with
 |nil=>exact λb _=>(Nat.mul_zero _).symm
 |cons e c h=>
  exact λb f=>by
   have i:eW d (e::c)=2*eW d c+(cU e d).toNat:=by refine(?_:(ci (2*eW d c) (im<|2*eW d c) (cU e d):N)=_);cases cU e d<;>rfl
   have j:=h (b+1) λk l=>f k<|.tail _ l;have m:2^(b+1+a)=2^(b+a)*2:=by rw [show b+1+a=(b+a)+1 by exact fg _ _ _,wx]
   refine(?_:(ke a (bif c7 (e8 e) then b::ge c7 (c.map e8) (b+1) else ge c7 (c.map e8) (b+1))).sum=_);rw [i,f e (.head _),NJ,<-NK,<-m,<-j]
   cases cU e d with
   |false=>exact(Nat.add_zero _).symm
   |true=>refine(?_:2^(b+a)+(ke a<|ge c7 (c.map e8) (b+1)).sum=_);rw [fS];exact bq _ (Nat.mul_one _).symm
theorem GH(b:a=d↔n=X):aI (au a=au d)=n:=by
 cases n with
 |true=>exact ck<|by rw [b.mpr O]
 |false=>exact cN λc=>jk<|b.mp (qL c)
theorem JT(b:iN m a d):(eb m a d).gaps=(aE m).g:=by
 refine(?_:(ke 1<|ge _ (m.map<|fN a d) 0).sum=2*eW 2 m);refine Gh m 0 λe f=> ?_;rw [Xc];refine GH ?_;have:=b.lt e f;obtain rfl|rfl|rfl:=(by exact vN _ this:e=0\/e=1\/e=2)
 .exact⟨λc=>bD c b.a,(by intro g;first|contradiction|(intros;contradiction))⟩
 .exact⟨λc=>bD c b.b,(by intro g;first|contradiction|(intros;contradiction))⟩
 .exact⟨λ_=>O,λ_=>O⟩
theorem Yr(e:iN m a d)(i:ah):sY (eb m a d) (au<|dn a d i)=nR (aE m) i:=by
 rw [Yq];have b:∀g h,(∀c,c<3->(fN a d c=g↔cU c h=X))->mN (m.map<|fN a d) g=eW h m:=λg h k=>by have:=Gh (c7:=λl=>aI<|au l=au g) (a:=0) (e8:=fN a d) (d:=h) m 0 λc f=>GH<|k c (e.lt c f);exact this.trans<|Nat.one_mul _
 cases i with
 |false=>
  refine b _ _ λc f=> ?_;obtain rfl|rfl|rfl:=(by exact vN _ f:c=0\/c=1\/c=2)
  .exact⟨λ_=>O,λ_=>O⟩
  .exact⟨λb=>bD b.symm e.ab,(by intro j;first|contradiction|(intros;contradiction))⟩
  .exact⟨λb=>bD b.symm e.a,(by intro j;first|contradiction|(intros;contradiction))⟩
 |true=>
  refine b _ _ λc f=> ?_;obtain rfl|rfl|rfl:=(by exact vN _ f:c=0\/c=1\/c=2)
  .exact⟨λb=>bD b e.ab,(by intro j;first|contradiction|(intros;contradiction))⟩
  .exact⟨λ_=>O,λ_=>O⟩
  .exact⟨λb=>bD b.symm e.b,(by intro j;first|contradiction|(intros;contradiction))⟩
theorem JS:(eb m a d).fin=(aE m).fin:=by refine(?_:2^(m.map<|fN a d).length=1<<<nQ m);rw [aW,xY,EJ]
theorem yk(b:iN m a d)(c:N)(e:ah):hU (eb m a d) c (au<|dn a d e)=en (aE m) c e:=by rw [Ch];unfold hU yl;rw [Yr b,JT b]
theorem WV(e:iN m a d):∀(c:aM) (b:N),wZ (eb m a d) b (c.map<|dn a d)=gF (aE m) c b:=by
 intro f
 induction f with
 |nil=>exact λb=>O
 |cons g c h=>exact λb=>by refine(?_:wZ (eb m a d) (hU (eb m a d) b<|au (dn a d g)) (c.map<|dn a d)=_);rw [yk e,h,ps]
noncomputable def aV(a b:N)(c:aM):I:=⟨(c.map<|dn a b).toArray⟩
theorem rH(b:aM):aO (aV a d b)=b.map (dn a d):=O
theorem mj(b c:aM):aV a d (b++c)=aV a d b++aV a d c:=lN<|by refine(?_:(b++c).map (dn a d)=((aV a d b).cps++(aV a d c).cps).toList);rw [tK,de];rfl
theorem ks(b:aM):(aV a d b).length=b.length:=by rw [<-fd,rH,aW]
theorem Cx(c:iN m a d)(b:aM):gG (eb m a d) (aV a d b)=gF (aE m) b (eC<|aE m):=by unfold gG;rw [JT c];exact WV c b _
theorem sE(e:iP g a d m)(b:iN m a d)(c:aM):hz g (aV a d c)=cr (eC<|aE m) (dK (aE m) c):=by rw [oq,e.ell,rH];exact Tx b.nrm b.lt b.ab b.a b.b c
theorem HS(a:M N)(d:aM):∀(b:aM) (c:N),cr c (dK (aE a)<|b++d)=cr (gF (aE a) b c) (dK (aE a) d):=by
 intro e
 induction e with
 |nil=>exact λ_=>O
 |cons g b f=>exact λc=>by rw [tU,BX,<-FK,f,ps]
theorem Po(f:iP g a d m)(e:iN m a d)(b:aM):iw (eb m a d) (aV a d b)=hz g (aV a d b):=by
 unfold iw;rw [sE f e,Cx e,JS,<-BP];unfold cr
 cases c:cU (jT (gF (aE m) b<|eC (aE m)) (aE m).fin) 0 with
 |true=>exact Bb.mpr<|ni c
 |false=>exact mG.mpr λh=>by rw [show jT _ _=0 from h] at c;exact gX c
theorem xf:∀(i b c:N),c - b<=i->b<=c->(∀a h,b<=a->a<=h->h<c->c7 a=X->c7 h=X)->
 b<=dr c7 i b c/\dr c7 i b c<=c/\(∀a,b<=a->a<dr c7 i b c->c7 a=ai)/\∀a,dr c7 i b c<=a->a<c->c7 a=X:=by
 intro w
 induction w with
 |zero=>exact λb c m j _=>⟨ba _,j,λa f g=>bD g<|cq.mpr f,λa f g=>by have:dr c7 0 b c=b:=O;exact cp (.p 1 C 0<|.p 1 J aj (.p 1 (aj+1) bo<|.f 1 J fW (.p 1 bo (C+fW) .z))) (ky _ _ _ _ _) O m f g this<|dz _ _⟩
 |succ i v=>
  exact λb c m j n=>by
   by_cases k:b<c
   .have f:b<=(b+c)/2:=pn j
    have g:(b+c)/2<c:=kS k;rw [lM,ck k]
    cases o:c7 ((b+c)/2) with
    |true=>
     obtain⟨r,s,t,u⟩:=v b ((b+c)/2) (sL k m) f λa h d e p q=>n a h d e (fh p g) q
     refine⟨r,aK s<|dx g,t,λa d e=> ?_⟩
     by_cases l:a<(b+c)/2
     .exact u a d l
     .exact n _ a f (jU l) e o
    |false=>
     obtain⟨r,s,t,u⟩:=v ((b+c)/2+1) c (sM j m) g λa h d e p q=>n a h (aK f<|EF d) e p q
     refine⟨aK (hf f) r,s,λa d e=> ?_,u⟩
     by_cases l:(b+c)/2<a
     .exact t a l e
     .cases x:c7 a with
      |false=>rfl
      |true=>rw [n a _ d (jU l) g x] at o;cases o
   .rw [lM,cN k];exact⟨ba _,j,λa d e=>bD e<|cq.mpr d,λa d e=>bD (cd d e) k⟩
def jC(a b:I):Prop:=me b a=ai
theorem La:me g T=X↔aO g<aO T:=kg
theorem rG:jC g T↔aO g<=aO T:=by unfold jC;rw [<-Bool.not_eq_true,La];exact List.not_lt
theorem KW(a:I):jC a a:=rG.mpr<|List.le_refl _
theorem KX(a:jC g T)(b:jC T f9):jC g f9:=rG.mpr<|List.le_trans (rG.mp a) (rG.mp b)
theorem ac7(a:jC g T)(b:jC T g):g=T:=lN<|List.le_antisymm (rG.mp a) (rG.mp b)
theorem ac8(a:me g T=X):jC g T:=rG.mpr<|List.le_of_lt (La.mp a)
def sq(a:M I):Prop:=∀(b c:N) (d e:I),b<=c->a[b]? =Q d->a[c]? =Q e->jC d e
theorem pj{b:M E}{c:E}(d:b[a]? =Q c)(e:E):b.getD a e=c:=by rw [ed,d];rfl
theorem ac0(i:sq a4)(a:I):lW a4 a= !aI (a∈a4):=by
 have q:∀b d,0<=b->b<=d->d<a4.length->iE a4 a b=X->iE a4 a d=X:=λb d _ j k f=>by have r:=ki (cd j k) a;have s:=ki k a;have:=i _ _ _ _ j r s;refine(?_:(!me _ a)=X);have f:jC a (a4.getD b a):=(lr _).mp f;exact(lr _).mpr<|KX f this
 refine ta (λz l m n=> ?_)<|xf (c7:=iE a4 a) a4.length 0 a4.length (ba _) (cy _) q;have t:ha a4 a=dr (iE a4 a) a4.length 0 a4.length:=O;rw [<-t] at l m n;unfold lW;by_cases e:a∈a4
 .rw [ck e]
  refine ay (λg h=> ?_)<|Eo e;have u:=(fq.mp h).1;have o:ha a4 a<=g:=jU λv=>by have:=m g (cy _) v;have:me (a4.getD g a) a=X:=(zg _).mp this;rw [pj h] at this;exact jk<|(KW a).symm.trans this
  have c:ha a4 a<a4.length:=cd o u;have w:jC a (a4.getD (ha a4 a) a):=(lr _).mp<|n _ (ba _) c;have x:=i _ _ _ _ o (ki c a) h;rw [ac7 x w,ck O,eP.mpr (ik c)];rfl
 .rw [cN e]
  by_cases p:ha a4 a=a4.length
  .rw [p,jx];rfl
  .have c:ha a4 a<a4.length:=iO l p
   rw [cN (λy=>e<|jP ((ki c a).trans<|bq Q y))]
   exact zi _
theorem KT(o:sq a4)(b:I):sq (a4.insertIdx (cV (fE a4 b) 0 a4.length) b):=by
 have s:∀a g,0<=a->a<=g->g<a4.length->fE a4 b a=X->fE a4 b g=X:=λa g _ d j e=>by
  have t:=ki (cd d j) b;have u:=ki j b;have:=o _ _ _ _ d t u;refine(?_:me b _=X)
  cases k:me b (a4.getD g b) with
  |true=>rfl
  |false=>exact(KX this k).symm.trans e
 refine ta (λy m q r=> ?_)<|xf (c7:=fE a4 b) a4.length 0 a4.length (ba _) (cy _) s;rw [show cV (fE a4 b) 0 a4.length=dr (fE a4 b) a4.length 0 a4.length from O];revert m q r;generalize dr (fE a4 b) a4.length 0 a4.length=i;intro m q r;have v:∀(a:N) (h:I),a<i->a4[a]? =Q h->jC h b:=λa h d k=>by have:=q a (cy _) d;unfold fE at this;rw [pj k] at this;exact this
 have w:∀(a:N) (h:I),i<=a->a4[a]? =Q h->jC b h:=λa h d k=>by have:=r a d (fq.mp k).1;unfold fE at this;rw [pj k] at this;exact ac8 this
 intro a g h x l f c;rw [MY] at f c;by_cases d:a<i
 .rw [bK d] at f
  by_cases j:g<i
  .rw [bK j] at c;exact o _ _ _ _ l f c
  .rw [bF j] at c
   by_cases e:g=i
   .rw [bK e,bK (by exact af 0 C J (.p 1 aj J<|.q 1 C aj .z) (bk _ _ _) O m e)] at c;(revert c;refine aL λn=> ?_;subst n);exact v a h d f
   .rw [bF e] at c;exact o _ _ _ _ (by exact af 0 C J (.p 1 (C+1) aj<|.p 1 aj bo (.p 1 bo (J+1) .z)) (di _ _ _ _) O d (cq.mp j)<|dz _ _) f c
 .rw [bF d] at f
  by_cases e:a=i
  .rw [bK e,bK (by exact af 0 C J (.p 1 aj J<|.q 1 C aj .z) (bk _ _ _) O m e)] at f;(revert f;refine aL λn=> ?_;subst n)
   rw [bF (by exact cp (.p 1 C J<|.f 1 C aj (.p 1 (J+1) aj .z)) (bk _ _ _) O l e)] at c
   by_cases p:g=i
   .rw [bK p,bK (by exact af 0 C J (.p 1 aj J<|.q 1 C aj .z) (bk _ _ _) O m p)] at c;(revert c;refine aL λn=> ?_;subst n);exact KW _
   .rw [bF p] at c;exact w _ x (by exact af 0 C J (.p 1 aj (J+1)<|.p 1 (C+1) aj .z) (bk _ _ _) O (dz _ _)<|iO (af 0 C J (.p 1 aj J<|.f 1 aj C .z) (bk _ _ _) O l e) (jr p)) c
  .rw [bF e] at f
   rw [bF (by exact cp (.p 1 C J<|.p 1 aj C (.p 1 (J+1) aj .z)) (bk _ _ _) O l<|cq.mp d),bF (by exact cp (.p 1 C J<|.p 1 (aj+1) C (.q 1 J aj .z)) (bk _ _ _) O l<|iO (af 0 C J (.p 1 C J .z) (aN _ _) O<|cq.mp d) (jr e))] at c
   exact o _ _ _ _ (by exact aq1 _ _ _ l d e) f c
theorem Jk(a:N->ah):T∈a4.insertIdx (cV a 0 a4.length) g↔T=g\/T∈a4:= Eu<|aK (kP a _ _ _<|cy _) (ba _)
theorem ab9:∀(d b:M I),sq b->sq (mL b d)/\∀c,c∈mL b d↔c∈b\/c∈d:=by
 intro g
 induction g with
 |nil=>exact λb e=>⟨e,λc=>⟨.inl,λa=>a.elim id<|by intro l;first|contradiction|(intros;contradiction)⟩⟩
 |cons h d i=>exact λb e=>by refine aA (λj k=> ?_)<|i _ (KT e h);refine⟨j,λc=>(k c).trans ?_⟩;rw [Jk,bO];exact⟨λa=>a.elim (λa=>a.elim (λf=> .inr<|.inl f) .inl) λa=> .inr<|.inr a,λa=>a.elim (λa=> .inl<|.inr a) λa=>a.elim (λf=> .inl<|.inl f) .inr⟩
noncomputable section
end
theorem kk(a b:M E):hP a b=a++b:=by
 induction a with
 |nil=>rfl
 |cons c a d=>exact bq (c:: ·) d
theorem pu(a:N):∀(b:M N) (d:N),(dm a b).testBit d=(match b[d]? with
 |some c=>cr a c
 |none=>ai):=by
 intro e
 induction e with
 |nil=>exact λd=>zW d
 |cons c b f=>
  exact λd=>by
   have g:dm a (c::b)=2*dm a b+(cr a c).toNat:=by refine(?_:(ci (2*dm a b) (im<|2*dm a b) (cr a c):N)=_);cases cr a c<;>rfl
   rw [g]
   cases d with
   |zero=>
    rw [EQ];refine(?_:_=cr a c);cases cr a c
    .exact cN<|by refine(?_:¬(2*dm a b+0)%2=1);exact Me _
    .exact ck<|by refine(?_:(2*dm a b+1)%2=1);exact Mf _
   |succ d=>rw [EP,show(2*dm a b+(cr a c).toNat)/2=dm a b by cases cr a c<;>simp [Mm]<;>exact aZ (af 1 C J (.p 1 (bn 2 C) ((bn 2 J)+1) .z) (aN _ _) O<|jV _ _)<|af 1 C J (.p 1 (((bn 2 C)+1)+1) (bn 2<|J+1) .z) (aN _ _) O (qp _<|bA O),f d];rfl
noncomputable def ey(a b:N):I:=⟨((dR a).map λc=>bif b.testBit c then 49 else 48).toArray⟩
theorem YW(f:ey m.length (dm a m)=ey m.length (dm d m)):dm a m=dm d m:=by
 refine NC λb=> ?_;by_cases e:b<m.length
 .have g:(dR m.length).map (λb=>bif (dm a m).testBit b then 49 else 48)=(dR m.length).map λb=>bif (dm d m).testBit b then 49 else 48:=bq aO f
  have c:=bq (·[b]?) g;simp only [gj,tZ e,Option.map_some,NV] at c;cases h:(dm a m).testBit b<;>cases i:(dm d m).testBit b<;>rw [h,i] at c<;>first|rfl|cases c
 .rw [pu,pu,jo (jU e)]
theorem YX(e:dm d (m++ [a])=dm t (m++ [a])):dm d m=dm t m:=by
 refine NC λb=> ?_;by_cases c:b<m.length
 .have:=bq (·.testBit b) e;simp only [pu,jM c] at this;rw [pu,pu];exact this
 .rw [pu,pu,jo (jU c)]
noncomputable def gw(a:N):N->M N->M (I×N)
 |_,[]=> []
 |b,c::d=>(ey a c,b)::gw a (b+1) d
def AK(a b:M N):Prop:=∀c∈b,∃d,c=dm d a
theorem Kp(e:∃b,a=dm b m)(f:∃b,d=dm b m):ey m.length a=ey m.length d↔a=d:=by revert e;refine ay λb c=> ?_;obtain rfl:=c;revert f;refine ay λh c=> ?_;obtain rfl:=c;exact⟨YW,λg=>by rw [g]⟩
theorem IB(o:∃p,a=dm p m):∀(c:M N) (b:N),AK m c->
 (jA a c b=b+c.length/\a∉c/\(gw m.length b c).lookup (ey m.length a)=U/\∀g,ec (gw m.length b c) (ey m.length a) g=gw m.length b c++ [(ey m.length a,g)])\/
 (jA a c b<b+c.length/\a∈c/\(gw m.length b c).lookup (ey m.length a)=Q (jA a c b)):=by
 intro q
 induction q with
 |nil=>exact λb _=> .inl ⟨O,(by intro x;first|contradiction|(intros;contradiction)),O,λ_=>O⟩
 |cons d c r=>
  exact λb l=>by
   have s:=l d<|.head _;have t:jA a (d::c) b=bif cU d a then b else jA a c (b+1):=by refine(?_:(ci (jA a c<|b+1) b (cU d a):N)=_);cases cU d a<;>rfl
   rw [t]
   cases f:cU d a with
   |true=>have f:=ni f;refine .inr ⟨wp<|fT _,f▸ .head _,?_⟩;refine(?_:((ey m.length d,b)::gw m.length (b+1) c).lookup _=_);rw [ee,f,jx];rfl
   |false=>
    have n:d≠a:=λe=>by rw [e,nh] at f;exact gX f
    have h:ey m.length a≠ey m.length d:=λe=>n ((Kp o s).mp e).symm;obtain⟨i,j,k,w⟩|⟨i,j,k⟩:=r (b+1) λu v=>l u<|.tail _ v
    .refine .inl ⟨by refine(?_:jA a c (b+1)=_);rw [i,gO];exact fg _ _ _,λe=>by
      cases e with
      |head=>exact n O
      |tail _ e=>exact j e,?_,λg=> ?_⟩
     .refine(?_:((ey m.length d,b)::gw m.length (b+1) c).lookup _=_);rw [ee,eP.mpr h];exact k
     .refine(?_:ec ((ey m.length d,b)::gw m.length (b+1) c) _ g=_);rw [ak5];refine(?_:(bif aI (ey m.length d=ey m.length a) then _ else _)=_);rw [cN (jr h),w];rfl
    .refine .inr ⟨by refine(?_:jA a c (b+1)<_);rw [gO];exact af 0 (C+1) (J+(aj+1)) (.p 1 (C+1) (J+1+aj) .z) (bk _ _ _) O i,.tail _ j,?_⟩;refine(?_:((ey m.length d,b)::gw m.length (b+1) c).lookup _=_);rw [ee,eP.mpr h];exact k
theorem Lf(c:N):∀(b:M N) (a d:N),gw c a b++ [(ey c d,a+b.length)]=gw c a (b++ [d]):=by
 intro f
 induction f with
 |nil=>exact λa d=>O
 |cons e b g=>exact λa d=>by refine(?_:(ey c e,a)::(gw c (a+1) b++ [(ey c d,a+(b.length+1))])=(ey c e,a)::gw c (a+1) (b++ [d]));rw [<-g (a+1) d,show a+1+b.length=a+(b.length+1) by exact fg _ _ _]
theorem ae9(a:N):∀(b:M N) (c:N),(gw a c b).map (·.1)=b.map (ey a):=by
 intro d
 induction d with
 |nil=>exact λ_=>O
 |cons e b f=>exact λc=>bq (ey a e:: ·)<|f (c+1)
structure Sm(v:bx)(c:I)(h:M N)(i j:N):Prop where
 L:iN h i j
 pat:iP c i j h
 f:∀o,v.f o=hz c o
theorem Wt(c:I->ah):∀a:M I,sK (aO "") ((a.map λb=>if c b then("1":I) else "0").map aO)=a.map λb=>bif c b then 49 else 48:=by
 have d:aO ""=[]:=by decide+kernel
 have e:aO "1"=[49]:=by decide+kernel
 have f:aO "0"=[48]:=by decide+kernel
 have g:∀a:M I,((a.map λb=>if c b then("1":I) else "0").map aO).flatMap ([]++ ·)=a.map λb=>bif c b then 49 else 48:=λa=>by
  induction a with
  |nil=>rfl
  |cons b a h=>
   rw [da,da,eT,h] at ⊢;rw [da] at ⊢
   cases c b with
   |true=>show aO "1"++_=_;rw [e] at ⊢;rfl
   |false=>show aO "0"++_=_;rw [f] at ⊢;rfl
 intro a;rw [d] at ⊢
 cases a with
 |nil=>rfl
 |cons b a=>exact(g (b::a))
theorem Sm.row(f:Sm z g m a d)(c:aM)(b:M aM):cS z (b.map<|aV a d) (aV a d c)=ey (b.map<|dK (aE m)).length (dm (gF (aE m) c<|eC (aE m))<|b.map (dK<|aE m)):=by
 refine lN ?_;have:=Wt (λi=>z.f<|aV a d c++i)<|b.map (aV a d);unfold cS mM;rw [xH,this] at ⊢;refine(?_:_=(dR _).map _);refine tW λh=> ?_;rw [gj,gj,gj,aW] at ⊢;by_cases e:h<b.length
 .rw [gz e,tZ e] at ⊢;refine(?_:Q (bif z.f (aV a d c++aV a d b[h]) then 49 else 48)=Q (bif (dm (gF (aE m) c<|eC (aE m))<|b.map (dK<|aE m)).testBit h then 49 else 48));rw [pu,gj,gz e,f.f,<-mj,sE f.pat f.L,HS] at ⊢;rfl
 .rw [jo (jU e),jo (by rw [jp];exact jU e)] at ⊢;rfl
def gt(a:M N)(b:M dh):M N:=b.map λc=>dm c.2 a
noncomputable def dk(a b:N)(c:dh):I:=aV a b c.1.reverse
noncomputable def cI(b c:N)(d:M (N×N)):bw:=d.map λa=> [(au b,a.1),(au c,a.2)]
structure HsR(i:M N)(j:N)(o:M N)(h:M dh):Prop where
 can:∀c∈h,c.2=gF (aE i) c.1.reverse (eC<|aE i)
 len:∀c∈h,c.1.length<=j
 nod:(gt o h).Nodup
structure TbR(Y:M N)(o v Z:N)(h:M N)(c:M dh)(x:M (N×N))(i:Tb):Prop extends HsR Y Z h c where
 hl:i.hl=c.map (dk o v)
 st:i.st=gw h.length 0 (gt h c)
 sh:sq i.sh
 shm:∀y:I,y∈i.sh↔y∈(gt h c).map (ey h.length)
 mw:i.mv=cI o v x
 tg:∀j:N×N,j∈x->j.1<c.length/\j.2<c.length
structure pZ(h:M N)(c:hG):Prop where
 rows:c.rows=gt h c.hs
 n:c.n=c.hs.length
theorem Kr(a:M N)(b:M dh):AK a (gt a b):=λf c=>by (refine ac (λd g e=> ?_)<|cT.mp c;obtain rfl:=e);exact⟨d.2,O⟩
theorem VS(c:eM)(e:aM)(d:N)(b:ah)(a:hG)(f:hG->N->E):sQ c m e d b a f=
 bif cU (jA (dm (en c d b) m) a.rows 0) a.n then f ⟨a.todo++ [(b::e,en c d b)],a.hs++ [(b::e,en c d b)],a.rows++ [dm (en c d b) m],a.n+1⟩ (jA (dm (en c d b) m) a.rows 0) else f a (jA (dm (en c d b) m) a.rows 0):=by
 unfold sQ
 rw [dZ,dZ,dZ]
 cases cU (jA (dm (en c d b) m) a.rows 0) a.n with
 |false=>rfl
 |true=>
  refine(?_:ch _ _=_)
  rw [dZ,kk,kk,kk];rfl
theorem VZ(b:eM)(c:ah):∀(d:aM) (a:N),gF b (d++ [c]) a=en b (gF b d a) c:=by
 intro e
 induction e with
 |nil=>exact λa=>by refine(?_:gF b [c] a=_);rw [ps];rfl
 |cons g d f=>exact λa=>by rw [tU,ps,f,ps]
theorem Jc{b:hG}(L:Sm z g m a d)(P:b7=f1.map (dK<|aE m))(e:TbR m a d t b7 b.hs b6 f4)(o:pZ b7 b)(S:a2=gF (aE m) d3.reverse (eC<|aE m))(T:d3.length+1<=t)(c:ah)(u:hG->N->E):
 ∃i p v,sQ (aE m) b7 d3 a2 c b u=u i p/\TbR m a d t b7 i.hs b6 (hb (cS z<|f1.map (aV a d)) f4<|aV a d d3.reverse++au (dn a d c))/\pZ b7 i/\i.todo=b.todo++v/\i.hs=b.hs++v/\ ((hb (cS z<|f1.map (aV a d)) f4<|aV a d d3.reverse++au (dn a d c)).st.lookup<|cS z (f1.map<|aV a d) (aV a d d3.reverse++au (dn a d c))).getD 0=p/\p<i.hs.length:=by
 have V:aV a d d3.reverse++au (dn a d c)=aV a d (c::d3).reverse:=by rw [jR,mj];rfl
 have w:en (aE m) a2 c=gF (aE m) (c::d3).reverse (eC<|aE m):=by rw [jR,VZ,S]
 have x:cS z (f1.map<|aV a d) (aV a d (c::d3).reverse)=ey b7.length (dm (en (aE m) a2 c) b7):=by rw [L.row,<-P,w]
 rw [VS,V,x]
 unfold hb
 rw [x,ac0 e.sh]
 rw [o.rows,o.n]
 generalize k:dm (en (aE m) a2 c) b7=h
 have y:∃a2,h=dm a2 b7:=⟨_,k.symm⟩
 have A:ey b7.length h∈f4.sh↔h∈gt b7 b.hs:=by rw [e.shm,cT];refine⟨λY=> ?_,λl=>⟨h,l,O⟩⟩;revert Y;refine ac λZ B a0=> ?_;have:=(Kp (Kr b7 b.hs Z B) y).mp a0;exact this▸B
 have q:(gt b7 b.hs).length=b.hs.length:=aW ..
 obtain⟨j,n,D,a1⟩|⟨j,n,D⟩:=IB y (gt b7 b.hs) 0<|Kr b7 b.hs
 .rw [cN (λr=>n<|A.mp r)]
  rw [fw,q] at j
  rw [j,nh]
  have a3:ec f4.st (ey b7.length h) f4.hl.length=gw b7.length 0 (gt b7<|b.hs++ [(c::d3,en (aE m) a2 c)]):=by rw [e.st,a1,e.hl,aW];have:=Lf b7.length (gt b7 b.hs) 0 h;rw [fw,q] at this;rw [this];unfold gt;rw [de,<-k];rfl
  refine⟨_,_,[(c::d3,en (aE m) a2 c)],O,⟨⟨?_,?_,?_⟩,?_,a3,KT e.sh _,λa4=> ?_,e.mw,λs a5=> ?_⟩,⟨?_,?_⟩,O,O,?_,?_⟩
  .intro l f
   obtain f|f:=dQ.mp f
   .exact e.can l f
   .rw [bU.mp f];exact w
  .intro l f
   obtain f|f:=dQ.mp f
   .exact e.len l f
   .rw [bU.mp f];exact T
  .unfold gt;rw [de]
   refine zH.mpr ⟨e.nod,lx.mpr ⟨(by intro a9;first|contradiction|(intros;contradiction)),oD⟩,λa6 a7 b0 a8 K=>n ?_⟩
   rw [bU.mp a8] at K
   rw [<-k];exact(show a6=dm (en (aE m) a2 c) b7 from K)▸a7
  .refine(?_:f4.hl++ [_]=_);rw [e.hl,de];rfl
  .refine(?_:a4∈f4.sh.insertIdx _ _↔_)
   rw [Jk,e.shm]
   unfold gt
   rw [de,de,dQ,Et,Et,bU,k]
   exact CL
  .have:=e.tg s a5
   refine(?_:s.1<(b.hs++ [_]).length/\s.2<(b.hs++ [_]).length)
   rw [bN];exact⟨EG _ this.1,EG _ this.2⟩
  .refine(?_:_++ [h]=_);unfold gt;rw [de,<-k];rfl
  .refine(?_:_=(b.hs++ [_]).length);rw [bN];rfl
  .refine(?_:((ec f4.st (ey b7.length h) f4.hl.length).lookup<|ey b7.length h).getD 0=_);rw [yZ,e.hl,aW];rfl
  .refine(?_:_<(b.hs++ [_]).length);rw [bN];exact lA _
 .rw [ck (A.mpr n)]
  rw [fw,q] at j
  rw [show cU (jA h (gt b7 b.hs) 0) b.hs.length=ai from rL.mpr λr=>bD (ni r)<|ik j]
  refine⟨b,_,[],O,e,o,(cZ _).symm,(cZ _).symm,?_,j⟩
  refine(?_:(f4.st.lookup _).getD 0=_)
  rw [e.st,D];rfl
theorem Yx(b:TbR m a d t b7 a9 b6 f4)(e:a2<a9.length)(f:b8<a9.length):TbR m a d t b7 a9 (b6++ [(a2,b8)]) (tz (f4,[(au a,a2),(au d,b8)])):=
 ⟨b.toHsR,b.hl,b.st,b.sh,b.shm,by refine(?_:f4.mv++_=_);rw [b.mw];unfold cI;rw [de];rfl,λg c=>by
  obtain c|c:=dQ.mp c
  .exact b.tg g c
  .rw [bU.mp c];exact⟨e,f⟩⟩
theorem HsR.up(c:a<=d)(b:HsR m a b7 a9):HsR m d b7 a9:=⟨b.can,λe f=>aK (b.len e f) c,b.nod⟩
theorem TbR.up(c:t<=a2)(b:TbR m a d t b7 a9 b6 f4):TbR m a d a2 b7 a9 b6 f4:=⟨b.toHsR.up c,b.hl,b.st,b.sh,b.shm,b.mw,b.tg⟩
theorem ah3(c:I->I)(d:M I):∀(e b:N) (a:Tb),a.hl.length<=b->li c d e b a=a:=by
 intro g
 induction g with
 |zero=>exact λ_ _ _=>O
 |succ e h=>exact λb a f=>by refine(?_:li c d e (b+1) (jf c d b a)=a);rw [show jf c d b a=a by unfold jf;rw [cN (cq.mpr f)];rfl];exact h (b+1) a<|hf f
theorem Wb(t:Sm z g m a d)(x:b7=f1.map (dK<|aE m)):∀(h l:N) (c:hG) (b:M (N×N)) (e:Tb),TbR m a d l b7 c.hs b e->pZ b7 c->c.todo=c.hs.drop b.length->b.length<=c.hs.length->
 ∃n o B,sS (aE m) b7 h c b=(n,o)/\TbR m a d (l+h) b7 n.hs o (li (cS z<|f1.map (aV a d)) [au a,au d] h b.length e)/\pZ b7 n/\n.hs=c.hs++B/\(o.length=n.hs.length\/o.length=b.length+h)/\o.length<=n.hs.length:=by
 revert z g m a d f1 b7 t x
 apply U7
 generalize P6 _=f1,Q6 _=m,Q5 _=b7,Q4 _=a,Q3 _=d,Q2 _=g,Q1 _=z
 intro t x
 intro a9
 induction a9 with
 |zero=>exact λl c b e i u _ y=>⟨c,b,[],O,i,u,(cZ _).symm,.inr O,y⟩
 |succ h b0=>
  exact λl c b e i u q y=>by
   obtain⟨v,p,V,Y⟩:=c
   cases v with
   |nil=>
    have r:p.length<=b.length:=jU λZ=>by have:=bq iM q;rw [jO] at this;have D:([]:M dh).length=0:=O;have:0=p.length - b.length:=this;lia
    refine⟨_,b,[],O,?_,u,(cZ _).symm,.inl<|aZ y r,y⟩;rw [ah3]
    .exact i.up<|dS _ _
    .rw [i.hl,aW];exact r
   |cons b1 v=>
    obtain⟨j,E⟩:=b1
    have q:(j,E)::v=p.drop b.length:=q;have s:b.length<p.length:=wq λZ=>by rw [qc Z] at q;exact hq q
    rw [qb s] at q;refine aA (λa0 b2=> ?_)<|ms q;have a1:(j,E)∈p:=a0▸mu s;have a2:=i.can _ a1;have a3:j.length+1<=l+1:=fi<|i.len _ a1;have a4:e.hl.getD b.length ""=aV a d j.reverse:=by rw [i.hl,ed,gj,gz s,<-a0];rfl
    have b3:pZ b7 ⟨v,p,V,Y⟩:=⟨u.rows,u.n⟩
    refine vu (λd8 f a5 b4 K b5 b6 D a6 b8=> ?_)<|Jc t x (b:=⟨v,p,V,Y⟩) (i.up<|nj l) b3 a2 a3 ai (λc f=>sQ (aE m) b7 j E X c λc k=>sS (aE m) b7 h c<|hP b [(f,k)]);refine vu (λw k a7 b9 L c0 c1 a8 P c2=> ?_)<|Jc t x K b5 a2 a3 X (λc k=>sS (aE m) b7 h c<|hP b [(f,k)]);have c3:f<w.hs.length:=by rw [a8,bN];exact EG _ b8
    have c4:=Yx L c3 c2;have S:w.hs=p++(a5++a7):=by rw [a8,D,eo]
    have r:(b++ [(f,k)]).length=b.length+1:=bN;have c5:w.todo=w.hs.drop (b++ [(f,k)]).length:=by rw [c1,b6,r,S,wd s,b2,eo]
    refine CE (λn o B c6 A c7 c8 c9 d0=> ?_)<|b0 (l+1) w (b++ [(f,k)]) _ c4 c0 c5 (by rw [r,S,bN];exact aK (EN s)<|dS _ _);refine⟨n,o,a5++a7++B,?_,?_,c7,by rw [c8,S,eo],?_,d0⟩
    .refine DU (b4.trans<|b9.trans ?_) c6;rw [kk]
    .rw [r] at A
     rw [show l+(h+1)=l+1+h by exact nS (C+(J+1)) (C+1+J) (aN _ _) O];have d1:dn a d ai=a:=O;have d2:dn a d X=d:=O;rw [d1] at K a6 L P A;rw [d2] at L P A;have d3:mU (cS z<|f1.map (aV a d)) b.length (e,[]) (au a)=(hb (cS z<|f1.map (aV a d)) e<|aV a d j.reverse++au a,[(au a,f)]):=by unfold mU;rw [a4,a6];rfl
     have d4:(hb (cS z<|f1.map (aV a d)) e<|aV a d j.reverse++au a).hl.getD b.length ""=aV a d j.reverse:=by rw [K.hl,D,de,BN (by rw [aW];exact s),<-i.hl,a4]
     have d5:ec [(au a,f)] (au d) k=[(au a,f),(au d,k)]:=by refine(?_:(bif aI (au a=au d) then _ else _)=_);rw [cN λd6=>t.L.ab<|qL d6];rfl
     have d7:jf (cS z<|f1.map (aV a d)) [au a,au d] b.length e=tz (hb (cS z<|f1.map (aV a d)) (hb (cS z<|f1.map (aV a d)) e<|aV a d j.reverse++au a)<|aV a d j.reverse++au d,[(au a,f),(au d,k)]):=by unfold jf;rw [ck (show b.length<e.hl.length by rw [i.hl,aW];exact s)];refine(?_:tz (mU _ _ (mU _ _ (e,[])<|au a)<|au d)=_);rw [d3];unfold mU;rw [d4,P,d5]
     refine(?_:TbR m a d _ b7 n.hs o (li _ _ h (b.length+1)<|jf _ [au a,au d] b.length e));rw [d7];exact A
    .obtain T|T:=c9
     .exact .inl T
     .exact .inr<|by rw [T,r];exact fg _ _ _
noncomputable section
end
theorem qT(c:E):∀(b:M E) (a:N),ea c b a=b.getD a c:=by
 intro d
 induction d with
 |nil=>exact λ_=>O
 |cons g b e=>
  intro f
  cases f with
  |zero=>exact O
  |succ a=>exact e a
theorem Cb(b c:N):∀d:M (N×N),qR b c d=X↔(b,c)∈d:=by
 intro j
 induction j with
 |nil=>exact⟨(by intro k;first|contradiction|(intros;contradiction)),(by intro k;first|contradiction|(intros;contradiction))⟩
 |cons l d i=>
  obtain⟨e,f⟩:=l
  exact by
   refine(?_:(ci (qR b c d) (ci (qR b c d) X<|cU f c) (cU e b):ah)=X↔_);rw [bO,Aa]
   cases g:cU e b with
   |false=>
    have:b≠e:=λa=>by rw [a,nh] at g;exact gX g
    exact(i).trans ⟨.inr,λa=>a.elim (λa=>bD a.1 this) id⟩
   |true=>
    cases h:cU f c with
    |false=>
     have:c≠f:=λa=>by rw [a,nh] at h;exact gX h
     exact(i).trans ⟨.inr,λa=>a.elim (λa=>bD a.2 this) id⟩
    |true=>exact⟨λ_=> .inl ⟨(ni g).symm,(ni h).symm⟩,λ_=>O⟩
theorem ID(h:Sm z g m a d)(f:N)(b:ah):iB (cI a d b6) f (au<|dn a d b)=gq b6 f b:=by
 unfold iB gq;rw [qT];unfold cI;rw [ed,ed,gj]
 cases b6[f]? with
 |none=>cases b<;>rfl
 |some i=>
  obtain⟨c,e⟩:=i
  refine(?_:(([(au a,c),(au d,e)]:M (I×N)).lookup<|au (dn a d b)).getD 0=IP b (c,e))
  cases b with
  |false=>show(([(au a,c),(au d,e)]:M (I×N)).lookup<|au a).getD 0=c;rw [ee,jx];rfl
  |true=>refine(?_:(([(au a,c),(au d,e)]:M (I×N)).lookup<|au d).getD 0=e);rw [ee,eP.mpr (λj=>h.L.ab (qL j).symm),ee,jx];rfl
theorem Cf(f:Sm z g m a d):∀(c:aM) (b:N),pB (cI a d b6) b (c.map<|dn a d)=iz b6 c b:=by
 intro h
 induction h with
 |nil=>exact λb=>O
 |cons e c i=>exact λb=>by refine(?_:pB (cI a d b6) (iB (cI a d b6) b<|au (dn a d e)) (c.map<|dn a d)=ch (gq b6 b e) (iz b6 c));rw [dZ,ID f,i]
def hk(a:M N)(b:M dh):M ah:=b.map λc=>cr c.2 (aE a).fin
theorem TF(b:Sm z g m a d)(e:HsR m t b7 a9):(a9.map<|dk a d).map z.f=hk m a9:=by rw [jq];refine qi λc f=> ?_;refine(?_:z.f (aV a d c.1.reverse)=_);rw [b.f,sE b.pat b.L,<-BP,<-e.can c f]
theorem Iz(a:N):cr 0 a=ai:=by unfold cr;rw [show jT 0 a=0 from Nat.zero_and a];rfl
theorem Vs{a:M N}{f:N}{g:N}{d:M dh}(b c:N):mW (hk a d) (eb a f g) (b,c)= !kl (cr (hR<|ea ([],0) d b) (aE a).fin) (cr c (aE a).fin):=by
 unfold mW
 have h:(hk a d).getD b ai=cr (hR<|ea ([],0) d b) (aE a).fin:=by
  rw [qT];unfold hk;rw [ed,ed,gj]
  cases d[b]? with
  |none=>exact(Iz _).symm
  |some j=>rfl
 have i:(c&&&(eb a f g).fin !=0)=cr c (aE a).fin:=by
  rw [JS];unfold cr
  cases e:cU (jT c (aE a).fin) 0 with
  |true=>exact Bb.mpr<|ni e
  |false=>exact mG.mpr λb=>by rw [show jT _ _=0 from b] at e;exact gX e
 refine(?_:((hk a d).getD b ai !=(c&&&(eb a f g).fin !=0))=_);rw [h,i];cases cr (hR<|ea ([],0) d b) (aE a).fin<;>cases cr c (aE a).fin<;>rfl
structure ji(v x:N)(y:aM)(Y:N)(i:N)(h:bZ×M I)(Z:M (N×N))(j:M js):Prop where
 mem:∀o:N×N,o∈Z↔o∈h.1
 t1:h.1.drop i=j.map λc=>(c.1,c.2.1)
 t2:h.2.drop i=j.map λc=>aV v x<|y++c.2.2.reverse
 l1:i<=h.1.length
 l2:i<=h.2.length
 len:∀c∈j,c.2.2.length<=Y
theorem IN{f:M (N×N)}{h:aM}(k:Sm z g m a d)(b:ji a d d3 t a2 h8 f l6)(p:h.length+1<=t)(c:ah)(l:M (N×N)->M js->E):
 ∃n o,hS (aE m) b6 g2.1 g2.2 h c f l6 l=l n o/\ji a d d3 t a2 (mm (cI a d b6) (eb m a d) g2 (aV a d<|d3++h.reverse) (au<|dn a d c) h8) n o:=by
 unfold hS mm
 rw [dZ,dZ,show lk (cI a d b6) (eb m a d) g2 (au<|dn a d c)=(gq b6 g2.1 c,en (aE m) g2.2 c) by unfold lk;rw [ID k,yk k.L]]
 by_cases i:(gq b6 g2.1 c,en (aE m) g2.2 c)∈h8.1
 .rw [(Cb _ _ _).mpr ((b.mem _).mpr i),ck i];exact⟨f,l6,O,b⟩
 .rw [show qR (gq b6 g2.1 c) (en (aE m) g2.2 c) f=ai from rL.mpr λj=>i<|(b.mem _).mp ((Cb _ _ _).mp j),cN i]
  refine⟨_,_,O,λq=> ?_,?_,?_,?_,?_,λj e=> ?_⟩
  .refine(?_:_↔q∈h8.1++ [_]);rw [bO,dQ,bU,b.mem];exact CL
  .refine(?_:(h8.1++ [_]).drop a2=_);rw [wd b.l1,b.t1,kk,de];rfl
  .refine(?_:(h8.2++ [_]).drop a2=_);rw [wd b.l2,b.t2,kk,de,Et,jR,<-eo,mj (d3++h.reverse) [c]];rfl
  .refine(?_:_<=(h8.1++ [_]).length);rw [bN];exact aK b.l1<|dS _ _
  .refine(?_:_<=(h8.2++ [_]).length);rw [bN];exact aK b.l2<|dS _ _
  .rw [kk] at e
   obtain e|e:=dQ.mp e
   .exact b.len j e
   .rw [bU.mp e];exact p
theorem ji.up(c:t<=a2)(b:ji a d d3 t b8 h8 b6 l6):ji a d d3 a2 b8 h8 b6 l6:=⟨b.mem,b.t1,b.t2,b.l1,b.l2,λe f=>aK (b.len e f) c⟩
theorem Vu(K:Sm z g m a d)(o:aM):∀(p t c:N) (e:bZ×M I) (l:M (N×N)) (k:M js) (q:ag aM),ji a d o t c e l k->hQ (aE m) a9 b6 p l k=Q q->
 (∀b,p<=b->mY (cI a d b6) (eb m a d) (hk m a9) [au a,au d] b c e=q.map λf=>aV a d<|o++f.reverse)/\∀f,q=Q f->f.length<=t+p:=by
 intro S
 induction S with
 |zero=>exact λ_ _ _ _ _ _ _ j=>by cases j
 |succ p T=>
  intro t c e l V
  cases V with
  |nil=>
   exact λq r j=>by
    cases j;refine⟨λb s=> ?_,(by intro b7;first|contradiction|(intros;contradiction))⟩;obtain⟨b,rfl⟩:∃u,b=u+1:=⟨b - 1,by exact aZ (af 0 C (J+1) (.p 1 C (J+1) .z) (aN _ _) O<|dz _ _)<|af 0 (C+1) J (.q 1 (C+1) J .z) (aN _ _) O (dD<|af 0 1 C (.p 1 (J+1) C .z) (aN _ _) O s)⟩
    have:e.1.length<=c:=by have:=bq iM r.t1;rw [jO] at this;have:e.1.length - c=0:=this;exact af 0 C J (.q 1 aj 0<|.p 1 C (aj+J) .z) (bk _ _ _) O this<|dz _ _
    rw [yW,cN (cq.mpr this)];rfl
  |cons Y k=>
   obtain⟨h,i,f⟩:=Y
   exact λq r j=>by
    have j:(ci (Q<|Q f) (hS (aE m) b6 h i f ai l k λl k=>hS (aE m) b6 h i f X l k<|hQ (aE m) a9 b6 p) (kl (cr (hR<|ea ([],0) a9 h) (aE m).fin)<|cr i (aE m).fin):ag (ag aM))=Q q:=j;have v:e.1.drop c=(h,i)::k.map λn=>(n.1,n.2.1):=r.t1;have w:e.2.drop c=aV a d (o++f.reverse)::k.map λn=>aV a d (o++n.2.2.reverse):=r.t2;have x:c<e.1.length:=wq λA=>by rw [qc A] at v;cases v
    have B:c<e.2.length:=wq λA=>by rw [qc A] at w;cases w
    have D:=r.len (h,i,f)<|.head _;rw [qb x] at v;rw [qb B] at w;obtain⟨Z,a0⟩:=ms v
    obtain⟨a1,a2⟩:=ms w
    have a3:e.1.getD c (0,0)=(h,i):=by rw [ed,gz x,Z];rfl
    have a4:e.2.getD c ""=aV a d (o++f.reverse):=by rw [ed,gz B,a1];rfl
    have y:= @Vs m a d a9 h i;have L:∀b,mY (cI a d b6) (eb m a d) (hk m a9) [au a,au d] (b+1) c e=bif mW (hk m a9) (eb m a d) (h,i) then Q (aV a d<|o++f.reverse) else mY (cI a d b6) (eb m a d) (hk m a9) [au a,au d] b (c+1) (mX (cI a d b6) (eb m a d) (h,i) (aV a d<|o++f.reverse) [au a,au d] e):=λb=>by rw [yW,ck x,a3,a4];rfl
    cases n:kl (cr (hR<|ea ([],0) a9 h) (aE m).fin) (cr i (aE m).fin) with
    |false=>
     rw [n] at j y;cases j;refine⟨λb s=> ?_,λP E=>by cases E;exact aK D<|dS _ _⟩;obtain⟨b,rfl⟩:∃u,b=u+1:=⟨b - 1,by exact aZ (af 0 C (J+1) (.p 1 C (J+1) .z) (aN _ _) O<|dz _ _)<|af 0 (C+1) J (.q 1 (C+1) J .z) (aN _ _) O (dD<|af 0 1 C (.p 1 (J+1) C .z) (aN _ _) O s)⟩
     rw [L,y];rfl
    |true=>
     rw [n] at j y;have a5:ji a d o (t+1) (c+1) e l k:=⟨r.mem,a0,a2,x,B,λn a6=>hf<|r.len n (.tail _ a6)⟩
     obtain⟨b8,b9,a7,a8⟩:=IN K a5 (g2:=(h,i)) (fi D) ai λl k=>hS (aE m) b6 h i f X l k<|hQ (aE m) a9 b6 p
     obtain⟨b0,b1,b2,b3⟩:=IN K a8 (g2:=(h,i)) (fi D) X<|hQ (aE m) a9 b6 p
     have j:=(a7.trans b2).symm.trans j;obtain⟨b4,b5⟩:=T (t+1) (c+1) _ b0 b1 q b3 j
     refine⟨λb s=> ?_,λP E=>by have:=b5 P E;exact af 0 C (J+(aj+1)) (.p 1 C (J+1+aj) .z) (bk _ _ _) O this⟩;obtain⟨b,rfl⟩:∃u,b=u+1:=⟨b - 1,by exact aZ (af 0 C (J+1) (.p 1 C (J+1) .z) (aN _ _) O<|dz _ _)<|af 0 (C+1) J (.q 1 (C+1) J .z) (aN _ _) O (dD<|af 0 1 C (.p 1 (J+1) C .z) (aN _ _) O s)⟩
     rw [L,y];exact b4 b<|ND s
theorem Iy{c:ag aM}(f:Sm z g m a d)(i:t=iz b6 d3 0)(j:a2=gF (aE m) d3 (eC<|aE m))(k:hQ (aE m) a9 b6 b8 [(t,a2)] [(t,a2,[])]=Q c):
 (∀e,b8<=e->tF (cI a d b6) (eb m a d) (hk m a9) [au a,au d] e (aV a d d3)=c.map λb=>aV a d<|d3++b.reverse)/\∀b,c=Q b->b.length<=b8:=by
 have l:fZ (cI a d b6) (aV a d d3)=t:=(Cf f d3 0).trans i.symm
 have n:gG (eb m a d) (aV a d d3)=a2:=(Cx f.L d3).trans j.symm
 have o:ji a d d3 0 0 ([(t,a2)],[aV a d d3]) [(t,a2)] [(t,a2,[])]:=⟨λ_=>tS,O,by refine(?_:[aV a d d3]=[aV a d (d3++ [])]);rw [cZ],cy _,cy _,λh p=>by rw [bU.mp p];exact ba _⟩
 refine aA (λq r=> ?_)<|Vu f d3 b8 0 0 _ _ _ c o k
 refine⟨λe s=> ?_,λb h=>by have:=r b h;exact af 0 C J (.p 1 C (0+J) .z) (aN _ _) O this⟩
 unfold tF
 rw [l,n];exact q e s
theorem ac6(b:a<=d):nB (a:H) (d:H) 1=(dR<|d - a).map (a+ ·):=by
 unfold nB;have e:(if(1:H)>0 then(if(a:H)<d then((d:H) - a+1 - 1)/1 else 0) else(if(a:H)>d then((a:H) - d - 1 - 1)/(-1) else 0)).toNat=d - a:=by rw [bK (by decide),Int.ediv_one];split<;>(first|exact aq2 _ _ b ‹_›|exact aq3 _ _ b ‹_›)
 refine(?_:ft _ (dR (if(1:H)>0 then(if(a:H)<d then((d:H) - a+1 - 1)/1 else 0) else(if(a:H)>d then((a:H) - d - 1 - 1)/(-1) else 0)).toNat)=_);rw [e];refine qi λc _=> ?_;refine(?_:((a:H)+1*(c:H)).toNat=a+c);exact aq4 _ _
theorem Ta(b:M E)(c:N):∀a:N,c+a<=b.length->((dR a).map (c+ ·)).filterMap (b[·]?)=(b.drop c).take a:=by
 intro d
 induction d with
 |zero=>exact λ_=>O
 |succ a e=>
  exact λf=>by
   have g:a<(b.drop c).length:=by rw [jO];exact af 0 (C+1) J (.p 1 (aj+(C+1)) bo<|.p 1 bo (J+aj) .z) (di _ _ _ _) O f<|dz _ _
   rw [Nr,de,MR,e (by exact dx ‹_›),Nx g,List.getElem_drop];congr 1;refine(?_:(match b[c+a]? with|none=> []|some h=> [h])=_);rw [gz (by assumption)]
theorem KZ(i:EV j8 m2 1 g.length=nB (a:H) (d:H) 1)(c:a<=d)(e:d<=g.length):aO (fV g j8 m2)=((aO g).drop a).take (d - a):=by
 have h:=fd g;unfold fV;rw [i,ac6 c];split
 .next f=>
  rw [eJ,fX,fX,aW,jp] at f
  rw [show a=0 by exact aq5 _ _ _ c e f,qd,ly (by exact aq6 _ _ _ _ c e h f)]
 .have j:∀b:N,g.cps[b]? =(aO g)[b]? :=λb=>(zd).symm;refine(?_:((dR<|d - a).map (a+ ·)).filterMap (g.cps[·]?)=_);rw [show(λb:N=>g.cps[b]?)=λb=>(aO g)[b]? from vc j];exact Ta _ a _<|by exact af 0 (C+J) aj (.p 1 bo fW<|.f 1 aj fW (.q 1 (J+C) bo .z)) (ky _ _ _ _ _) O e h<|dD (af 0 C J (.p 1 C J .z) (aN _ _) O c)
theorem ad0(b:a<=g.length):aO (fV g U<|Q (a:H))=(aO g).take a:=by
 rw [KZ (a:=0) (d:=a) ?_ (cy _) b] at ⊢
 .rfl
 .unfold EV;refine(?_:nB 0 (du 0<|dI (if(a:H)<0 then(a:H)+g.length else a) (g.length:H)) 1=_);rw [bF (mq.mpr<|cj a),Int.min_eq_left (vV.mpr b),vU (cj a)] at ⊢;rfl
theorem ad2(b:a<=g.length):aO (fV g (Q (a:H)) U)=(aO g).drop a:=by
 rw [KZ (a:=a) (d:=g.length) ?_ b (ba _)] at ⊢
 .rw [<-fd,ly (by rw [jO];exact ba _)] at ⊢
 .unfold EV;refine(?_:nB (du 0<|dI (if(a:H)<0 then(a:H)+g.length else a) (g.length:H)) g.length 1=_);congr 1;lia
noncomputable section
end
theorem qS:∀(a b:aM),kV a b=a.reverse++b:=by
 intro c
 induction c with
 |nil=>exact λ_=>O
 |cons d a e=>exact λb=>by refine(?_:kV a (d::b)=_);rw [e,jR,eo];rfl
theorem VD:∀(b:aM) (a:N),qQ b a=b.drop a:=by
 intro c
 induction c with
 |nil=>exact λa=>Eh.symm
 |cons f b d=>
  intro e
  cases e with
  |zero=>exact O
  |succ a=>exact d a
theorem Cn(a b:ah):kl a b=(a==b):=by cases a<;>cases b<;>rfl
def lL(c:M dh)(d:M (N×N))(a:aM)(b:N):aM:=(qU<|ea ([],0) c (iz d (a.take b) 0)).reverse++a.drop b
theorem IQ(e:eM)(d:ah):∀(a:aM) (c b:N),b<=a.length->(lU e a9 b6 d a c)[b]? =
 Q ((qU<|ea ([],0) a9 (iz b6 (a.take b) c)).reverse++a.drop b,cr (hR<|ea ([],0) a9 (iz b6 (a.take b) c)) (dK e<|a.drop b)==d)
 |[],c,0,_=>by refine(?_:Q (kV _ [],kl _ d)=_);rw [qS,Cn];rfl
 |f::a,c,0,_=>by refine(?_:Q (kV _ (f::a),kl _ d)=_);rw [qS,Cn];rfl
 |f::a,c,b+1,g=>by refine(?_:(ch (gq b6 c f)<|lU e a9 b6 d a)[b]? =_);rw [dZ,IQ e d a _ b (ND g),zI,MP];refine(?_:_=Q ((qU<|ea ([],0) a9 (ch (gq b6 c f)<|iz b6 (a.take b))).reverse++a.drop b,cr (hR<|ea ([],0) a9 (ch (gq b6 c f)<|iz b6 (a.take b))) (dK e<|a.drop b)==d));rw [dZ]
theorem LI{c:N}{d:N}{a:aM}{b:N}(e:b<=a.length):fV (aV c d a) U (Q (b:H))=aV c d (a.take b)/\fV (aV c d a) (Q (b:H)) U=aV c d (a.drop b):= ⟨lN<|by rw [ad0 (by rw [ks];exact e),rH,rH,zG],lN<|by rw [ad2 (by rw [ks];exact e),rH,rH,zD]⟩
theorem TJ(b:N):(a9.map<|dk a d).getD b ""=aV a d (qU<|ea ([],0) a9 b).reverse:=by
 rw [qT,ed,ed,gj]
 cases a9[b]? with
 |none=>exact lN<|show aO (bC "")=[] by decide+kernel
 |some c=>rfl
theorem FR(b:Sm z g m a d)(c:t<=d3.length):
 (a9.map<|dk a d).getD (fZ (cI a d b6)<|fV (aV a d d3) U (Q (t:H))) ""++fV (aV a d d3) (Q (t:H)) U=aV a d (lL a9 b6 d3 t):=by
 refine aA (λe f=> ?_)<|@LI a d d3 t c
 rw [e,f,TJ,show fZ (cI a d b6) (aV a d<|d3.take t)=iz b6 (d3.take t) 0 from Cf b _ 0,<-mj];rfl
theorem Ru(c:HsR m a b7 a9)(b:d<a9.length):hR (ea ([],0) a9 d)=gF (aE m) (qU<|ea ([],0) a9 d).reverse (eC<|aE m):=by rw [qT,ed,gz b];exact c.can _<|mu b
theorem Ly(c:Sm z g m a d)(i:HsR m t b7 a9)(j:∀b h,b<a9.length->gq b6 b h<a9.length)(k:0<a9.length)(e:a2<=d3.length):
 ea ([],ai) (lU (aE m) a9 b6 (cr (eC<|aE m)<|dK (aE m) d3) d3 0) a2=(lL a9 b6 d3 a2,fo z (a9.map<|dk a d) (cI a d b6) (aV a d d3) a2):=by
 rw [qT,ed,IQ _ _ d3 0 a2 e]
 unfold fo
 rw [FR c e,c.f,c.f,sE c.pat c.L,sE c.pat c.L]
 have l:∀(f:aM) (b:N),b<a9.length->iz b6 f b<a9.length:=λf=>by
  induction f with
  |nil=>exact λb e=>e
  |cons h f n=>intro b e;refine(?_:ch (gq b6 b h) (iz b6 f)<_);rw [dZ];exact n _<|j b h e
 unfold lL
 rw [HS,<-Ru i (l _ 0 k)];rfl
theorem VH{g:M (aM×ah)}{i:N->aM}(p:∀j,j<=a->ea ([],ai) g j=(i j,!c7 j)):∀(d b c:N) (f:M aM) (e:N),c<=a->
 sP g d b c f e=(dr c7 d b c,(dB c7 d b c).reverse.map i++f,e+(dB c7 d b c).length):=by
 intro q
 induction q with
 |zero=>exact λb c f e _=>O
 |succ d l=>
  exact λb c f e m=>by
   refine(?_:(ci (ch ((b+c)/2) λk=>hg (λn r=>ci (sP g d b k (n::f)<|e+1) (sP g d (k+1) c (n::f)<|e+1) r)<|ea ([],ai) g k) (b,f,e) (ei c b):N×M aM×N)=_);rw [dZ,lM,vB];by_cases h:b<c
   .rw [ck h,show ei c b=ai from rL.mpr λs=>bD (bA s)<|zP.mpr h]
    have o:(b+c)/2<=a:=by exact af 1 C J (.p 2 aj J<|.p 1 (bo+1) aj (.p 1 (bn 2 C) (bo+aj) .z)) (di _ _ _ _) O m h<|jV _ _
    rw [p _ o]
    cases c7 ((b+c)/2) with
    |true=>
     refine(?_:sP g d b ((b+c)/2) _ (e+1)=(dr c7 d b<|(b+c)/2,((((b+c)/2)::dB c7 d b ((b+c)/2)).reverse.map i++f),e+((dB c7 d b<|(b+c)/2).length+1)))
     rw [l b _ _ _ o,jR,de,eo,lz,fS 1];rfl
    |false=>
     refine(?_:sP g d ((b+c)/2+1) c _ (e+1)=(dr c7 d ((b+c)/2+1) c,((((b+c)/2)::dB c7 d ((b+c)/2+1) c).reverse.map i++f),e+((dB c7 d ((b+c)/2+1) c).length+1)))
     rw [l _ c _ _ m,jR,de,eo,lz,fS 1];rfl
   .rw [cN h,zN (jU h)];rfl
noncomputable section
end
theorem xV(b:ah):∀(c:aM) (a:N),gp (c++ [b]) a=2*gp c a+b.toNat:=by
 intro e
 induction e with
 |nil=>exact λa=>by refine(?_:ch (ci (2*a) (2*a+1) b) (λa=>a)=_);rw [dZ];cases b<;>rfl
 |cons d c f=>exact λa=>by refine(?_:ch (ci (2*a) (2*a+1) d) (gp<|c++ [b])=2*ch (ci (2*a) (2*a+1) d) (gp c)+b.toNat);rw [dZ,dZ,f]
theorem Iu:∀(b:aM) {a:N},1<=a->1<=gp b a:=by
 intro e
 induction e with
 |nil=>exact @λ_ c=>c
 |cons d b f=>exact @λa c=>by refine(?_:1<=ch (ci (2*a) (2*a+1) d) (gp b));rw [dZ];exact f<|by cases d<;>first|exact aK c (Nat.le_mul_of_pos_left a<|by decide)|exact fT _
theorem Iv:∀(b c:aM),gp b.reverse 1=gp c.reverse 1->b=c
 |[],[],_=>O
 |[],d::c,a=>by rw [jR,xV] at a;have:=Iu c.reverse<|ba 1;have:1=2*gp c.reverse 1+d.toNat:=a;exact cp (.p 2 1 C<|.f 1 1 ((bn 2 C)+J) .z) (aN _ _) O ‹_› this
 |d::b,[],a=>by rw [jR,xV] at a;have:=Iu b.reverse<|ba 1;have:2*gp b.reverse 1+d.toNat=1:=a;exact cp (.p 2 1 C<|.q 1 ((bn 2 C)+J) 1 .z) (aN _ _) O ‹_› this
 |d::b,e::c,a=>by
  rw [jR,jR,xV,xV] at a;have f:=DS d;have g:=DS e;rw [Iv b c (by exact aZ (af 1 C J (.q 1 ((bn 2 C)+aj) ((bn 2 J)+bo)<|.p 1 (bo+1) 2 .z) (di _ _ _ _) O a g)<|af 1 C J (.f 1 ((bn 2 J)+aj) ((bn 2 C)+bo)<|.p 1 (aj+1) 2 .z) (di _ _ _ _) O a f)];have:d.toNat=e.toNat:=by lia
  cases d<;>cases e<;>first|rfl|cases this
theorem Vz(a b:aM)(c:gp a 1=gp b 1):a=b:=by have:=Iv a.reverse b.reverse (by rw [wj,wj];exact c);rw [<-wj a,this,wj]
theorem Wc(a b:N):pw a b=a.testBit b:=by
 have c:pw a b=X↔a.testBit b=X:=by refine(?_:cU (a>>>b&&&1) 1=X↔_);rw [NA,EA,EO,Nat.and_comm,EA,mG];exact aq7 _
 rw [oq];exact c
theorem VC:∀(h:M aM) (a b:N) (c:M aM),c.Nodup->(∀d∈c,d∈h/\a.testBit (gp d 1)=ai)->c.length+b<=(gT h a b).2:=by
 intro q
 induction q with
 |nil=>
  exact λa b c _ f=>by
   cases c with
   |nil=>exact dM<|fw b
   |cons d c=>cases(f d<|.head _).1
 |cons e h k=>
  exact λa b c i f=>by
   refine(?_:_<=(ch (gp e 1) λl=>(ci (ch (a|||1<<<l) λa=>ch (b+1) λb=>gT h a b) (gT h a b) (pw a l):N×N)).2);rw [dZ,Wc]
   cases m:a.testBit (gp e 1) with
   |true=>
    refine k a b c i λd g=>⟨?_,(f d g).2⟩
    obtain j|j:=bO.mp (f d g).1
    .rw [j] at g;rw [(f e g).2] at m;exact cY m
    .exact j
   |false=>
    refine(?_:_<=(ch (a|||1<<<gp e 1) λa=>ch (b+1) λb=>gT h a b).2);rw [dZ,dZ];have:=k (a|||1<<<gp e 1) (b+1) (c.erase e) (i.erase e) λd g=>by have n:d≠e:=((at7 i).mp g).1;have o:=List.mem_of_mem_erase g;refine⟨(bO.mp (f d o).1).resolve_left n,?_⟩;rw [zU,(f d o).2,EJ,zV,cN λr=>n (Vz _ _ r).symm];rfl
    have s:=List.length_erase_le (a:=e) (l:=c);by_cases p:e∈c
    .rw [Nd p] at this;exact af 0 (C+J) aj (.p 1 (bo+(J+1)) aj<|.p 1 C (bo+1) .z) (di _ _ _ _) O this<|dz _ _
    .rw [List.erase_of_not_mem p] at this;exact dx ‹_›
theorem VB:∀(c d:M aM) (a b:N),gT (c++d) a b=gT d (gT c a b).1 (gT c a b).2:=by
 intro h
 induction h with
 |nil=>exact λ_ _ _=>O
 |cons f c g=>
  exact λd a b=>by
   show(ch (gp f 1) λe=>(ci (ch (a|||1<<<e) λa=>ch (b+1) λb=>gT (c++d) a b) (gT (c++d) a b) (pw a e):N×N))= gT d (ch (gp f 1) λe=>(ci (ch (a|||1<<<e) λa=>ch (b+1) λb=>gT c a b) (gT c a b) (pw a e):N×N)).1 (ch (gp f 1) λe=>(ci (ch (a|||1<<<e) λa=>ch (b+1) λb=>gT c a b) (gT c a b) (pw a e):N×N)).2;simp only [dZ]
   cases pw a (gp f 1) with
   |true=>exact g d a b
   |false=>exact g d _ _
def vQ(b:M aM):Prop:=∀a:M aM,a.Nodup->(∀c∈a,c∈b)->a.length<=63
theorem VQ(b:Cd a9 f1 i9=X):vQ (mK f1 a9++i9):=λc d e=>by have a:ei (gT i9 (gT (mK f1 a9) 0 0).1 (gT (mK f1 a9) 0 0).2).2 63=X:=b;rw [<-VB] at a;exact aK (VC _ 0 0 c d λf g=>⟨e f g,zW _⟩)<|bA a
theorem BY(a:aM)(c:M aM):∀b:M aM,pq a b c=b.map (a.reverse++ ·)++c:=by
 intro d
 induction d with
 |nil=>exact O
 |cons e b f=>exact by refine(?_:kV a e::pq a b c=_);rw [qS,f];rfl
theorem Cj:∀{b:M dh} {d:dh},d∈b->∀e∈f1,d.1.reverse++e∈mK f1 b/\∀c,(c::d.1).reverse++e∈mK f1 b
 |(a,h)::b,d,g,e,f=>by
  have i:mK f1 ((a,h)::b)=f1.map (a.reverse++ ·)++(f1.map ((ai::a).reverse++ ·)++(f1.map ((X::a).reverse++ ·)++mK f1 b)):=by refine(?_:pq a f1 (pq (ai::a) f1<|pq (X::a) f1 (mK f1 b))=_);rw [BY,BY,BY]
  rw [i];obtain rfl|g:=bO.mp g
  .exact⟨eH _<|qk f,λc=>ff _ (by
    cases c with
    |false=>exact eH _ (qk (f:=((ai::a).reverse++ ·)) f)
    |true=>exact ff _ (eH _ (qk (f:=((X::a).reverse++ ·)) f)))⟩
  .refine aA (λj k=> ?_)<|Cj g e f;exact⟨ff _<|ff _ (ff _ j),λc=>ff _<|ff _ (ff _<|k c)⟩
theorem Wa(a:M N):∀b:M dh,sR a b=gt a b:=by
 intro c
 induction c with
 |nil=>exact O
 |cons d b e=>
  obtain⟨h,f⟩:=d
  exact by refine(?_:(ch (dm f a) λg=>g::sR a b)=_);rw [dZ,e];rfl
theorem aD8:(xD.all λa=>xW [0,1,2,0,1] a)=X:=by decide+kernel
theorem ae8(f:∀c∈a9,m9 (dk a d c)=ey m.length (dm c.2 m)):∀(b:M N),AK m b->(b++gt m a9).Nodup->jD m9 (a9.map<|dk a d) b.length (gw m.length 0 b)=gw m.length 0 (b++gt m a9):=by
 induction a9 with
 |nil=>intro b _ _;refine(?_:gw m.length 0 b=gw m.length 0 (b++ []));rw [cZ]
 |cons c a9 k=>
  intro b g h;have l:((b++ [dm c.2 m])++gt m a9).Nodup:=by rw [eo];exact h
  refine(?_:jD m9 (a9.map<|dk a d) (b.length+1) (ec (gw m.length 0 b) (m9<|dk a d c) b.length)=_);rw [f c (.head _)];obtain⟨n,i,o,p⟩|⟨n,i,o⟩:=IB (m:=m) ⟨c.2,O⟩ b 0 g
  .have j:=Lf m.length b 0<|dm c.2 m
   rw [fw] at j;rw [p,j]
   have:=k (λq r=>f q<|.tail _ r) (b++ [dm c.2 m]) (λs t=>by
    obtain e|e:=dQ.mp t
    .exact g s e
    .exact⟨c.2,bU.mp e⟩) l
   rw [bN,eo] at this;exact this
  .exfalso;exact(zH.mp h).2.2 _ i (dm c.2 m) (.head _) O
theorem ah1(i:Sm z g m a d)(j:b7=f1.map (dK<|aE m))(e:HsR m t b7 a9):TbR m a d t b7 a9 [] (yQ z (f1.map<|aV a d)<|a9.map (dk a d)):=by
 have k:∀b∈a9,cS z (f1.map<|aV a d) (dk a d b)=ey b7.length (dm b.2 b7):=λb l=>by unfold dk;rw [i.row,<-j,<-e.can b l]
 have c:=ae8 k [] nofun (by rw [Ev];exact e.nod);rw [Ev] at c;have c:jD (cS z<|f1.map (aV a d)) (a9.map<|dk a d) 0 []=gw b7.length 0 (gt b7 a9):=c;have f:=ab9 ((jD (cS z<|f1.map (aV a d)) (a9.map<|dk a d) 0 []).map (·.1)) [] (λo p q h _ b _=>by cases b);refine⟨e,O,c,f.1,λh=>(f.2 h).trans ?_,O,nofun⟩;rw [c,ae9];exact⟨λn=>n.elim nofun id,.inr⟩
theorem Ce(a:N):∀b:M N,eW a b<2^b.length:=by
 intro d
 induction d with
 |nil=>exact zR
 |cons c b e=>
  exact by
   have f:eW a (c::b)=2*eW a b+(cU c a).toNat:=by refine(?_:(ci (2*eW a b) (im<|2*eW a b) (cU c a):N)=_);cases cU c a<;>rfl
   have:=e;have:=DS<|cU c a;rw [f,gO,wx];exact af 0 (((bn 2 C)+J)+1) (hy aj 2) (.p 2 (C+1) aj<|.p 1 (J+1) 2 .z) (bk _ _ _) O ‹_› this
theorem Ci(e:m.length<=5)(a:N)(b:ah):en (aE m) a b<64:=by
 have c:2^m.length<=2^5:=EK (by decide) e;have d:(aE m).g<2^6:=by have:=Ce 2 m;refine(?_:2*eW 2 m<64);exact af 0 ((bn 2 C)+1) 64 (.p 2 J (qn<|2^5)<|.p 2 (C+1) J .z) (aN _ _) O c this
 have f:nR (aE m) b<2^5:=by
  cases b
  .exact ij (Ce 0 m) c
  .exact ij (Ce 1 m) c
 rw [Ch];have g:a&&&(aE m).g<2^6:=oW d;have h:(a&&&nR (aE m) b)<<<1<2^6:=by have:= @oW a _ _ f;rw [ug];exact af 0 ((hy C<|2^1)+1) (qn<|2^6) (.p 2 (C+1) (qn<|2^5) .z) (bj _) O this
 exact zS (n:=6) (zS g h)<|oW d
theorem VY(c:m.length<=5):∀(b:aM) (a:N),a<64->gF (aE m) b a<64:=by
 intro d
 induction d with
 |nil=>exact λ_ e=>e
 |cons f b g=>exact λa _=>by rw [ps];exact g _<|Ci c a f
theorem Vw:eC (aE m)<64:=by refine(?_:1|||(2&&&(aE m).g)<64);have:2&&&(aE m).g<=2:=Nat.and_le_left;exact zS (n:=6) (by decide)<|by exact cd ‹_› (bA O)
theorem TE:(hk m a9).length=a9.length:=aW ..
theorem pC:(cI a d b6).length=b6.length:=aW ..
theorem Js(i:Sm z g m a d)(j:0<b6.length)(t:b6.length<=8)(k:∀b:N×N,b∈b6->b.1<b6.length/\b.2<b6.length):(cI a d b6).Ok [a,d]:=by
 refine⟨by rw [pC];exact cd ‹_› (bA O),by rw [pC];exact j,λu l h c=> ?_⟩;refine ac (λn o p=> ?_)<|cT.mp l;obtain⟨e,f⟩:=n;obtain rfl:=p;refine aA (λq r=> ?_)<|k _ o;rw [pC];obtain rfl|c:=bO.mp c
 .exact⟨e,q,by refine(?_:([(au h,e),(au d,f)]:M (I×N)).lookup (au h)=_);rw [ee,jx]⟩
 .rw [bU.mp c];refine⟨f,r,?_⟩;refine(?_:([(au a,e),(au d,f)]:M (I×N)).lookup (au d)=_);rw [ee,eP.mpr (λs=>i.L.ab (qL s).symm),ee,jx]
theorem aj1(c:Sm z g m a d)(h:m.length<=5)(l:0<b6.length)(i:b6.length<=8)(j:b6.length=a9.length)(n:∀e:N×N,e∈b6->e.1<a9.length/\e.2<a9.length):kL (cI a d b6) (eb m a d) (hk m a9) [a,d] 64:=
 ⟨Js c l i<|j▸n,by rw [TE,pC,j],λb _ k f=>by
  obtain rfl|f:=bO.mp f
  .rw [show hU (eb m k d) b (au k)=en (aE m) b ai from yk c.L b ai];exact Ci h _ _
  .rw [bU.mp f,show hU (eb m a d) b (au d)=en (aE m) b X from yk c.L b X];exact Ci h _ _,by rw [pC];exact af 0 ((hy C 64)+1) 100000 (.p 64 C 8 .z) (bj _) O i⟩
theorem IE(d:0<a9.length)(e:∀a:N×N,a∈b6->a.1<a9.length/\a.2<a9.length)(c:N)(b:ah):gq b6 c b<a9.length:=by
 unfold gq;rw [qT,ed]
 cases f:b6[c]? with
 |none=>cases b<;>exact d
 |some a=>
  refine aA (λg h=> ?_)<|e a (jP f);cases b
  .exact g
  .exact h
def DV(a:M N)(c:M dh)(b:N×N):Prop:=cr (hR<|ea ([],0) c b.1) (aE a).fin=cr b.2 (aE a).fin
theorem IM(h:eM)(i j:N)(n:aM)(c:ah)(d:M (N×N))(k:M js)(m:M (N×N)->M js->E):
 ∃g l,hS h b6 i j n c d k m=m g l/\(∀b∈d,b∈g)/\(gq b6 i c,en h j c)∈g/\(∀b∈g,b∈d\/∃e∈l,(e.1,e.2.1)=b)/\∀e∈k,e∈l:=by
 unfold hS
 rw [dZ,dZ] at ⊢
 cases a:qR (gq b6 i c) (en h j c) d with
 |true=>exact⟨d,k,O,λ_ a=>a,(Cb _ _ _).mp a,λ_ a=> .inl a,λ_ a=>a⟩
 |false=>
  refine⟨_,_,O,λb f=> .tail _ f,.head _,λb f=> ?_,λe o=>by rw [kk] at ⊢;exact eH _ o⟩
  obtain rfl|f:=bO.mp f
  .exact .inr ⟨_,by rw [kk] at ⊢;exact ff _<|.head _,O⟩
  .exact .inl f
theorem Vt:∀(l:N) (b:M (N×N)) (g:M js),hQ (aE m) a9 b6 l b g=Q U->
 (∀a∈b,(∃c∈g,(c.1,c.2.1)=a)\/(DV m a9 a/\∀h,(gq b6 a.1 h,en (aE m) a.2 h)∈b))->
 ∃n:M (N×N),(∀a∈b,a∈n)/\∀a∈n,DV m a9 a/\∀h,(gq b6 a.1 h,en (aE m) a.2 h)∈n:=by
 intro s
 induction s with
 |zero=>exact λ_ _ e _=>by exact aU e
 |succ l t=>
  intro b u
  cases u with
  |nil=>exact λ_ e=>⟨b,λ_ d=>d,λa o=>(e a o).resolve_left λv=>(by(revert v;refine ac λw d w=> ?_);exact(by cases d))⟩
  |cons x g=>
   obtain⟨d,i,k⟩:=x
   exact λe y=>by
    have e:(ci (Q<|Q k) (hS (aE m) b6 d i k ai b g λb g=>hS (aE m) b6 d i k X b g<|hQ (aE m) a9 b6 l) (kl (cr (hR<|ea ([],0) a9 d) (aE m).fin)<|cr i (aE m).fin):ag (ag aM))=Q U:=e
    cases c:kl (cr (hR<|ea ([],0) a9 d) (aE m).fin) (cr i (aE m).fin) with
    |false=>rw [c] at e;cases e
    |true=>
     rw [c] at e;rw [Cn] at c;refine qZ (λz A B q D E K=> ?_)<|IM (b6:=b6) (aE m) d i k ai b g (λb g=>hS (aE m) b6 d i k X b g<|hQ (aE m) a9 b6 l);refine qZ (λL P S p T V r=> ?_)<|IM (b6:=b6) (aE m) d i k X z A (hQ (aE m) a9 b6 l)
     obtain⟨n,Y,Z⟩:=t L P ((B.trans S).symm.trans e) λa o=>by
      obtain f|⟨c,j,f⟩:=V a o
      .obtain f|⟨c,j,f⟩:=E a f
       .obtain⟨a0,j,f⟩|⟨a1,a2⟩:=y a f
        .obtain rfl|j:=bO.mp j
         .rw [<-f]
          exact .inr ⟨hd c,λh=>by cases h with
           |false=>exact p _ D
           |true=>exact T⟩
         .exact .inl ⟨a0,r _<|K _ j,f⟩
        .exact .inr ⟨a1,λh=>p _<|q _ (a2 h)⟩
       .exact .inl ⟨c,r _ j,f⟩
      .exact .inl ⟨c,j,f⟩
     exact⟨n,λa o=>Y a<|p _ (q _ o),Z⟩
theorem Pp(f:Sm z g m a d)(c:hQ (aE m) a9 b6 t [(0,eC (aE m))] [(0,eC (aE m),[])]=Q U)(b:aM):(hk m a9).getD (fZ (cI a d b6)<|aV a d b) ai=z.f (aV a d b):=by
 refine ac (λi l j=> ?_)<|Vt t _ _ c λr n=> .inl ⟨_,.head _,(bU.mp n).symm⟩
 have o:∀(b:aM) (e h:N),(e,h)∈i->(iz b6 b e,gF (aE m) b h)∈i:=λb=>by
  induction b with
  |nil=>exact λe h c=>c
  |cons k b p=>intro e h c;rw [ps];refine(?_:(ch (gq b6 e k)<|iz b6 b,_)∈i);rw [dZ];exact p _ _<|(j _ c).2 k
 have q:=(j _<|o b 0 _ (l _<|.head _)).1;rw [show fZ (cI a d b6) (aV a d b)=iz b6 b 0 from Cf f b 0,f.f,sE f.pat f.L,<-BP];refine DU ?_ q;rw [qT];unfold hk;rw [ed,ed,gj]
 cases a9[iz b6 b 0]? with
 |none=>exact(Iz _).symm
 |some c=>rfl
theorem JX:∀(f c d:N),∀b∈dB c7 f c d,c<=b/\b<d:=by
 intro i
 induction i with
 |zero=>exact λ_ _ b a=>(by cases a)
 |succ f g=>
  exact λc d b a=>by
   rw [vB] at a;by_cases e:c<d
   .rw [ck e] at a
    obtain rfl|a:=bO.mp a
    .exact⟨af 1 C J (.p 1 (C+1) aj<|.p 1 (bn 2 J) (C+aj) (.p 2 (C+aj+1) (bn 2<|J+1) .z)) (bk _ _ _) O e (jV _ _)<|qp _ (bA O),af 1 (C+1) J (.p 1 (aj+1) J<|.p 1 (bn 2 C) (aj+J) .z) (bk _ _ _) O e<|jV _ _⟩
    .cases h:c7 ((c+d)/2) with
     |true=>rw [h] at a;have:=g _ _ b a;exact⟨af 0 C J (.p 1 C J .z) (aN _ _) O this.1,af 0 (C+1) J (.p 1 aj C<|.p 2 (C+1) bo (.p 1 (bn 2 bo) (aj+J) .z)) (di _ _ _ _) O this.1 this.2<|jV _ _⟩
     |false=>rw [h] at a;have:=g _ _ b a;exact⟨af 0 C J (.p 2 (aj+1) J<|.p 1 (J+1) bo (.p 1 (C+bo+1) (bn 2<|aj+1) .z)) (di _ _ _ _) O this.1 this.2<|qp _ (bA O),af 0 (C+1) J (.p 1 (C+1) J .z) (aN _ _) O this.2⟩
   .rw [cN e] at a;cases a
theorem Yu:∀(c a b:N),(dB c7 c a b).length<=c:=by
 intro e
 induction e with
 |zero=>exact λ_ _=>ba _
 |succ c d=>
  exact λa b=>by
   rw [vB]
   cases aI (a<b) with
   |false=>exact cy _
   |true=>
    refine(?_:(bif c7 ((a+b)/2) then _ else _:M N).length+1<=c+1)
    cases c7 ((a+b)/2) with
    |true=>exact fi<|d _ _
    |false=>exact fi<|d _ _
structure jj(i:bE)(o:bx)(x:I)(j:M N)(c h:N)(v:aM):Prop extends Sm o x j c h where
 S:i.S=[c,h]
 MS:o.S=[c,h]
 P:i.P=eb j c h
 fr:i.front=aV c h v
 i5:j.length<=5
 fl:v.length<=6
structure tP(v:bx)(x:bE)(j o:N)(h:dG):Prop where
 w:h.word=U
 e:∃i c,h.goals=Q i/\h.moves=Q c/\c.Ok x.S/\i.length=c.length/\h.heads.length=c.length/\c.length<=8/\∀w:aM,i.getD (fZ c<|aV j o w) ai=v.f (aV j o w)
class inductive kb(a:bx)(b:bE)(d e:N):N->dG->Prop
 |last {f:N} {c:dG}:hM a b 64 c->tP a b d e (ia a b 64 c)->kb a b d e (f+1) c
 |more {f:N} {c:dG}:hM a b 64 c->kb a b d e f (ia a b 64 c)->kb a b d e (f+1) c
structure mC(h i:N)(j:M dh)(o:M aM)(many:N)(c:dG):Prop where
 tails:c.tails=o.map (aV h i)
 heads:c.heads=j.map (dk h i)
 many:c.many=many
 w:c.word≠U
structure kJ(i:M N)(j o:N)(h:M dh)(ts:M N)(c:M aM):Prop extends HsR i j ts h where
 ts:ts=c.map (dK<|aE i)
 h8:h.length<=8
 h0:0<h.length
 nil:[]∈c
 tlen:∀v∈c,v.length<=100
 tn:c.length<=o
theorem ti(c:z.S=[a,d])(b:aM):dE z (aV a d b):=λe f=>by
 rw [c];refine ac (λg i h=> ?_)<|cT.mp (show e∈b.map (dn a d) from f);obtain rfl:=h;cases g
 .exact .head _
 .exact .tail _<|.head _
theorem HQ(b:dh):(dk a d b).length=b.1.length:=by unfold dk;rw [ks,Es]
theorem xZ{a:ag E}{c:E->ah}(d:vl a n c=X):(a=U/\n=X)\/∃b,a=Q b/\c b=X:=by
 cases a with
 |none=>exact .inl ⟨O,d⟩
 |some b=>exact .inr ⟨b,O,d⟩
structure pT(o:M N)(v:M dh)(a0:M (N×N))(x:M N)(y:M aM)(Y:N)(Z:M aM)(ih:rP)(c:aM)(i:N->ah)(j:N->aM):Prop where
 l1:1<=c.length
 f:i (dr (λh=> !i h) (c.length - 1) 1 c.length)=ai
 t:i (dr (λh=> !i h) (c.length - 1) 1 c.length - 1)=X
 mks:2^(dB (λh=> !i h) (c.length - 1) 1 c.length).length<=du 1 (2*c.length - 2)
 ih:ih v (x++ [dK (aE o) (c.drop<|dr (λh=> !i h) (c.length - 1) 1 c.length)]) (y++ [c.drop (dr (λh=> !i h) (c.length - 1) 1 c.length)]) Y (c::j (dr (λh=> !i h) (c.length - 1) 1 c.length)::j (dr (λh=> !i h) (c.length - 1) 1 c.length - 1)::((dB (λh=> !i h) (c.length - 1) 1 c.length).reverse.map j++Z))=X
theorem IC{g:rP}{f:N->aM}(i:∀e,e<=d3.length->ea ([],ai) (lU (aE m) a9 b6 (cr d<|dK (aE m) d3) d3 0) e=(f e,c7 e))(b:vk (aE m) d g a9 b6 b7 f1 a i9 d3=X):pT m a9 b6 b7 f1 a i9 g d3 c7 f:=by
 revert m f1 b7 a9 b6 g a i9 d3 d c7 f i b;apply U12;generalize P11 _=d3,Q11 _=b6,Q10 _=f1,Q9 _=i9,Q8 _=a9,Q7 _=m,Q6 _=b7,Q5 _=a,Q4 _=d,Q3 _=c7,Q2 _=g,Q1 _=f;intro i b;unfold vk at b;rw [dZ,xY] at b
 cases j:ei 1 d3.length with
 |false=>rw [j] at b;exact cY b
 |true=>
  have r:1<=d3.length:=bA j;rw [j,VH (c7:=λe=> !c7 e) (i:=f) (a:=d3.length) (λe t=>by rw [i e t,zh]) _ _ _ _ _ (ba _)] at b;have u:nk d3.length=d3.length - 1:=O;rw [u] at b;have k:=kP (λe=> !c7 e) (d3.length - 1) 1 d3.length r;revert b;generalize l:dr (λe=> !c7 e) (d3.length - 1) 1 d3.length=c at k;generalize s:dB (λe=> !c7 e) (d3.length - 1) 1 d3.length=h;intro b
  have b:(ch c λc=>(ci ai
   (hg (λv w=>hg (λx y=>(ci (ci ai ( ch (dK (aE m)<|qQ d3 c) λn=>g a9 (hP b7 [n]) (hP f1 [qQ d3 c]) a (d3::v::x::hP (h.reverse.map f++ []) i9)) y) ai w:ah))<|ea ([],ai) (lU (aE m) a9 b6 (cr d<|dK (aE m) d3) d3 0) (nk c))<|ea ([],ai) (lU (aE m) a9 b6 (cr d<|dK (aE m) d3) d3 0) c)
   (ei (2^(0+h.length))<|ci 1 (2*d3.length - 2) (ei 1<|2*d3.length - 2)):ah))=X:=b
  rw [dZ,i c k,i (nk c) (aK (Nat.pred_le _) k)] at b
  have b:(ci ai (ci (ci ai (ch (dK (aE m)<|qQ d3 c) λn=>g a9 (hP b7 [n]) (hP f1 [qQ d3 c]) a (d3::f c::f (nk c)::hP (h.reverse.map f++ []) i9))<|c7 (nk c)) ai<|c7 c)
   (ei (2^(0+h.length))<|ci 1 (2*d3.length - 2) (ei 1<|2*d3.length - 2)):ah)=X:=b
  rw [dZ,fw,cZ,kk,kk,kk,VD] at b
  have b:(ci ai (ci (ci ai (g a9 (b7++ [dK (aE m) (d3.drop c)]) (f1++ [d3.drop c]) a (d3::f c::f (nk c)::(h.reverse.map f++i9)))<|c7 (nk c)) ai<|c7 c)
   (ei (2^h.length)<|ci 1 (2*d3.length - 2) (ei 1<|2*d3.length - 2)):ah)=X:=b
  cases o:ei (2^h.length) (ci 1 (2*d3.length - 2)<|ei 1 (2*d3.length - 2)) with
  |false=>rw [o] at b;exact cY b
  |true=>
   rw [o] at b
   cases p:c7 c with
   |true=>rw [p] at b;exact cY b
   |false=>
    rw [p] at b
    cases q:c7 (nk c) with
    |false=>rw [q] at b;exact cY b
    |true=>
     rw [q] at b;refine⟨r,by rw [l];exact p,by rw [l];exact q,?_,by rw [l,s];exact b⟩;refine aK (s.symm▸bA o) ?_
     cases ei 1 (2*d3.length - 2) with
     |true=>exact Nat.le_max_right _ _
     |false=>exact Nat.le_max_left _ _
theorem ai6:("":I)=aV a d []:=lN<|show aO (bC "")=[] by decide+kernel
theorem IL(f:eM)(g h:N)(i:aM)(d:ah)(e:M (N×N))(j:∀c∈l6,c.2.2.length<=a)(m:i.length+1<=a)(k:M (N×N)->M js->E):
 ∃n l,hS f b6 g h i d e l6 k=k n l/\∀c∈l,c.2.2.length<=a:=by
 unfold hS
 rw [dZ,dZ]
 cases qR (gq b6 g d) (en f h d) e with
 |true=>exact⟨e,l6,O,j⟩
 |false=>
  refine⟨_,_,O,λc b=> ?_⟩
  rw [kk] at b
  obtain b|b:=dQ.mp b
  .exact j c b
  .rw [bU.mp b];exact m
theorem Ir:∀(g j:N) (b:M (N×N)) (c:M js) (h:ag aM),hQ (aE m) a9 b6 g b c=Q h->(∀d∈c,d.2.2.length<=j)->∀k,h=Q k->k.length<=j+g:=by
 intro q
 induction q with
 |zero=>exact λ_ _ _ _ a _ _ _=>by exact aU a
 |succ g r=>
  intro j b s
  cases s with
  |nil=>exact λh a _ k d=>by(revert a;refine aL λl=> ?_;subst l);exact aU d
  |cons t c=>
   obtain⟨e,f,i⟩:=t
   exact λh a o k d=>by
    have a:(ci (Q<|Q i) (hS (aE m) b6 e f i ai b c λb c=>hS (aE m) b6 e f i X b c<|hQ (aE m) a9 b6 g) (kl (cr (hR<|ea ([],0) a9 e) (aE m).fin)<|cr f (aE m).fin):ag (ag aM))=Q h:=a;have n:=o _<|.head _
    cases p:kl (cr (hR<|ea ([],0) a9 e) (aE m).fin) (cr f (aE m).fin) with
    |false=>rw [p] at a;(revert a;refine aL λl=> ?_;subst l);(revert d;refine aL λl=> ?_;subst l);exact aK n<|dS _ _
    |true=>rw [p] at a;refine dw (λu D v w=> ?_)<|IL (b6:=b6) (aE m) e f i ai b (a:=j+1) (λd x=>hf<|o d (.tail _ x)) (fi n) (λb c=>hS (aE m) b6 e f i X b c<|hQ (aE m) a9 b6 g);refine dw (λy z A B=> ?_)<|IL (b6:=b6) (aE m) e f i X u w (fi n) (hQ (aE m) a9 b6 g);have:=r (j+1) y z h ((v.trans A).symm.trans a) B k d;exact af 0 C (J+(aj+1)) (.p 1 C (J+1+aj) .z) (bk _ _ _) O this
theorem VP{k:rP}(i:vj (aE m) (eC<|aE m) d3 k a9 b6 b7 f1 t i9=X)(o:d3.length<=6):
 (Cd a9 f1 i9=X/\hQ (aE m) a9 b6 60 [(0,eC (aE m))] [(0,eC (aE m),[])]=Q U/\∀b,Sm b g m a d->∀c,60<=c->gg (cI a d b6) (eb m a d) (hk m a9) [au a,au d] c [aV a d d3,""]=U)\/
 ∃h:aM,vk (aE m) (eC<|aE m) k a9 b6 b7 f1 t i9 h=X/\h.length<=66/\∀b,Sm b g m a d->∀c,60<=c->gg (cI a d b6) (eb m a d) (hk m a9) [au a,au d] c [aV a d d3,""]=Q (aV a d h):=by
 revert g m a d d3 f1 b7 a9 b6 k t i9 i o
 apply U12
 generalize P11 _=d3,Q11 _=b6,Q10 _=f1,Q9 _=i9,Q8 _=a9,Q7 _=m,Q6 _=b7,Q5 _=a,Q4 _=d,Q3 _=t,Q2 _=g,Q1 _=k
 intro i o
 unfold vj at i
 rw [dZ,dZ] at i
 obtain⟨_,p⟩|⟨D,s,y⟩:=xZ i
 .exact cY p
 .have u:=λ(b:bx) (e:Sm b g m a d)=>Iy e (a9:=a9) (b6:=b6) (d3:=d3) O O s
  obtain⟨rfl,l⟩|⟨j,rfl,l⟩:=xZ y
  .obtain⟨_,p⟩|⟨v,q,z⟩:=xZ l
   .exact cY p
   .have A:=λ(b:bx) (e:Sm b g m a d)=>Iy e (a9:=a9) (b6:=b6) (d3:=[]) O O q
    have w:∀b,Sm b g m a d->∀c,60<=c->gg (cI a d b6) (eb m a d) (hk m a9) [au a,au d] c [aV a d d3,""]=v.map λh=>aV a d h.reverse:=λb e c f=>by rw [yV,(u b e).1 c f] at ⊢;refine(?_:(match tF _ _ _ _ c "" with|some h=>Q h|none=>_)=_);rw [ai6,(A b e).1 c f] at ⊢;cases v<;>rfl
    obtain⟨rfl,n⟩|⟨j,rfl,n⟩:=xZ z
    .exact .inl ⟨n,q,λb e c f=>w b e c f⟩
    .rw [qS,cZ] at n
     refine .inr ⟨_,n,?_,λb e c f=>w b e c f⟩
     have x:j.length<=0+60:=by have:=Ir 60 0 _ _ _ q (λB r=>by rw [bU.mp r] at ⊢;exact ba _);exact this j O
     rw [Es] at ⊢;exact aK ‹_› (bA O)
  .rw [qS,qS,qS,cZ,cZ,wj] at l
   refine .inr ⟨_,l,?_,λb e c f=> ?_⟩
   .have x:j.length<=0+60:=by
     have:=Ir 60 0 _ _ _ s (λB r=>by rw [bU.mp r] at ⊢;exact ba _);exact this j O
    rw [bN,Es] at ⊢;exact af 0 (C+J) 66 (.p 1 C 6<|.p 1 J (0+60) .z) (aN _ _) O o x
   .rw [yV,(u b e).1 c f] at ⊢;rfl
theorem Qd(d:N->ah):∀(e a b:N),a<=b->a<=dr d e a b:=by
 intro g
 induction g with
 |zero=>exact λ_ _ _=>ba _
 |succ e f=>
  exact λa b h=>by
   rw [lM];by_cases c:a<b
   .rw [ck c]
    cases d ((a+b)/2) with
    |true=>exact f _ _<|by exact af 1 C J (.p 1 (C+1) aj<|.p 1 (bn 2 J) (C+aj) (.p 2 (C+aj+1) (bn 2<|J+1) .z)) (bk _ _ _) O c (jV _ _)<|qp _ (bA O)
    |false=>exact aK (by exact af 1 C (J+1) (.p 1 (C+1) aj<|.p 1 (bn 2 J) (C+aj) (.p 2 (C+aj+1) (bn 2<|J+1) .z)) (bk _ _ _) O c (jV _ _)<|qp _ (bA O))<|f ((a+b)/2+1) b (by exact af 1 (C+1) J (.p 1 (aj+1) J<|.p 1 (bn 2 C) (aj+J) .z) (bk _ _ _) O c<|jV _ _)
   .rw [cN c];exact ba _
structure lJ(j:bx)(o:bE)(v:M N)(x y Y:N)(Z:M N)(c:M dh)(h:M (N×N))(i:dG):Prop extends TbR v x y Y Z c h (cf j o i) where
 ml:h.length=c.length
 h8:c.length<=8
 h0:0<c.length
 nx:i.word≠U
theorem lJ.gs(c:jj a3 z g m a d d3)(b:lJ z a3 m a d t b7 a9 b6 g0):(cf z a3 g0).hl.map z.f=hk m a9:=by rw [b.hl];exact TF c.toSm b.toHsR
theorem lJ.r(b:jj a3 z g m a d d3)(c:lJ z a3 m a d t b7 a9 b6 g0)(f:∀e,60<=e->gg (cI a d b6) (eb m a d) (hk m a9) [au a,au d] e [aV a d d3,""]=j9):mi z a3 64 g0=j9:=by
 have h:a3.pr=[au a,au d]:=by unfold bE.pr;rw [b.S];rfl
 unfold mi;rw [c.gs b,c.mw,b.P,h,b.fr];exact f _<|by rw [pC,c.ml];have:=c.h0;exact af 0 60 ((hy C 64)+1) (.p 64 (0+1) C .z) (bj _) O this
theorem lJ.ok{e:M dh}{W:M aM}(h:jj a3 z g m a d d3)(f:lJ z a3 m a d t b7 e b6 g0)(o:mC a d a9 f1 b8 g0)(r:kJ m j4 a2 a9 b7 f1)(A:j4<=200)(B:t<=200)(D:a2<=20)(l:b8<e.length)(E:∀k∈W,z.V (aV a d k))(v:∀c∈e,∀g0∈f1,c.1.reverse++g0∈W/\∀K:ah,(K::c.1).reverse++g0∈W)(p:∀k:I,mi z a3 64 g0=Q k->∃b:aM,k=aV a d b/\b.length<=66/\∃L x,pT m e b6 b7 f1 e.length x L b (λq=>fo z (e.map<|dk a d) (cI a d b6) (aV a d b) q) (lL e b6 b)/\
 ∀j∈(b::lL e b6 b (dy z (e.map<|dk a d) (cI a d b6)<|aV a d b)::lL e b6 b (dy z (e.map<|dk a d) (cI a d b6) (aV a d b) - 1)::((et z (e.map<|dk a d) (cI a d b6)<|aV a d b).reverse.map (lL e b6 b)++x)),j∈W):hM z a3 64 g0:=by
 revert z a3 g m a d t a2 d3 f1 b7 a9 b6 g0 e W b8 j4 h f o r A B D l E v p
 apply U18
 generalize P17 _=d3,Q17 _=b6,Q16 _=f1,Q15 _=a9,Q14 _=m,Q13 _=b7,Q12 _=a,Q11 _=d,Q10 _=t,Q9 _=a2,Q8 _=b8,Q7 _=j4,Q6 _=g,Q5 _=z,Q4 _=a3,Q3 _=g0,Q2 _=e,Q1 _=W
 intro h f o r A B D l E v p
 have P:a3.pr=[au a,au d]:=by unfold bE.pr;rw [h.S];rfl
 have b4:∀c∈(cf z a3 g0).hl,c.length<100000/\dE z c:=λc l=>by rw [f.hl] at l;refine ac (λj i n=> ?_)<|cT.mp l;obtain rfl:=n;exact⟨by rw [HQ];have:=f.len j i;exact af 0 (C+1) 100000 (.p 1 J 200<|.p 1 C J .z) (aN _ _) O B this,ti h.MS _⟩
 have a5:(cf z a3 g0).hl.length=e.length:=by rw [f.hl,aW]
 have w:∀k∈W,lp z (aV a d k):=λk y=>⟨ti h.MS k,E k y⟩
 refine⟨?_,λc l=> ?_,?_,λj i=> ?_,?_,?_,b4,?_,λk S=> ?_,λc l=> ?_,λk S q c=> ?_⟩
 .rw [o.heads,aW];exact r.h8
 .rw [o.heads] at l
  refine ac (λj i n=> ?_)<|cT.mp l;obtain rfl:=n
  exact⟨by rw [HQ];have:=r.len j i;exact af 0 C 90000 (.p 1 J 200<|.p 1 C J .z) (aN _ _) O A this,ti h.MS _⟩
 .rw [o.tails,aW];have:=r.tn;exact af 0 (C+1) 100 (.p 1 J 20<|.p 1 C J .z) (aN _ _) O D this
 .rw [o.tails] at i
  refine ac (λT s n=> ?_)<|cT.mp i;obtain rfl:=n
  exact⟨by rw [ks];have:=r.tlen T s;exact af 0 C 50000 (.p 1 C 100 .z) (bj _) O this,ti h.MS _⟩
 .rw [o.many,a5];exact l
 .rw [a5];exact f.h8
 .rw [f.gs h,f.mw,h.P,h.S];exact aj1 h.toSm h.i5 (f.ml▸f.h0) (f.ml▸f.h8) f.ml f.tg
 .refine dt (λb V Y Z=> ?_)<|p k S;obtain rfl:=V;refine dw (λL x u b9=> ?_)<|Z
  rw [f.hl,f.mw,h.S,ks]
  have a6:dr (λq=> !fo z (e.map<|dk a d) (cI a d b6) (aV a d b) q) (b.length - 1) 1 b.length=dy z (e.map<|dk a d) (cI a d b6) (aV a d b):=by unfold dy;rw [ks];rfl
  have a0:dB (λq=> !fo z (e.map<|dk a d) (cI a d b6) (aV a d b) q) (b.length - 1) 1 b.length=et z (e.map<|dk a d) (cI a d b6) (aV a d b):=by unfold et;rw [ks];rfl
  have a7:=u.f
  have a8:=u.t
  have b0:=u.mks
  have b1:=u.l1
  have b5:1<=dy z (e.map<|dk a d) (cI a d b6) (aV a d b):=by rw [<-a6];exact Qd _ _ _ _ b1
  rw [a6] at a7 a8
  rw [a0] at b0
  refine⟨⟨b1,by exact af 0 (C+1) 50000 (.p 1 C 66 .z) (bj _) O Y,λj i=> ?_⟩,⟨b5,a7,a8⟩,?_,b0,λj i=> ?_⟩
  .rw [<-h.MS];exact ti h.MS b j i
  .rw [<-a0];exact aK (Yu _ _ _)<|by exact af 0 C 100 (.p 1 J 66<|.p 1 C J .z) (aN _ _) O Y<|lC _ _
  .rw [<-a0] at i
   have:=JX _ _ _ j i
   exact⟨af 0 (0+1) C (.p 1 1 C .z) (bj _) O this.1,af 0 (C+1) J (.p 1 (C+1) J .z) (aN _ _) O this.2⟩
 .rw [f.hl] at l
  refine ac (λj i n=> ?_)<|cT.mp l;obtain rfl:=n
  refine⟨?_,λT s=> ?_,λu p T s=> ?_⟩
  .have:=w _ (v j i _ r.nil).1;rw [cZ] at this;exact this
  .rw [o.tails] at s
   refine ac (λa1 a4 n=> ?_)<|cT.mp s;obtain rfl:=n
   have:=w _ (v j i a1 a4).1
   rw [mj] at this;exact this
  .rw [o.tails] at s
   refine ac (λa1 a4 n=> ?_)<|cT.mp s;obtain rfl:=n
   have b2:=λK=>w _<|(v j i a1 a4).2 K
   rw [P] at p
   obtain rfl|p:=bO.mp p
   .have:=b2 ai;rw [jR,mj,mj] at this;exact this
   .have:=b2 X;rw [jR,mj,mj] at this;rw [bU.mp p];exact this
 .refine dt (λb V Y Z=> ?_)<|p k S;obtain rfl:=V;refine dw (λL x u y=> ?_)<|Z
  rw [f.hl,f.mw] at c ⊢
  have b3:dy z (e.map<|dk a d) (cI a d b6) (aV a d b)<=b.length:=by unfold dy;rw [ks];exact kP _ _ _ _ u.l1
  have P:q<=b.length:=by
   obtain c|c|c:=c
   .have:=JX _ _ _ q<|show q∈dB (ma z (e.map<|dk a d) (cI a d b6)<|aV a d b) ((aV a d b).length - 1) 1 (aV a d b).length from c;rw [ks] at this;exact af 0 C J (.p 1 (C+1) J .z) (aN _ _) O this.2
   .exact af 0 C J (.p 1 aj J<|.q 1 C aj .z) (bk _ _ _) O b3 c
   .exact af 0 C J (.p 1 aj J<|.q 1 (C+1) aj .z) (bk _ _ _) O b3 c
  refine⟨?_,w b<|y _ (.head _)⟩
  rw [FR h.toSm P]
  refine w _<|y _ ?_
  obtain c|c|c:=c
  .exact .tail _<|.tail _ (.tail _<|eH _ (qk<|Nn.mpr c))
  .rw [c];exact .tail _<|.head _
  .rw [<-c];exact .tail _<|.tail _ (.head _)
set_option maxHeartbeats 1000000
theorem Lz(a:g0.word≠U)(b:mi z a3 64 g0=U):ia z a3 64 g0=⟨g0.tails,(cf z a3 g0).hl,(cf z a3 g0).hl.length,U,Q<|(cf z a3 g0).hl.map z.f,Q (cf z a3 g0).mv⟩:=by
 unfold ia;rw [b]
 cases c:g0.word with
 |none=>exact bD c a
 |some d=>rfl
theorem ah9(a:g0.word≠U)(b:mi z a3 64 g0=Q g):ia z a3 64 g0=⟨vJ z a3 g0 g,(cf z a3 g0).hl,(cf z a3 g0).hl.length,Q g,Q<|(cf z a3 g0).hl.map z.f,Q (cf z a3 g0).mv⟩:=by
 unfold ia;rw [b]
 cases c:g0.word with
 |none=>exact bD c a
 |some g=>rfl
theorem LH(i:Sm z g m a d)(e:kJ m t a2 a9 b7 f1):∃b c f,sS (aE m) b7 8 ⟨a9,a9,sR b7 a9,nQ a9⟩ []=(b,c)/\TbR m a d (t+8) b7 b.hs c (hF z (f1.map<|aV a d) [au a,au d]<|a9.map (dk a d))/\b.n=b.hs.length/\b.hs=a9++f/\(b.hs.length<=8->c.length=b.hs.length):=by
 have j:=ah1 i e.ts e.toHsR;refine CE (λb c f k l n o p q=> ?_)<|Wb i e.ts 8 t ⟨a9,a9,sR b7 a9,nQ a9⟩ [] _ j ⟨Wa b7 a9,xY a9⟩ O (cy _);refine⟨b,c,f,k,l,n.n,o,λr=> ?_⟩;obtain h|h:=p
 .exact h
 .have:c.length=8:=h.trans<|fw 8;exact aZ (af 0 C J (.p 1 C J .z) (aN _ _) O q)<|af 0 C J (.p 1 C 8<|.f 1 J 8 .z) (aN _ _) O r this
theorem Xd(b:(gt m a9).Nodup):(gt (m++ [a]) a9).Nodup:= Ew.mpr<|(Ew.mp b).imp λb c=>b<|YX c
theorem kJ.next{b:M dh}(c:kJ m a d a9 b7 f1)(e:HsR m (a+8) b7 b)(g:b.length<=8)(h:0<b.length)(i:d3.length<=100):kJ m (a+8) (d+1) b (b7++ [dK (aE m) d3]) (f1++ [d3]):=
 ⟨⟨e.can,e.len,Xd e.nod⟩,by rw [c.ts,de];rfl,g,h,eH _ c.nil,λj k=>by
  obtain f|f:=dQ.mp k
  .exact c.tlen j f
  .rw [bU.mp f];exact i,by rw [bN];exact fi c.tn⟩
theorem VR(B:Sm z g m a d)(a8:d3.length<=6):∀(x P a2:N) (n:M dh) (v:M N) (p:M aM) (q:N) (D:M aM),kJ m P a2 n v p->P+8*x<=100->a2+x<=20->xX (aE m) (eC<|aE m) d3 x n v p q D=X->
 ∃w,vQ w/\(∀b∈D,b∈w)/\(∀f∈n,∀e∈p,f.1.reverse++e∈w/\∀S:ah,(S::f.1).reverse++e∈w)/\∀z h e,jj h z g m a d d3->(∀b∈w,z.V (aV a d b))->mC a d n p q e->kb z h a d x e:=by
 revert z g m a d d3 B a8
 apply U6
 generalize P5 _=d3,Q5 _=m,Q4 _=a,Q3 _=d,Q2 _=g,Q1 _=z
 intro B a8
 intro d0
 induction d0 with
 |zero=>exact λ_ _ _ _ _ _ _ _ _ _ f=>by cases f
 |succ x d1=>
  exact λP a2 n v p q D T V a9 f=>by
   obtain⟨d2,i,d4,c0,b0,b1,b2,b3⟩:=LH B T
   have f:(hg (λr d5=>hG.rec (λ_ n _ s=>ch s λs=>(ci (ci ai (vj (aE m) (eC<|aE m) d3 (xX (aE m) (eC<|aE m) d3 x) n d5 v p s D)<|ei s 8) ai (ei s q):ah)) r) (sS (aE m) v 8 ⟨n,n,sR v n,nQ n⟩ []):ah)=X:=f;rw [c0] at f;obtain⟨e7,c,e8,c1⟩:=d2
   have f:(ch c1 λs=>(ci (ci ai (vj (aE m) (eC<|aE m) d3 (xX (aE m) (eC<|aE m) d3 x) c i v p s D)<|ei s 8) ai (ei s q):ah))=X:=f;have b1:c1=c.length:=b1;have b2:c=n++d4:=b2;have b3:c.length<=8->i.length=c.length:=b3;rw [dZ,b1] at f
   cases a3:ei c.length q with
   |true=>rw [a3] at f;cases f
   |false=>
    rw [a3] at f
    cases b4:ei c.length 8 with
    |false=>rw [b4] at f;cases f
    |true=>
     rw [b4] at f;have Y:c.length<=8:=bA b4;have b5:q<c.length:=wq λZ=>by rw [zN Z] at a3;cases a3
     have y:0<c.length:=cd (cy _) b5;have E:=b3 Y;have c2:∀f∈n,f∈c:=λf t=>by rw [b2] at ⊢;exact eH _ t
     have b6:∀z h e,jj h z g m a d d3->mC a d n p q e->lJ z h m a d (P+8) v c i e:=λz h e j o=>by
      obtain⟨e9,f0,f1,c3,d6,f2,f3,f4⟩:=LH j.toSm T
      rw [c0] at c3;cases c3;have a0:h.pr=[au a,au d]:=by unfold bE.pr;rw [j.S] at ⊢;rfl
      have:cf z h e=hF z (p.map<|aV a d) [au a,au d] (n.map<|dk a d):=by unfold cf;rw [a0,o.tails,o.heads] at ⊢
      exact⟨this▸d6,E,Y,y,o.w⟩
     obtain⟨a4,a5,b7⟩|⟨b,a4,a5,b7⟩:=VP (g:=g) (a:=a) (d:=d) f a8
     .refine⟨mK p c++D,VQ a4,λb d7=>ff _ d7,λf t e A=> ?_,λz h e j a6 o=> ?_⟩
      .obtain⟨b8,b9⟩:=Cj (c2 f t) e A
       exact⟨eH _ b8,λS=>eH _<|b9 S⟩
      .have k:=b6 z h e j o
       have K:=k.r j<|b7 z j.toSm
       refine .last (k.ok j o T (by exact af 0 C 200 (.p 1 (C+(bn 8<|J+1)) 100 .z) (aN _ _) O V) (by exact af 0 (C+8) 200 (.p 1 (C+(bn 8<|J+1)) 100 .z) (aN _ _) O V) (by exact af 0 C 20 (.p 1 (C+(J+1)) 20 .z) (aN _ _) O a9) b5 a6 (λf t e A=> ?_) λb a1=>by rw [K] at a1;cases a1) ⟨?_,?_⟩
       .obtain⟨b8,b9⟩:=Cj t e A
        exact⟨eH _ b8,λS=>eH _<|b9 S⟩
       .rw [Lz k.nx K] at ⊢
       .rw [Lz k.nx K] at ⊢
        have L:(cf z h e).hl.length=(cf z h e).mv.length:=by rw [k.hl,k.mw,aW,pC,E] at ⊢
        refine⟨(cf z h e).hl.map z.f,(cf z h e).mv,O,O,?_,?_,?_,?_,λb=> ?_⟩
        .rw [k.mw,j.S] at ⊢;exact Js j.toSm (E▸y) (E▸Y)<|E▸k.tg
        .rw [aW,L] at ⊢
        .dsimp only;exact L
        .rw [k.mw,pC,E] at ⊢;exact Y
        .rw [k.gs j,k.mw] at ⊢;exact Pp j.toSm a5 b
     .have d8:∀z h e,jj h z g m a d d3->mC a d n p q e->∀l,l<=b.length->ea ([],ai) (lU (aE m) c i (cr (eC<|aE m)<|dK (aE m) b) b 0) l=(lL c i b l,fo z (c.map<|dk a d) (cI a d i) (aV a d b) l):=λz h e j o l a0=>by
       have k:=b6 z h e j o;exact Ly j.toSm k.toHsR (λZ r _=>IE y k.tg Z r) y a0
      have d9:∀l,l<=b.length->ea ([],ai) (lU (aE m) c i (cr (eC<|aE m)<|dK (aE m) b) b 0) l=(lL c i b l,fo z (c.map<|dk a d) (cI a d i) (aV a d b) l):=λl a0=>Ly B b0.toHsR (λZ r _=>IE y b0.tg Z r) y a0;have c4:=IC (c7:=λl=>fo z (c.map<|dk a d) (cI a d i) (aV a d b) l) (f:=lL c i b) d9 a4;have c5:∀z,dr (λl=> !fo z (c.map<|dk a d) (cI a d i) (aV a d b) l) (b.length - 1) 1 b.length=dy z (c.map<|dk a d) (cI a d i) (aV a d b):=λz=>by unfold dy;rw [ks] at ⊢;rfl
      have e0:(b.drop<|dy z (c.map<|dk a d) (cI a d i) (aV a d b)).length<=100:=by rw [jO] at ⊢;exact af 0 C 100 (.p 1 J 66<|.p 1 C J .z) (aN _ _) O a5<|lC _ _
      have c6:=c4.ih;rw [c5] at c6;obtain⟨w,e1,c7,c8,e2⟩:=d1 (P+8) (a2+1) c _ _ _ _ (T.next b0.toHsR Y y e0) (by exact af 0 (C+8+(bn 8 J)) 100 (.p 1 (C+(bn 8<|J+1)) 100 .z) (aN _ _) O V) (by exact af 0 (C+1+J) 20 (.p 1 (C+(J+1)) 20 .z) (aN _ _) O a9) c6;refine⟨w,e1,λr a7=>c7 r<|.tail _ (.tail _<|.tail _ (ff _ a7)),λf t e A=>c8 f (c2 f t) e<|eH _ A,λu h e j a6 o=> ?_⟩;have k:=b6 u h e j o;have K:=k.r j<|b7 u j.toSm;have c9:dy u (c.map<|dk a d) (cI a d i) (aV a d b)=dy z (c.map<|dk a d) (cI a d i) (aV a d b):=by unfold dy ma fo;simp only [j.f,B.f]
      have e3:et u (c.map<|dk a d) (cI a d i) (aV a d b)=et z (c.map<|dk a d) (cI a d i) (aV a d b):=by unfold et ma fo;simp only [j.f,B.f]
      have e4:=IC (c7:=λl=>fo u (c.map<|dk a d) (cI a d i) (aV a d b) l) (f:=lL c i b) (d8 u h e j o) a4;refine .more (k.ok (W:=w) j o T (by exact af 0 C 200 (.p 1 (C+(bn 8<|J+1)) 100 .z) (aN _ _) O V) (by exact af 0 (C+8) 200 (.p 1 (C+(bn 8<|J+1)) 100 .z) (aN _ _) O V) (by exact af 0 C 20 (.p 1 (C+(J+1)) 20 .z) (aN _ _) O a9) b5 a6 (λf t e A=>c8 f t e<|eH _ A) λf5 a1=> ?_)<|e2 u h _ j a6 ?_
      .rw [K] at a1;cases a1
       refine⟨b,O,a5,_,_,e4,λr a7=>c7 r ?_⟩;rw [c9,e3] at a7;have e5:dB (λl=> !fo z (c.map<|dk a d) (cI a d i) (aV a d b) l) (b.length - 1) 1 b.length=et z (c.map<|dk a d) (cI a d i) (aV a d b):=by unfold et;rw [ks] at ⊢;rfl
       rw [e5] at ⊢;exact a7
      .rw [ah9 k.nx K] at ⊢
       have L:(cf u h e).hl=c.map (dk a d):=k.hl;refine⟨?_,by dsimp only;exact L,by dsimp only;rw [L,aW] at ⊢,nofun⟩;dsimp only;have e6:dy z (c.map<|dk a d) (cI a d i) (aV a d b)<=b.length:=by rw [<-c5] at ⊢;exact kP _ _ _ _ c4.l1
       have:vJ u h e (aV a d b)=(p++ [b.drop (dy z (c.map<|dk a d) (cI a d i)<|aV a d b)]).map (aV a d):=by unfold vJ;rw [L,k.mw,c9,o.tails,de,(LI e6).2] at ⊢;rfl
       exact this
theorem Qj:∀a:aM,a∈pb a.length:=by
 intro b
 induction b with
 |nil=>exact .head _
 |cons c a d=>exact oC.mpr ⟨a,d,by cases c<;>simp⟩
theorem Tg(b:1<=d3.length)(c:d3.length<=6):d3∈xD:=by have:=Qj d3;unfold xD;simp only [dQ];obtain a|a|a|a|a|a:=(by exact aq9 _ b c:d3.length=1\/d3.length=2\/d3.length=3\/d3.length=4\/d3.length=5\/d3.length=6)<;>rw [a] at this<;>simp [this]
theorem RC{b:M E}{c:E}(g:c∈b)(h:b.length<=4*a):∃d,d<a/\c∈(b.drop<|4*d).take 4:=by
 obtain⟨e,f,i⟩:=List.getElem_of_mem g
 refine⟨e/4,by exact af 3 (C+1) J (.p 1 aj (bn 4 J)<|.p 1 (bo+1) aj (.p 1 (bn 4 C) bo .z)) (di _ _ _ _) O h f<|jV _ _,?_⟩;refine jP (i:=e%4) ?_;rw [List.getElem?_take_of_lt (fI _<|by decide),List.getElem?_drop,EB,gz f,i]
theorem VA(a:m∈oV)(b:1<=d3.length)(c:d3.length<=6):xW m d3=X:=by refine ac (λd e f=> ?_)<|RC (a:=65) a (by rw [Vq];decide);exact hH.mp (hH.mp (Vm d e) m f) d3<|Tg b c
theorem Pr(b:m∈oV):pE m=X/\(∀d∈m,d<3)/\m.length<=5:=by
 refine aA (λk n=> ?_)<|rX.mp b;refine⟨n,?_⟩
 have o:∀e,∀f∈kq e,(∀d∈f,d<3)/\f.length=e:=λe=>by
  induction e with
  |zero=>intro f a;rw [bU.mp a];exact⟨(by intro t;first|contradiction|(intros;contradiction)),O⟩
  |succ e p=>
   intro f a;refine ac (λl q a=> ?_)<|oC.mp a;refine aA (λh c=> ?_)<|p l q
   have g:∃i,i<3/\f=i::l:=by
    obtain g|a:=bO.mp a
    .exact⟨0,by decide,g⟩
    .obtain g|a:=bO.mp a
     .exact⟨1,by decide,g⟩
     .exact⟨2,by decide,bU.mp a⟩
   revert g;refine ac λi r s=> ?_;obtain rfl:=s
   exact⟨λd j=>by
    obtain rfl|j:=bO.mp j
    .exact r
    .exact h d j,bq (· +1) c⟩
 simp only [dQ] at k;obtain(((b|b)|b)|b)|b:=k<;>(refine aA (λh c=> ?_)<|o _ _ b;exact⟨h,by(first|exact af 0 C 5 (.q 1 C 1 .z) (bj _) O c|exact af 0 C 5 (.q 1 C 2 .z) (bj _) O c|exact af 0 C 5 (.q 1 C 3 .z) (bj _) O c|exact af 0 C 5 (.q 1 C 4 .z) (bj _) O c|exact af 0 C 5 (.q 1 C 5 .z) (bj _) O c)⟩)
theorem Wr(b:iP g a d m)(h:a≠d)(i:a≠10)(j:d≠10)(k:1<=d3.length)(e:d3.length<=6):
 iN m a d/\m.length<=5/\∃f,vQ f/\∀l p n,jj p l g m a d d3->(∀r∈f,l.V (aV a d r))->mC a d [([],eC (aE m))] [[]] 0 n->kb l p a d 8 n:=by
 revert g a d m d3 b h i j k e
 apply U5
 generalize P4 _=d3,Q4 _=m,Q3 _=a,Q2 _=d,Q1 _=g
 intro b h i j k e
 refine dH (λs t u=> ?_)<|Pr b.mem
 have q:iN m a d:=⟨s,t,h,i,j⟩
 refine⟨q,u,?_⟩
 have c:=VA b.mem k e
 unfold xW at c
 simp only [dZ] at c
 have v:Sm ⟨Mine.Internal.hz g,[a,d],λ_=>kc⟩ g m a d:=⟨q,b,λ_=>O⟩
 obtain⟨f,w,_,_,x⟩:=VR v e 8 0 1 [([],eC (aE m))] [(aE m).fin] [[]] 0 [] ⟨⟨λc o=>by rw [bU.mp o];rfl,λc o=>by rw [bU.mp o];exact ba _,lx.mpr ⟨(by intro z;first|contradiction|(intros;contradiction)),oD⟩⟩,O,bA O,zR,.head _,λn y=>by rw [bU.mp y];exact cy _,ba _⟩ (by decide) (by decide) c
 exact⟨f,w,x⟩
open PySem PySem.W PyProof.Rows
def jE{b:Type}(a:N)(c:N->N->ah)(d:b->Prop):KasT b->Prop
 | .ret g=>d g
 | .ask e f h=>e<a/\f<a/\jE a c d (h<|c e f)
theorem tC{c d:Type}{b:N}{a:N->N->ah}{e:d->Prop}{f:c->KasT d}:∀{g:KasT c},jE b a (λh=>jE b a e<|f h) g->jE b a e (g.bind f)
 | .ret _,i=>i
 | .ask j k l,⟨m,n,o⟩=>⟨m,n,tC (g:=l<|a j k) o⟩
theorem oh{c:Type}{d:N}{b:N->N->ah}{e f:c->Prop}(g:∀a,e a->f a):∀{h:KasT c},jE d b e h->jE d b f h
 | .ret a,i=>g a i
 | .ask j k l,⟨m,n,o⟩=>⟨m,n,oh g (h:=l<|b j k) o⟩
theorem LA{i:Type}{f:N}{g:N->N->ah}{j:N->N->(ah->al->Prop)->al->Prop}{e:al->Prop}(k:∀b c l a,b<f->c<f->e a->(∀d,e d->l (g b c) d)->j b c l a){m:i->al->Prop}:
 ∀{n:KasT i} {a:al},e a->jE f g (λo=>∀d,e d->m o d) n->n.kasWp j m a
 | .ret o,a,h,p=>p a h
 | .ask b c q,a,h,⟨r,s,t⟩=>k b c _ a r s h λd u=>LA k (n:=q<|g b c) u t
structure iV(i:N)(j:N->N->ah):Prop where
 irr:∀c,c<i->j c c=ai
 tr:∀c h o,c<i->h<i->o<i->j c h=X->j h o=X->j c o=X
 tot:∀c h,c<i->h<i->c≠h->j c h=X\/j h c=X
structure eN(c:N)(h:eR N):Prop where
 sz:h.size=c
 perm:h.toList.Perm (dR c)
theorem eN.mem(d:eN a e5)(e:0<a)(c:N):e5.getD c 0<a:=by
 by_cases b:c<e5.size
 .rw [ku,DQ b];exact qm.mp<|d.perm.subset (Array.getElem_mem_toList b)
 .rw [ku,Mi (jU b)];exact e
theorem eN.ne(b:eN a e5)(c:d<a)(e:t<a)(f:d≠t):e5.getD d 0≠e5.getD t 0:=by
 have g:e5.toList.Nodup:=b.perm.nodup_iff.mpr List.nodup_range;have h:d<e5.toList.length:=by rw [na,b.sz];exact c
 have i:t<e5.toList.length:=by rw [na,b.sz];exact e
 rw [ku,ku,<-zd,<-zd,gz h,gz i];exact λj=>f<|(List.getElem_inj g).mp j
def ic(d:N->N->ah)(b:eR N)(e:N):Prop:=∀c a,c<a->a<e->d (b.getD c 0) (b.getD a 0)=X
theorem Pw(l:iV a h0)(g:eN a e5)(m:d<a)(j:ic h0 e5 d)(c:d≠0->h0 (e5.getD (d - 1) 0) (e5.getD d 0)=X):ic h0 e5 (d+1):=λh b e n=>by
 have i:0<a:=cd (cy _) m;by_cases f:b<d
 .exact j h b e f
 .have f:b=d:=by exact aZ (af 0 C J (.p 1 (C+1) (J+1) .z) (aN _ _) O n)<|af 0 C J (.p 1 C J .z) (aN _ _) O (cq.mp f)
  subst f;have c:=c (by exact cp (.p 1 (C+1) J<|.q 1 J 0 .z) (aN _ _) O e);by_cases k:h=b - 1
  .rw [k];exact c
  .exact l.tr _ _ _ (g.mem i _) (g.mem i _) (g.mem i _) (j h (b - 1) (by exact ar0 _ _ e k)<|by exact af 0 (C+1) J (.q 1 (C+1) J .z) (aN _ _) O<|dD (af 0 1 C (.p 1 (J+1) C .z) (aN _ _) O e)) c
theorem FP(k:iV a h0)(e:eN a e5):∀(i b:N),1<=b->b+i=a->ic h0 e5 b->jE a h0 (λd=>b<=d/\d<=a/\ic h0 e5 d/\(d<a->h0 (e5.getD d 0) (e5.getD (d - 1) 0)=X)) (kas_asc e5 i b):=by
 intro n
 induction n with
 |zero=>exact λb l c g=>⟨ba _,by exact af 0 C J (.q 1 (C+0) J .z) (aN _ _) O c,g,λf=>by exact cp (.f 1 (C+0) J<|.p 1 (C+1) J .z) (aN _ _) O c f⟩
 |succ i o=>
  exact λb l c g=>by
   have h:0<a:=by exact af 0 (0+1) C (.q 1 (J+(aj+1)) C .z) (bk _ _ _) O c
   refine⟨e.mem h _,e.mem h _,?_⟩;dsimp only
   cases j:h0 (e5.getD b 0) (e5.getD (b - 1) 0) with
   |true=>rw [bK O];exact⟨ba _,by exact af 0 C J (.q 1 (C+(aj+1)) J .z) (bk _ _ _) O c,g,λ_=>j⟩
   |false=>
    rw [bF jk];refine oh (λd m=>⟨by exact bd<|aw 0 F W (.p 1 (F+1) W .z) (aP _ _) O (ak m.1),m.2⟩)<|o (b+1) (by exact fT _) (by exact aZ (af 0 (C+1+J) aj (.q 1 (C+(J+1)) aj .z) (bk _ _ _) O c)<|af 0 C (J+1+aj) (.f 1 (J+(aj+1)) C .z) (bk _ _ _) O c) (Pw k e (by exact af 0 (C+1) J (.q 1 (C+(aj+1)) J .z) (bk _ _ _) O c) g λ_=> ?_);obtain f|f:=k.tot _ _ (e.mem h<|b - 1) (e.mem h b)<|e.ne (by exact af 0 (C+1) J (.q 1 (aj+(bo+1)) J<|.p 1 C aj .z) (di _ _ _ _) O c<|lC _ _) (by exact af 0 (C+1) J (.q 1 (C+(aj+1)) J .z) (bk _ _ _) O c) (by exact cp (.q 1 (C+1) J<|.f 1 C J .z) (aN _ _) O<|dD (af 0 1 C (.p 1 1 C .z) (bj _) O l))
    .exact f
    .rw [f] at j;exact gX j
theorem RY(o:iV a h0)(d:eN a e5):∀(n b:N),1<=b->b+n=a->(∀e c,e<c->c<b->h0 (e5.getD c 0) (e5.getD e 0)=X)->jE a h0 (λf=>f.1=e5/\f.2.2=0/\b<=f.2.1/\f.2.1<=a/\∀e c,e<c->c<f.2.1->h0 (e5.getD c 0) (e5.getD e 0)=X) (kas_desc n e5 b 0):=by
 intro q
 induction q with
 |zero=>exact λb k h j=>⟨O,O,ba _,dM h,j⟩
 |succ n r=>
  exact λb k h j=>by
   have g:0<a:=by exact af 0 (0+1) C (.q 1 (J+(aj+1)) C .z) (bk _ _ _) O h
   refine⟨d.mem g _,d.mem g _,?_⟩;dsimp only
   cases l:h0 (e5.getD b 0) (e5.getD (b - 1) 0) with
   |true=>
    rw [bK O,bF (EH 0)];refine oh (λf m=>⟨m.1,m.2.1,by exact af 0 C J (.p 1 (C+1) J .z) (aN _ _) O m.2.2.1,m.2.2.2⟩)<|r (b+1) (by exact fT _) (by exact aZ (af 0 (C+1+J) aj (.q 1 (C+(J+1)) aj .z) (bk _ _ _) O h)<|af 0 C (J+1+aj) (.f 1 (J+(aj+1)) C .z) (bk _ _ _) O h) λe c p s=> ?_;by_cases i:c<b
    .exact j e c p i
    .have i:c=b:=by exact aZ (af 0 C J (.p 1 (C+1) (J+1) .z) (aN _ _) O s)<|af 0 C J (.p 1 C J .z) (aN _ _) O (cq.mp i)
     subst i;by_cases f:e=c - 1
     .rw [f];exact l
     .exact o.tr _ _ _ (d.mem g _) (d.mem g _) (d.mem g _) l<|j e (c - 1) (by exact ar1 _ _ p k f) (by exact af 0 (C+1) J (.q 1 (C+1) J .z) (aN _ _) O<|dD (af 0 1 C (.p 1 1 C .z) (bj _) O k))
   |false=>
    rw [bF jk];refine⟨d.mem g _,d.mem g _,?_⟩;dsimp only;obtain i|i:=o.tot _ _ (d.mem g<|b - 1) (d.mem g b)<|d.ne (by exact af 0 (C+1) J (.q 1 (aj+(bo+1)) J<|.p 1 C aj .z) (di _ _ _ _) O h<|lC _ _) (by exact af 0 (C+1) J (.q 1 (C+(aj+1)) J .z) (bk _ _ _) O h) (by exact cp (.q 1 (C+1) J<|.f 1 C J .z) (aN _ _) O<|dD (af 0 1 C (.p 1 1 C .z) (bj _) O k))
    .rw [i,bK O];exact⟨O,O,ba _,(by refine(?_:b<=a);exact af 0 C J (.q 1 (C+(aj+1)) J .z) (bk _ _ _) O h),j⟩
    .rw [i] at l;exact gX l
theorem eN.of{c:eR N}(b:eN a e5)(d:c.Perm e5):eN a c:=⟨d.size_eq.trans b.sz,(Array.perm_iff_toList_perm.mp d).trans b.perm⟩
theorem Kn(e:eN a e5)(f:d<=a)(b:N):(Ap e5 0 d).getD b 0=if b<d then e5.getD (d - 1 - b) 0 else e5.getD b 0:=by
 have g:=getElem?_mirror_all (xs:=e5) (i:=0) (j:=d) (by rw [e.sz];exact f) b;unfold Ap;rw [ku,g];by_cases c:b<d
 .rw [bK ⟨cy _,c⟩,bK c,ku,fw]
 .rw [bF (λh=>c h.2),bF c,ku]
def DT(b:N)(c:N->N->ah)(a:N×eR N):Prop:=1<=a.1/\a.1<=b/\eN b a.2/\ic c a.2 a.1
theorem RX(h:iV a h0)(e:eN a e5)(m:2<=a)(n:h0 (e5.getD 1 0) (e5.getD 0 0)=X):jE a h0 (DT a h0) (OM 1 a e5):=by
 unfold OM;refine tC<|oh (λc o=> ?_) (RY h e (a - (1+1)) (1+1) (by exact fT _) (by exact aZ (af 0 (1+1+C) J (.q 1 (C+(1+1)) J .z) (aN _ _) O<|dD (af 0 (1+1) C (.p 1 2 C .z) (bj _) O m))<|af 0 C (1+1+J) (.p 1 C (J+(1+1)) .z) (aN _ _) O (dz _ _)) λi j d b=> ?_)
 .revert o;refine vq λp q k f r=> ?_
  rw [p,q,bF (EH 0)];have l:eN a (Ap e5 0 c.2.1):=e.of<|mirror_perm _ _ _ _;have s:ic h0 (Ap e5 0 c.2.1) c.2.1:=λi j d b=>by rw [Kn e f,Kn e f,bK (by exact af 0 (C+1) J (.p 1 (C+1) aj<|.p 1 (aj+1) J .z) (bk _ _ _) O d b),bK b];exact r _ _ (by exact ar2 _ _ _ d b)<|by exact af 0 (C+1) J (.p 1 C aj<|.q 1 (aj+1) J .z) (bk _ _ _) O (lC _ _)<|dD (af 0 1 C (.p 1 (1+1) C .z) (bj _) O k)
  unfold kas_tail3;exact tC<|oh (λt g=>⟨by exact bd<|aw 0 1 F (.p 1 2 W<|.p 1 W F .z) (aP _ _) O (ak k) (ak g.1),g.2.1,l,g.2.2.1⟩) (FP h l (a - c.2.1) c.2.1 (by exact dx ‹_›) (by exact aZ (af 0 (C+J) aj (.q 1 (J+C) aj .z) (bk _ _ _) O<|dD (af 0 C J (.p 1 C J .z) (aN _ _) O f))<|af 0 C (J+aj) (.p 1 C (aj+J) .z) (bk _ _ _) O (dz _ _)) s)
 .obtain⟨rfl,rfl⟩:i=0/\j=1:=by exact⟨aZ (af 0 C 0 (.p 1 (C+1) J<|.p 1 (J+1) (1+1) .z) (aN _ _) O d b)<|af 0 0 C .z (bj _) O,aZ (af 0 C 1 (.p 1 (C+1) (1+1) .z) (bj _) O b)<|af 0 1 C (.p 1 (J+1) C .z) (aN _ _) O d⟩
  exact n
theorem RL(g:iV a h0)(b:eN a e5)(h:2<=a):jE a h0 (DT a h0) (kas_count a e5):=by
 have i:0<a:=by exact dx ‹_›
 unfold kas_count;refine tC<|oh (λc l=> ?_) (FP g b (a - 1) 1 (ba _) (by exact aZ (af 0 (1+C) J (.q 1 (C+1) J .z) (aN _ _) O<|dD (af 0 1 C (.p 1 2 C .z) (bj _) O h))<|af 0 C (1+J) (.p 1 C (J+1) .z) (aN _ _) O (dz _ _)) λq r m n=>by exact cp (.p 1 (C+1) J<|.p 1 (J+1) 1 .z) (aN _ _) O m n);revert l;refine ta λd j f o=> ?_;by_cases k:c=a
 .rw [bK (fX.mpr k)];exact⟨d,j,b,f⟩
 .rw [bF (λp=>k<|hd p)]
  by_cases e:c>1
  .rw [bK e]
   refine⟨b.mem i _,b.mem i _,?_⟩
   dsimp only
   rw [f 0 (c - 1) (by exact af 0 (0+1) C (.p 1 (1+1) J<|.p 1 J (C+1) .z) (aN _ _) O e<|dz _ _) (by exact af 0 (C+1) J (.q 1 (C+1) J .z) (aN _ _) O<|dD (af 0 1 C (.p 1 1 C .z) (bj _) O d)),bK O]
   exact⟨d,j,b,f⟩
  .have:c=1:=by exact aZ (af 0 C 1 (.p 1 C 1 .z) (bj _) O<|cq.mp e)<|af 0 1 C (.p 1 1 C .z) (bj _) O d
   subst this
   rw [bF e]
   exact RX g b h<|o (by assumption)
theorem Yo(s:iV a h0)(f:eN a e5)(t:d<a)(v:ic h0 e5 d):∀(u c e:N),e - c<=u->c<=e->e<=d->(∀b,b<c->h0 (e5.getD b 0) (e5.getD d 0)=X)->(∀b,e<=b->b<d->h0 (e5.getD d 0) (e5.getD b 0)=X)->
 jE a h0 (λc=>c<=d/\(∀b,b<c->h0 (e5.getD b 0) (e5.getD d 0)=X)/\∀b,c<=b->b<d->h0 (e5.getD d 0) (e5.getD b 0)=X) (kas_place e5 d u c e):=by
 intro z
 induction z with
 |zero=>exact λc e n j k o p=>⟨aK j k,o,λb i l=>p b (aK (Nat.sub_eq_zero_iff_le.mp<|NF.mp n) i) l⟩
 |succ u w=>
  exact λc e n j k o p=>by
   have h:0<a:=cd (cy _) t;unfold kas_place;by_cases g:c>=e
   .rw [bK g];exact⟨aK j k,o,λb i l=>p b (aK g i) l⟩
   .rw [bF g]
    have g:=wq g;have x:=kS g;have q:=ij x k;refine⟨f.mem h _,f.mem h _,?_⟩;dsimp only
    cases r:h0 (e5.getD d 0) (e5.getD ((c+e)/2) 0) with
    |true=>
     rw [bK O]
     refine w c ((c+e)/2) (sL g n) (pn j) (dx q) o λb i l=> ?_
     by_cases m:b=(c+e)/2
     .rw [m];exact r
     .exact s.tr _ _ _ (f.mem h _) (f.mem h _) (f.mem h _) r<|v _ _ (iO i λA=>m A.symm) l
    |false=>
     rw [bF jk]
     have y:h0 (e5.getD ((c+e)/2) 0) (e5.getD d 0)=X:=by
      obtain g|g:=s.tot _ _ (f.mem h<|(c+e)/2) (f.mem h d)<|f.ne (fh q t) t (ik q)
      .exact g
      .rw [g] at r;exact gX r
     refine w ((c+e)/2+1) e (sM j n) x k (λb i=> ?_) p
     by_cases m:b=(c+e)/2
     .rw [m];exact y
     .exact s.tr _ _ _ (f.mem h _) (f.mem h _) (f.mem h _) (v b _ (iO (wo i) m) q) y
theorem Gp(g:eN a e5)(h:d<a)(i:t<=d)(b:N):(bubble e5 d<|d - t).getD b 0=if b=t then e5.getD d 0 else if t<b/\b<=d then e5.getD (b - 1) 0 else e5.getD b 0:=by
 have f:=getElem?_bubble (xs:=e5) (src:=d) (by rw [g.sz];exact h) (d - t) (by exact lC _ _) b;rw [NP i] at f;rw [ku,f];by_cases c:b=t
 .rw [bK c,bK c,ku]
 .rw [bF c,bF c]
  by_cases e:t<b/\b<=d
  .rw [bK e,bK e,ku]
  .rw [bF e,bF e,ku]
theorem PY(v:iV a h0):∀(q:N) (l:eR N) (b:N),eN a l->1<=b->b+q=a->ic h0 l b->jE a h0 (λt=>eN a t/\ic h0 t a) (kas_bin q l b):=by
 intro w
 induction w with
 |zero=>exact λl b h i e j=>⟨h,by rw [<-e] at ⊢;exact j⟩
 |succ q x=>
  exact λl b h i e j=>by
   have r:b<a:=by exact af 0 (C+1) J (.q 1 (C+(aj+1)) J .z) (bk _ _ _) O e
   unfold kas_bin;refine tC<|oh (λp y=> ?_) (Yo v h r j b 0 b (by exact ba _) (cy _) (ba _) (λd z=>bD z<|zQ _) λd i e=>by exact cp (.p 1 C J<|.p 1 (J+1) C .z) (aN _ _) O i e);revert y;refine dH λs A B=> ?_;refine x _ (b+1) (h.of<|bubble_perm _ _ _) (by exact fT _) (by exact aZ (af 0 (C+1+J) aj (.q 1 (C+(J+1)) aj .z) (bk _ _ _) O e)<|af 0 C (J+1+aj) (.f 1 (J+(aj+1)) C .z) (bk _ _ _) O e) λd m c f=> ?_;rw [Gp h r s,Gp h r s] at ⊢;by_cases g:d=p
   .rw [bK g,bF (by exact cp (.p 1 (C+1) J<|.f 1 C aj (.q 1 J aj .z)) (bk _ _ _) O c g),bK (by exact⟨af 0 (C+1) J (.p 1 (aj+1) J<|.f 1 aj C .z) (bk _ _ _) O c g,af 0 C J (.p 1 (C+1) (J+1) .z) (aN _ _) O f⟩)] at ⊢;exact B _ (by exact af 0 C J (.p 1 (aj+1) bo<|.f 1 aj C (.p 1 bo (J+1) .z)) (di _ _ _ _) O c g<|dz _ _)<|by exact DP _ _ i f
   .rw [bF g] at ⊢
    by_cases k:p<d/\d<=b
    .rw [bK k,bF (by exact cp (.p 1 (C+1) J<|.p 1 (aj+1) C (.q 1 J aj .z)) (bk _ _ _) O c k.1),bK (by exact⟨af 0 (C+1) J (.p 1 (aj+1) J<|.p 1 (C+1) aj .z) (bk _ _ _) O c k.1,af 0 C J (.p 1 (C+1) (J+1) .z) (aN _ _) O f⟩)] at ⊢;exact j _ _ (by exact af 0 (C+1) J (.p 1 (aj+1) bo<|.q 1 (C+1) aj (.p 1 bo (J+1) .z)) (di _ _ _ _) O c (dD<|af 0 1 C (.p 1 (J+1) C .z) (aN _ _) O k.1)<|dz _ _)<|by exact DP _ _ i f
    .rw [bF k] at ⊢
     by_cases n:m=p
     .rw [bK n] at ⊢;exact A d<|by exact af 0 (C+1) J (.p 1 (C+1) J .z) (aN _ _) O<|iO (af 0 C J (.p 1 (C+1) aj<|.q 1 aj J .z) (bk _ _ _) O c n) g
     .rw [bF n] at ⊢
      by_cases o:p<m/\m<=b
      .rw [bK o] at ⊢
       by_cases u:d=m - 1
       .exfalso;exact ar3 _ _ _ _ c f g k o u
       .exact j d _ (by exact ar4 _ _ _ _ c n o u)<|by exact DP _ _ i f
      .rw [bF o] at ⊢;exact j d m c<|by exact ar5 _ _ _ s f n o
theorem ad6(c:iV a h0)(h:2<=a):jE a h0 (λb=>eN a b/\ic h0 b a) (kas_sort a):=by
 unfold kas_sort;have i:eN a (dR a).toArray:=⟨by simp,Ee _⟩
 refine tC<|oh (λd j=> ?_) (RL c i h);revert j;refine ta λe k f g=> ?_;by_cases b:d.1<a
 .rw [bK b,ws e];exact PY c _ _ _ f e (by exact aZ (af 0 (C+J) aj (.q 1 (J+C) aj .z) (bk _ _ _) O<|dD (af 0 C J (.p 1 (C+1) J .z) (aN _ _) O b))<|af 0 C (J+aj) (.p 1 C (aj+J) .z) (bk _ _ _) O (dz _ _)) g
 .rw [bF b];exact⟨f,by rw [show a=d.1 by exact aZ (af 0 C J (.p 1 C J .z) (aN _ _) O<|cq.mp b)<|af 0 C J (.p 1 C J .z) (aN _ _) O k];exact g⟩
open PySem PySem.W PySem.Calls PyProof.Rows
noncomputable def eV(a:N×N):H:=if a.2%2≠0 then -(a.2:H) else a.2
noncomputable def hB(a:N×N):R:= .tup [.int a.1,.int (eV a)]
noncomputable def jF(a b:N×N):ah:=bif a.1==b.1 then aI (eV a<eV b) else aI (a.1<b.1)
theorem al3(d:I)(a:N×N)(e:M G)(f:aQ)(c:f (hB a) (e++ [.ns [("one",fP a)]])):rB (bt w 8) (oc d) (fP a) e f:=by
 refine be (cA O O O) ?_;refine be (cA O O O) ?_;have g:(a.2:H).fmod 2=((a.2%2:N):H):=kh a.2 2;refine fc (λb=> ?_) λb=> ?_
 .refine be (cA O O O) ?_
  have b:((a.2:H).fmod 2 !=0)=X:=b;have:eV a= -(a.2:H):=by unfold eV;rw [bK (λd=>by rw [g,d] at b;exact cY b)] at ⊢
  unfold hB at c;rw [this] at c;exact c
 .refine be (cA O O O) ?_
  have b:((a.2:H).fmod 2 !=0)=ai:=b;have:eV a=(a.2:H):=by unfold eV;rw [bF (λd=>d<|by have:=Bb.mp b;rw [g] at this;lia)] at ⊢
  unfold hB at c;rw [this] at c;exact c
theorem XJ(d:db)(n:9<=a)(e:I)(b:N×N)(c:M G)(f:aQ)(i:f (hB b) c):gA a (oc e) [fP b] [] c f:=by refine th d.hs (vx (d.base 0) (by assumption:0+(8+1)<=a)<|al3 (w:=cB 0) e b c (λg h=>g=hB b/\h=c++ [.ns [("one",fP b)]]) ⟨O,O⟩) λg h j=> ?_;revert j;refine aA λk l=> ?_;obtain rfl:=k;obtain rfl:=l;exact⟨O,c,sC O λo p m=> .inl m,i⟩
structure hK(h:ar)(x:M G)(y:al)(i j:ao)(Y:N)(Z:M aa)(v:bZ)(a0:aa)(a1:I)(o:M aa)(c:al):Prop where
 sim:am (h.hide [i,j]) x c
 ext:aH h y h c
 d:c.heap.get? i=Q (fA "list" #[] Y)
 k:∃a2,c.heap.get? j=Q (fA "list" o.toArray a2)
 rv:dN c.heap (h.hide [i,j]) Z (bB v)
 rf:aR c.heap (h.hide [i,j]) a0 (oc a1)
 rk:dN c.heap (h.hide [i,j]) o ((v.take o.length).map hB)
structure lm(c:al)(j:ar)(h i:ao):Prop where
 d:c.heap.get? h=U
 k:c.heap.get? i=U
 ne:h≠i
theorem lm.no(c:lm e b j a7):∀d∈[j,a7],e.heap.get? d=U:=λd a=>by
 obtain rfl|a:=bO.mp a
 .exact c.d
 .rw [bU.mp a];exact c.k
theorem hK.upd{o:M aa}(q:lm S b j a7)(h:hK b c S j a7 a K f3 k g h7 e)(m:∀f x,f≠a7->e.heap.get? f=Q x->i.get? f=Q x)(r:i.get? a7=Q (fA "list" o.toArray d))
 (t:dN e.heap (b.hide [j,a7]) o ((f3.take o.length).map hB)):hK b c S j a7 a K f3 k g o {e with heap:=i}:=by
 have s:∀f x,f∉(b.hide [j,a7]).p->e.heap.get? f=Q x->i.get? f=Q x:=λf x l=>m f x λd=>l<|d▸ .tail _ (.head _)
 have p:cs (bh<|b.hide [j,a7]) (bh<|b.hide [j,a7]) e.heap i (b.hide [j,a7]) (b.hide [j,a7]):=cs.prv s
 have u:=m j _ q.ne h.d
 have v:=h.sim.prvs (n:=e.toks) (h':=i) h.sim.tk s λf l=>by
  by_cases d:f=a7
  .rw [d];exact⟨_,r⟩
  .refine ay (λx w=> ?_)<|(h.sim.prv f l).2.2;exact⟨x,m f x d w⟩
 refine⟨v,?_,u,⟨d,r⟩,h.rv.car p,h.rf.car p,t.car p⟩
 exact uS (x:=b.hide [j,a7]) (e9:={e with heap:=i}) h.ext q.no (λf x l d=>m f x (λy=>l<|y▸ .tail _ (.head _)) d) O O O<|aH.refl (b.hide [j,a7]) _
theorem yG(f:i.get? j=Q (fA "list" f6 a))(b:eR aa->eR aa):(∃d,(i.update j<|hi b).get? j=Q (fA "list" (b f6) d))/\∀c e,c≠j->i.get? c=Q e->(i.update j<|hi b).get? c=Q e:= ⟨⟨_,get?_update_seq f b⟩,λc e g d=>by rw [OB _ _ _ _ g];exact d⟩
theorem WU(d:aH b e x S)(i:am b c e)(j:am x c S):x=b:=by
 have f:x.l=b.l:=tW λg=>by
  by_cases a:g<b.l.length
  .exact d.pre g a
  .rw [jo (by rw [j.len,<-i.len];exact jU a),jo (jU a)] at ⊢
 cases x;cases b;have h:=d.p;dsimp only at f h;rw [f,h] at ⊢
theorem ae3(o:gA a (oc g) [fP g2] [] c λh i=>h=hB g2/\i=c)(p:br a 0 f)(j:am b c e)(q:aR e.heap b k (oc g))(r:aR e.heap b Y (fP g2)):
 an (az aq ap) f (dF k [Y]) (λl d=>aH b e b d/\am b c d/\aR d.heap b l (hB g2)) aB e:=
 bQ (o f b e k [Y] [] p j q (.cons r .nil) .nil).2 λl d s=>by
  obtain⟨w,i,h,m,n,t,u,v⟩:=s
  subst v u;cases WU m j n;exact⟨m,n,t⟩
theorem hK.ran{k:aa}(i:lm S b j a7)(d:hK b c S j a7 a K f3 Y g h7 e)(f:aH (b.hide [j,a7]) e (b.hide [j,a7]) e9)(l:am (b.hide [j,a7]) c e9)(m:Q j∉b.l)(n:Q a7∉b.l):hK b c S j a7 a K f3 Y g h7 e9:= ⟨l,uS (x:=b.hide [j,a7]) d.ext i.no (λ_ _ _ h=>h) O O O f,f.keep _ _ m d.d,d.k.imp λh o=>f.keep _ _ n o,f.rell d.rv,f.rel d.rf,f.rell d.rk⟩
theorem ae2{g:M aa->al->Prop}{m:aa->zY->cC (ForInStep zY)}:∀(h b a:M aa) (c:al),K=b++h->a.length=b.length->g a c->
 (∀b d p a c,K=b++d::p->a.length=b.length->g a c->an (az aq ap) f (m d ⟨⟩) (λn e=>n= .yield ⟨⟩/\∃k,g (a++ [k]) e) aB c)->
 an (az aq ap) f (mn h wB m) (λ_ e=>∃a,a.length=K.length/\g a e) aB c:=by
 intro q
 induction q with
 |nil=>exact λb a c i j l _=>by rw [En];exact bP ⟨a,by rw [j,i,cZ],l⟩
 |cons d h r=>exact λb a c i j l o=>by rw [qf];refine aJ<|eO (o b d h a c i j l) (λn e s=> ?_) λ_ _ t=>t;revert s;refine aA λu v=> ?_;obtain rfl:=u;refine ay (λk w=> ?_)<|v;exact r (b++ [d]) (a++ [k]) e (by rw [i,eo];rfl) (by rw [bN,bN,j];rfl) w o
def zr(d:aT)(e:aa)(b:N×N):Prop:=∃c f g h a,e= .ref c/\d.get? c=Q a/\a.cls= .type "tuple"/\a.data= .seq #[.int b.1 f,.int (eV b) g] h
theorem Co(d:bi y i b k (hB g2)):zr i k g2:=by refine gb (λe t a u f g=> ?_)<|d.inv;obtain rfl:=a;refine dt (λh j l m=> ?_)<|f;refine ay (λn o=> ?_)<|m;refine dd (λv w a p q=> ?_)<|g.un2;obtain rfl:=a;refine ay (λr c=> ?_)<|p.int_inv;obtain rfl:=c;refine ay (λs c=> ?_)<|q.int_inv;obtain rfl:=c;exact⟨e,r,s,n,h,O,j,l,o⟩
theorem Wd(c:zr e.heap k g2)(d:zr e.heap Y l8)(a:h9 (jF g2 l8) e):an (az aq ap) f (keyLt' (tuples' X) k Y) h9 aB e:=by
 revert c;refine td λn o p q r g c i j=> ?_;obtain rfl:=g;revert d;refine td λs t u v w g d i l=> ?_;obtain rfl:=g;refine kat_lt c j d l<|kat_cons (OY ?_);unfold jF at a;by_cases b:g2.1=l8.1
 .rw [show((g2.1:H)==(l8.1:H))=X from fX.mpr<|bq _ b]
  rw [show(g2.1==l8.1)=X from fX.mpr b] at a;refine kat_yes<|kat_cons (OY ?_);by_cases h:eV g2=eV l8
  .rw [show(eV g2==eV l8)=X from fX.mpr h]
   refine kat_yes<|kat_nil ?_
   have a:h9 (aI<|eV g2<eV l8) e:=a
   rw [h,cN (Int.lt_irrefl _)] at a
   exact a
  .rw [show(eV g2==eV l8)=ai from eP.mpr h];exact kat_no<|kat_one _ _ (P.lt_int a)
 .rw [show((g2.1:H)==(l8.1:H))=ai from eP.mpr λm=>b<|MI m];rw [show(g2.1==l8.1)=ai from eP.mpr b] at a;have a:h9 (aI<|g2.1<l8.1) e:=a;refine kat_no<|oneLt_int ?_;rw [show aI ((g2.1:H)<(l8.1:H))=aI (g2.1<l8.1) from xp.mpr jn];exact a
theorem IR:∀{a:M aa} {h:bZ},cb y i b a (h.map hB)->∃c,KatTups i a c/\c.length=a.length/\∀d∈c,∃j e,d= .int j e
 |a,[],f=>by cases f;exact⟨[],.nil,O,(by intro v;first|contradiction|(intros;contradiction))⟩
 |a,k::h,f=>by
  refine dd (λw a l m n=> ?_)<|f.un;obtain rfl:=l;refine dt (λc o p q=> ?_)<|IR n;refine td (λx e z A B r s t u=> ?_)<|Co m;obtain rfl:=r;refine⟨.int k.1 e::c,.cons s t u O o,bq (· +1) p,λd g=> ?_⟩;obtain rfl|g:=bO.mp g
  .exact⟨_,_,O⟩
  .exact q d g
theorem WC:Looks (az aq ap) i (typeOf<|.int a5 c1) (.type "int"):=λc d e a _ b=>by rw [Fz a a5 c1];exact bP b
def AL(a:ar)(e:M G)(f:al)(g:ao)(h:al)(i:ar)(j:M aa)(b:al):Prop:= aH a f a b/\am a e b/\(∃k,b.heap.get? g=Q (fA "list" j.toArray k))/\∀c d,dN h.heap i c d->dN b.heap a c d
theorem Le{r:SortSt}{i:M aa}(z:am b c S)(q:lm S b j a7)(m:hK b c S j a7 a K f3 k g h7 e)(A:(arrOf r).map (·.2)=i.toArray)(B:i.length<64)(D:h7.length<64)(E:failedOf r=U)
 (L:∀v,AL b c S j e (b.hide [j,a7]) i v->m6 (.done<|.ret .none) v):an (az aq ap) f (ksk_tail j ai a (.ref a7) r) m6 aB e:=by
 refine ay (λa3 w=> ?_)<|m.k
 refine aA (λs x=> ?_)<|yG w λ_=> #[];refine ay (λa4 a5=> ?_)<|s
 have t:=x j _ q.ne m.d
 refine aA (λs P=> ?_)<|yG t λ_=>i.toArray;refine ay (λT V=> ?_)<|s
 have u:∀d h,d∉[j,a7]->e.heap.get? d=Q h->((e.heap.update a7<|hi λ_=> #[]).update j<|hi λ_=>i.toArray).get? d=Q h:=λd h o n=>P d h (λl=>o<|l▸ .head _)<|x d h (λl=>o<|l▸ .tail _ (.head _)) n
 have Y:∀d∈b.p,d∉[j,a7]:=λd o Z=>by refine dH (λa0 a0 a1=> ?_)<|z.prv d o;refine ay (λh y=> ?_)<|a1;rw [q.no d Z] at y;exact aU y
 unfold ksk_tail
 dsimp only
 rw [A]
 refine aJ<|Ad w O ?_ (by rw [fv,qC];exact af 0 C 16777216 (.p 1 (C+1) 64 .z) (bj _) O D) (cy _)
 refine aJ<|wpAny_letGo ?_
 refine aJ<|Oe t O ?_
 simp only [lq,mJ]
 refine aJ<|Ad t O ?_ (cy _) (by refine(?_:i.toArray.size<=_);rw [fv,qC];exact af 0 C (16777216+1) (.p 1 (C+1) 64 .z) (bj _) O B)
 rw [E]
 simp only [bne_self_eq_false,lq,mJ]
 refine bP<|L _ ⟨?_,m.sim.leave (t:=e.toks) Y u m.sim.tk,⟨T,V⟩,λa6 h a2=> ?_⟩
 .exact uS (x:=b.hide [j,a7]) (e9:={e with heap:=(e.heap.update a7<|hi λ_=> #[]).update j<|hi λ_=>i.toArray}) m.ext q.no u O O O<|aH.refl (b.hide [j,a7]) _
 .exact a2.car<|show cs (bh<|b.hide [j,a7]) (bh b) e.heap _ (b.hide [j,a7]) b from⟨λd h p _=>⟨p.1,λl=>p.2<|ff _ l⟩,λd h p n=>u d h (λl=>p.2<|eH _ l) n,λ_ _ n=>n⟩
noncomputable def kn(a:bZ)(b c:N):ah:=jF (a.getD b (0,0))<|a.getD c (0,0)
theorem yA(e:cb y i b K q)(f:a<q.length):bi y i b (K.getD a .none) (q.getD a .none):=by refine ac (λl g h=> ?_)<|e.get (ki f .none);rw [j g];exact h
where j {c:Type} {q:M c} {a:N} {d k:c} (i:q[a]? =Q d):q.getD a k=d:=by rw [ed,i];rfl
theorem YQ(e:cb y i b K q):∀c:M N,(∀a∈c,a<q.length)->cb y i b (c.map λa=>K.getD a .none) (c.map λa=>q.getD a .none):=by
 intro f
 induction f with
 |nil=>exact λ_=> .nil
 |cons a c g=>exact λd=> .cons (yA e<|d a (.head _))<|g λh j=>d h<|.tail _ j
theorem ae1(t:am b c S)(u:lm S b j a7)(q:hK b c S j a7 a K f3 k g h7 e)(m:h7.length=K.length)(l:K.length=f3.length)(r:f3.length<64)(z:iV f3.length (kn f3))(v:∀i h,eN f3.length i->ic (kn f3) i f3.length->AL b c S j e (b.hide [j,a7]) (i.toList.map λd=>K.getD d .none) h->m6 (.done<|.ret .none) h):
 an (az aq ap) f (ksk_end j ai K.toArray a (.ref a7) h7.toArray) m6 aB e:=by
 revert b c e S f j a7 a K h7 f3 k g m6 t u q m l r z v
 apply U14
 generalize P13 _=j,Q13 _=a7,Q12 _=f,Q11 _=K,Q10 _=h7,Q9 _=a,Q8 _=m6,Q7 _=e,Q6 _=S,Q5 _=g,Q4 _=k,Q3 _=c,Q2 _=b,Q1 _=f3
 intro t u q m l r z v
 unfold ksk_end
 dsimp only
 simp only [lq,mJ]
 have w:=q.rk
 rw [show h7.length=f3.length by exact aZ (af 0 C J (.q 1 C aj<|.q 1 aj J .z) (bk _ _ _) O m l)<|af 0 C J (.f 1 J aj<|.f 1 aj C .z) (bk _ _ _) O m l,Ey] at w
 by_cases n:K.toArray.size<2
 .rw [bK n,bK n]
  rw [fv] at n
  refine aJ<|bP ?_
  rw [StateT.run_pure]
  refine aJ<|bP ?_
  dsimp only
  refine Le t u q (i:=K) ?_ (by exact aK ‹_› (bA O)) (by exact af 0 (C+1) 64 (.q 1 C J<|.p 1 (J+1) 2 .z) (aN _ _) O m n) O λh o=> ?_
  .apply pQ.mp
   refine(?_:((h7.toArray.zip K.toArray).map (·.2)).toList=K)
   rw [Array.toList_map,Array.toList_zip]
   refine(?_:(h7.zip K).map (·.2)=K)
   exact Nm<|by exact af 0 C J (.f 1 J C .z) (aN _ _) O m
  .refine v (dR f3.length).toArray h ⟨by simp,Ee _⟩ (λd A T x=>by exact cp (.f 1 C J<|.p 1 (C+1) 2 (.p 1 (aj+1) bo<|.p 1 (bo+1) J .z)) (di _ _ _ _) O l n T x) ?_
   have:((dR f3.length).toArray.toList.map λd=>K.getD d mz)=K:=by
    refine tW λd=> ?_;refine(?_:((dR f3.length).map λd=>K.getD d mz)[d]? =_);rw [gj];by_cases p:d<f3.length
    .rw [tZ p];exact(ki (by exact af 0 (C+1) J (.f 1 J aj<|.p 1 (C+1) aj .z) (bk _ _ _) O l p) _).symm
    .rw [jo (by rw [jp];exact cq.mp ‹_›),jo (by exact af 0 C J (.q 1 C aj<|.p 1 aj J .z) (bk _ _ _) O l<|cq.mp p)];rfl
   rw [this];exact o
 .rw [bF n,bF n]
  rw [fv] at n
  refine dt (λb1 V Y Z=> ?_)<|IR w
  refine aJ<|kat_kind (T:= .type "int") V (by exact af 0 (0+1) C (.f 1 J aj<|.p 1 2 aj (.f 1 C J .z)) (bk _ _ _) O m (cq.mp n) Y) (λa0 a1=>by(refine tc (λd b2 a2=> ?_)<|Z a0 a1;obtain rfl:=a2);exact WC) (by decide) ?_
  rw [show((OK "int") !=OK "tuple")=X by decide]
  have D:=LA (f:=f3.length) (g:=kn f3) (j:=kas_ask aq ap f (tuples' X) h7) (e:=λh=>h=e) (λd A b3 h p x o a3=>by
   subst o;have E:(f3.map hB).length=f3.length:=aW ..;have L:=yA w (a:=d) (by rw [E];exact p);have P:=yA w (a:=A) (by rw [E];exact x);have o:∀d,d<f3.length->(f3.map hB).getD d .none=hB (f3.getD d (0,0)):=λd p=>by rw [ed,hn p (0,0)];rfl
   rw [o d p] at L;rw [o A x] at P;exact Wd (Co L) (Co P)<|a3 h O) (m:=λi h=>h=e/\eN f3.length i/\ic (kn f3) i f3.length) O<|oh (λi s h o=>⟨o,s.1,s.2⟩) (ad6 z<|by exact af 0 2 C (.q 1 J C<|.p 1 2 J .z) (aN _ _) O l<|cq.mp n)
  rw [show f3.length=K.length from l.symm] at D
  refine aJ<|eO (kat_run (Q:=λy h=>h=e/\∃i:eR N,eN f3.length i/\ic (kn f3) i f3.length/\arrOf y=i.map (kas_item<|h7.toArray.zip K.toArray)/\failedOf y=U) m (by exact cq.mp ‹_›) (by exact af 0 (C+1) 64 (.q 1 C J<|.p 1 (J+1) 64 .z) (aN _ _) O l r) (λi y h b4 a4 a5 B=>⟨B.1,i,by rw [<-l];exact B.2.1,by rw [<-l];exact B.2.2,a4,a5⟩) D) ?_ λ_ _ a6=>a6
  rintro⟨⟨⟩,y⟩ h ⟨rfl,i,s,a8,a9,b0⟩
  dsimp only
  exact Le t u q (i:=i.toList.map λd=>K.getD d .none) (kat_snds m a9) (by rw [aW,na,s.sz];exact r) (by exact af 0 (C+1) 64 (.q 1 C J<|.q 1 J aj (.p 1 (aj+1) 64 .z)) (bk _ _ _) O m l r) b0 λh o=>v i h s a8 o
theorem ae4(w:∀L,gA d (oc g) [fP L] [] c λq Z=>q=hB L/\Z=c)(x:br d 0 f)(y:am b c S)(r:lm S b j a7)(z:Q j∉b.l)(A:Q a7∉b.l)(h:hK b c S j a7 a K f3 k g [] e)(i:K.length=f3.length)(s:f3.length<64)(B:iV f3.length (kn f3))(D:∀t u P,eN f3.length t->ic (kn f3) t f3.length->dN P.heap (b.hide [j,a7]) K (bB f3)->AL b c S j P (b.hide [j,a7]) (t.toList.map λa0=>K.getD a0 .none) u->m6 (.done<|.ret .none) u):
 an (az aq ap) f (ksk_rest j k ai K.toArray a<|.ref a7) m6 aB e:=by
 revert b c e S f j a7 a d K f3 k g m6 w x y r z A h i s B D
 apply U14
 generalize P13 _=j,Q13 _=a7,Q12 _=f,Q11 _=K,Q10 _=a,Q9 _=d,Q8 _=m6,Q7 _=e,Q6 _=S,Q5 _=g,Q4 _=k,Q3 _=c,Q2 _=b,Q1 _=f3
 intro w x y r z A h i s B D
 unfold ksk_rest
 refine aJ<|wX ?_
 first
  |rw [List.forIn_toArray]
  |(rw [<-Array.forIn_toList];simp only [List.toList_toArray])
  |rw [<-Array.forIn_toList]
 refine aJ<|eO (ae2 (K:=K) (g:=λl e=>hK b c S j a7 a K f3 k g l e) K [] [] e O O h λn q b9 l e T o h=> ?_) (λ_ u a1=> ?_) λ_ _ q=>q
 .have p:n.length<K.length:=by rw [T,bN];exact wp<|fT _
  have a2:(bB f3).length=f3.length:=aW ..
  have V:=yA h.rv (a:=n.length)<|by rw [a2,<-i];exact p
  have a3:K.getD n.length .none=q:=by rw [T,ed,tY (ba _),qq];rfl
  have a4:(bB f3).getD n.length .none=fP (f3.getD n.length (0,0)):=by rw [ed,bB,hn (i▸p) (0,0)];rfl
  rw [a3,a4] at V
  refine aJ<|OW (bQ (ae3 (w _) x h.sim h.rf V) λm u a5=> ?_)
  revert a5;refine dH λX a8 a9=> ?_
  have E:=h.ran (k:=m) r X a8 z A
  refine ay (λb0 v=> ?_)<|E.k
  refine aA (λb1 b2=> ?_) (yG v (·.push m));refine ay (λc0 Y=> ?_)<|b1
  have b3:l.toArray.push m=(l++ [m]).toArray:=by simp
  rw [b3] at Y
  dsimp only
  refine aJ<|Ad v O ?_ (by rw [fv,qC];exact af 0 C 16777216 (.q 1 J aj<|.p 1 (aj+1) 64 (.q 1 C bo<|.p 1 (bo+1) J .z)) (di _ _ _ _) O i s o p) (aK (dM<|Mk ..)<|by rw [fv,qC];exact af 0 (C+1) (16777216+1) (.q 1 J aj<|.p 1 (aj+1) 64 (.q 1 C bo<|.p 1 (bo+1) J .z)) (di _ _ _ _) O i s o p)
  refine bP ⟨O,m,E.upd r b2 Y ?_⟩
  have b4:(f3.take (l++ [m]).length).map hB=(f3.take l.length).map hB++ [hB (f3.getD n.length (0,0))]:=by rw [bN,show l.length+ [m].length=l.length+1 from O,Nx (by exact af 0 (C+1) J (.q 1 aj J<|.q 1 C bo (.p 1 (bo+1) aj .z)) (di _ _ _ _) O i o p),de];congr 1;rw [ed,gz (by exact af 0 (C+1) J (.q 1 aj J<|.p 1 (C+1) aj .z) (bk _ _ _) O i p)];simp only [o];rfl
  rw [b4]
  exact E.rk.append<|.cons a9 .nil
 .revert a1;refine ac λl o h=> ?_
  refine ay (λb0 v=> ?_)<|h.k
  refine aJ<|Ob v O ?_
  exact ae1 y r h o i s B λt b5 b6 b7 b8=>D t b5 u b6 b7 h.rv b8
theorem XP(a3:db)(E:a+2<=d)(a4:9<=a)(K:I)(m:f3.length<64)(a5:iV f3.length (kn f3))
 (a6:∀h,eN f3.length h->ic (kn f3) h f3.length->s (.lst<|bB (h.toList.map λf=>f3.getD f (0,0))) c):gA d (.blt .sorted) [.lst (bB f3)] [("key",oc K)] c s:=by
 intro a7 u b a8 d1 d2 v k a9 b0 b1
 have b2:a8= .builtin "sorted":=a9.inv
 subst b2
 refine dd (λd3 d4 n b3 b4=> ?_)<|b0.un;obtain rfl:=n
 cases b4.ze
 refine ac (λd5 b5 L=> ?_)<|b1.un1;obtain rfl:=b5
 refine gb (λd6 e n b6 b7 P=> ?_)<|b3.inv;obtain rfl:=n
 refine iC (λd7 d8 d9 b8 b6=> ?_)<|L.inv;obtain rfl:=b8
 refine⟨.inl ⟨_,O⟩,?_⟩
 have o:e.length=f3.length:=P.length.trans<|aW ..
 refine call_function_entry_kw kind_sorted plain_sorted entry_sorted (ksk_s1 _ _) ?_
 unfold Builtin.«sorted»
 refine aJ (m:=checkCount "sorted" 1 1 _)<|bP ?_
 refine aJ<|collect_list b7.isList ?_ (by rw [qC];exact af 0 C 16777216 (.p 1 (J+1) 64<|.q 1 C J .z) (aN _ _) O m o)
 refine aJ<|AF ?_ (by rw [qC];exact af 0 C 16777216 (.p 1 (J+1) 64<|.q 1 C J .z) (aN _ _) O m o)
 have r:((b.heap.push<|fA "list" #[] 0).update b.heap.objs.size (hi (· ++e.toArray))).objs.size=b.heap.objs.size+1:=by rw [OC,ER]
 have l:(((b.heap.push<|fA "list" #[] 0).update b.heap.objs.size (hi (· ++e.toArray))).push<|fA "list" e.toArray 0).get? (b.heap.objs.size+1)=Q (fA "list" e.toArray 0):=by rw [<-r];exact gB _ O
 have w:∀g i,b.heap.get? g=Q i->(((b.heap.push<|fA "list" #[] 0).update b.heap.objs.size (hi (· ++e.toArray))).push<|fA "list" e.toArray 0).get? g=Q i:=λg i j=>by have x:g<b.heap.objs.size:=jt j;rw [OA _ _ _ (by rw [r];exact ik<|rZ x),OB _ _ _ _ (ik x),OA _ _ _ (ik x)];exact j
 refine(?_:an _ _ _ _ _ {b with heap:=((b.heap.push<|fA "list" #[] 0).update b.heap.objs.size (hi (· ++e.toArray))).push<|fA "list" e.toArray 0})
 rw [r]
 refine aJ<|fk (wpAny_call_entry_kw slot_list_sort ⟨_,l,O⟩ entry_list_sort ?_<|ksk_l1 _ _)
 rw [ksk_t1]
 revert l w
 have y:(((b.heap.push<|fA "list" #[] 0).update b.heap.objs.size (hi (· ++e.toArray))).push<|fA "list" e.toArray 0).objs.size=b.heap.objs.size+2:=by rw [ER,r]
 revert y
 generalize((b.heap.push<|fA "list" #[] 0).update b.heap.objs.size (hi (· ++e.toArray))).push (fA "list" e.toArray 0)=p
 intro y l w
 refine aA (λb9 c0=> ?_)<|yG l λ_=> #[];refine ay (λe0 S=> ?_)<|b9
 have e1:(b.heap.objs.size+1)<b.heap.objs.size+2:=lA _
 have T:((p.update (b.heap.objs.size+1)<|hi λ_=> #[]).push<|fA "tuple" e.toArray 0).objs.size=b.heap.objs.size+3:=by rw [ER,OC,y]
 have t:b.heap.get? (b.heap.objs.size+1)=U:=fD _<|nj _
 have V:b.heap.get? ((p.update (b.heap.objs.size+1)<|hi λ_=> #[]).push<|fA "tuple" e.toArray 0).objs.size=U:=fD _<|by rw [T];exact dS _ _
 have z:∀g i,b.heap.get? g=Q i->(((p.update (b.heap.objs.size+1)<|hi λ_=> #[]).push<|fA "tuple" e.toArray 0).push<|fA "list" #[] 0).get? g=Q i:=λg i j=>iQ _<|iQ _ (c0 g i (λA=>by rw [A,t] at j;exact aU j)<|w g i j)
 unfold ksk_tree
 refine aJ<|Ob l O ?_
 refine aJ<|Ad l O ?_ (by rw [fv,qC];exact af 0 C 16777216 (.p 1 (J+1) 64<|.q 1 C J .z) (aN _ _) O m o) (cy _)
 refine aJ<|Oe S O ?_
 refine aJ<|FD ?_ (by refine(?_:e.length<=_);rw [qC];exact af 0 C 16777216 (.p 1 (J+1) 64<|.q 1 C J .z) (aN _ _) O m o)
 refine aJ<|AF ?_ (cy _)
 refine fk ?_
 have B:lm b u (b.heap.objs.size+1) ((p.update (b.heap.objs.size+1)<|hi λ_=> #[]).push<|fA "tuple" e.toArray 0).objs.size:=⟨t,V,ik<|by rw [T];exact Nat.add_lt_add_left (show 1<3 by decide) _⟩
 have Y:=iQ (fA "list" #[] 0)<|iQ (fA "tuple" e.toArray 0) S
 have c1:br a 2 a7:=⟨v.hh,by have:=v.d;exact af 0 (C+2+J+1) 1000 (.p 1 (J+2) aj<|.p 1 (C+0+aj+1) 1000 .z) (bk _ _ _) O E this,by have:=v.u;exact af 0 (((C+(bn 20<|2+J))+90)+1) aj (.p 20 (J+2) bo<|.p 1 (((C+(bn 20<|0+bo))+90)+1) aj .z) (di _ _ _ _) O E this⟩
 have Z:=cs.hide (b:=u) (d9:=[b.heap.objs.size+1,((p.update (b.heap.objs.size+1)<|hi λ_=> #[]).push<|fA "tuple" e.toArray 0).objs.size]) B.no z
 refine ae4 (S:=b) (λA=>XJ a3 a4 K A c _ ⟨O,O⟩) c1.in1.in1 k B (k.fresh t).1 (k.fresh V).1 ⟨k.hide (n:=b.toks) k.tk B.no z λg D=> ?_,aH.grow (a:=b.toks) z,Y,⟨0,gB _ O⟩,P.car Z,L.car Z,.nil⟩ o m a5 λh e2 e3 a0 c2 c3 c4=> ?_
 .obtain rfl|D:=bO.mp D
  .exact⟨_,Y⟩
  .rw [bU.mp D];exact⟨_,gB _ O⟩
 .revert c4;refine ta λc5 c6 n c7=> ?_;refine ay (λj c8=> ?_)<|n
  refine⟨_,O,bP ⟨_,O,⟨u,c,_,c5,c6,?_,a6 h a0 c2⟩⟩⟩
  have a1:∀f∈h.toList,f<f3.length:=λf q=>qm.mp<|a0.perm.subset q
  have c9:(bB f3).length=f3.length:=aW ..
  have a2:=YQ c3 h.toList λf q=>by rw [c9];exact a1 f q
  have d0:(h.toList.map λf=>(bB f3).getD f .none)=bB (h.toList.map λf=>f3.getD f (0,0)):=by unfold bB;rw [jq];refine qi λf q=> ?_;rw [ed,hn (a1 f q) (0,0)];rfl
  rw [d0] at a2
  exact .lst (k.fresh t) ⟨j,c8⟩<|c7 _ _ a2
open PySem PySem.W
theorem ol(b c:N×N):jF b c=X↔b.1<c.1\/(b.1=c.1/\eV b<eV c):=by
 unfold jF;by_cases d:b.1=c.1
 .rw [show(b.1==c.1)=X from fX.mpr d];exact⟨λa=> .inr ⟨d,hW a⟩,λa=>ck (a.elim (λa=>bD a<|by exact cp (.f 1 C J<|.p 1 (C+1) J .z) (aN _ _) O d a) (·.2))⟩
 .rw [show(b.1==c.1)=ai from eP.mpr d];exact⟨λa=> .inl<|hW a,λa=>ck<|a.elim id λa=>bD a.1 d⟩
theorem LY(b:N×N):jF b b=ai:=rL.mpr λa=>by obtain a|⟨_,a⟩:=(ol b b).mp a<;>(first|exact cp (.p 1 (C+1) C .z) (bj _) O a|exact aD (.p 1 (F+1) F .z) (aG _) O a)
theorem LZ{c:N×N}(a:jF g2 l8=X)(b:jF l8 c=X):jF g2 c=X:=by rw [ol] at*;obtain a|⟨a,d⟩:=a<;>obtain b|⟨b,e⟩:=b<;>lia
theorem Iq(a:N×N): -(a.2:H)<=eV a/\eV a<=a.2:=by unfold eV;split<;>(first|exact⟨aw 0 (iL F) (iL F) .z (aG _) O,aw 0 (iL F) F (.p 2 0 F .z) (aG _) O<|cj _⟩|exact⟨aw 0 (iL F) F (.p 2 0 F .z) (aG _) O<|cj _,aw 0 F F .z (aG _) O⟩)
theorem Vr(a:g2.2≠l8.2):eV g2≠eV l8:=by unfold eV;split<;>split<;>(first|exact ar6 _ _ a ‹_› ‹_›|exact ar7 _ _ ‹_› ‹_›|exact ar9 _ _ ‹_› ‹_›|exact as0 _ _ a ‹_› ‹_›)
def uA(a:bZ):Prop:=∀(b c:N) (d e:N×N),b<c->a[b]? =Q d->a[c]? =Q e->jF d e=X
theorem Yw(k:uA f3)(m:∀d∈f3,d.2<g2.2):uA (rp f3 g2)/\(rp f3 g2).Perm (g2::f3):=by
 revert f3 g2 k m;apply U2;generalize P1 _=g2,Q1 _=f3;intro k m
 have s:∀a b,a<=b->b<f3.length->(f3.getD a (0,0)).1<=(f3.getD b (0,0)).1:=λa b n t=>by
  obtain i|i:=wr n
  .obtain f|⟨f,_⟩:=(ol _ _).mp<|k a b _ _ i (ki (fh i t) (0,0)) (ki t (0,0))
   .exact dx f
   .exact dM f
  .rw [i] at ⊢;exact ba _
 have u:∀f,f<=f3.length->(∀(a:N) (d:N×N),a<f->f3[a]? =Q d->jF d g2=X)->(∀(a:N) (d:N×N),f<=a->f3[a]? =Q d->jF g2 d=X)->uA (f3.insertIdx f g2):=λf D w x a b d y n h g=>by
  rw [MY] at h g;by_cases e:a<f
  .rw [bK e] at h
   by_cases c:b<f
   .rw [bK c] at g;exact k _ _ _ _ n h g
   .rw [bF c] at g
    by_cases j:b=f
    .rw [bK j,bK (by lia)] at g;cases g;exact w a d e h
    .rw [bF j] at g;exact k _ _ _ _ (by lia) h g
  .rw [bF e] at h
   rw [bF (by lia),bF (by lia)] at g;by_cases j:a=f
   .rw [bK j,bK (by lia)] at h;cases h;exact x _ y (by lia) g
   .rw [bF j] at h;exact k _ _ _ _ (by lia) h g
 unfold rp
 cases v:(g2.2%2 !=0) with
 |true=>
  have z:eV g2= -(g2.2:H):=by unfold eV;rw [bK (mG.mp v)] at ⊢
  have o:∀a b,0<=a->a<=b->b<f3.length->gV f3 g2.1 a=X->gV f3 g2.1 b=X:=λa b _ e c j=>by have:=s a b e c;unfold gV at*;rw [lr,Bu] at*;exact λi=>j<|cd this i
  obtain⟨A,l,p,q⟩:=xf (c7:=gV f3 g2.1) f3.length 0 f3.length (ba _) (cy _) o
  refine⟨u _ l (λa d e c=> ?_) λa d e c=> ?_,Nq _ _ l⟩
  .have:=p a (cy _) e;unfold gV at this;rw [pj c,zg,kg] at this;exact(ol _ _).mpr<|.inl this
  .have r:=(fq.mp c).1;have:=q a e r;unfold gV at this;rw [pj c,lr,Bu] at this;have h:=m d<|jP c;have g:=(Iq d).1;refine(ol _ _).mpr ?_;rw [z] at ⊢;lia
 |false=>
  have B:eV g2=(g2.2:H):=by unfold eV;rw [bF (λi=>i<|Bb.mp v)] at ⊢
  have o:∀a b,0<=a->a<=b->b<f3.length->hD f3 g2.1 a=X->hD f3 g2.1 b=X:=λa b _ e c j=>by have:=s a b e c;unfold hD at*;rw [kg] at*;lia
  obtain⟨A,l,p,q⟩:=xf (c7:=hD f3 g2.1) f3.length 0 f3.length (ba _) (cy _) o
  refine⟨u _ l (λa d e c=> ?_) λa d e c=> ?_,Nq _ _ l⟩
  .have:=p a (cy _) e;unfold hD at this;rw [pj c,Bu] at this;have h:=m d<|jP c;have g:=(Iq d).2;refine(ol _ _).mpr ?_;rw [B] at ⊢;lia
  .have r:=(fq.mp c).1;have:=q a e r;unfold hD at this;rw [pj c,kg] at this;exact(ol _ _).mpr<|.inl this
theorem IW:∀(c:bv) (a:N) (b:bZ),uA b->(∀d∈b,d.2<a)->uA (km b<|dP a c)/\(km b<|dP a c).Perm (dP a c++b):=by
 intro i
 induction i with
 |nil=>exact λ_ b e _=>⟨e,Ee _⟩
 |cons j c k=>
  exact λa b e g=>by
   refine aA (λl h=> ?_)<|Yw (g2:=(j.1.length,a)) e g
   obtain⟨m,n⟩:=k (a+1) _ l λd f=>by
    obtain rfl|f:=bO.mp<|h.subset f
    .exact lA _
    .exact rZ<|g d f
   refine⟨m,n.trans ?_⟩;exact((at8 _ h).trans List.perm_middle)
theorem Lr:∀(c:bv) (a b:N),b<c.length->∃d,(dP a c)[b]? =Q (d,a+b)
 |e::c,a,0,_=>⟨_,O⟩
 |e::c,a,b+1,f=>by refine ay (λd g=> ?_)<|Lr c (a+1) b (NH f);exact⟨d,by refine(?_:(dP (a+1) c)[b]? =_);rw [g,show a+1+b=a+(b+1) by exact fg _ _ _]⟩
theorem yO:∀(a:bv) (b:N),(dP b a).length=a.length:=by
 intro c
 induction c with
 |nil=>exact λ_=>O
 |cons e a d=>exact λb=>bq (· +1)<|d (b+1)
theorem ag6(b:bv):iV (dP 0 b).length (kn<|dP 0 b):=by
 have e:∀a,a<(dP 0 b).length->((dP 0 b).getD a (0,0)).2=a:=λa c=>by rw [yO] at c;refine ay (λi f=> ?_)<|Lr b 0 a c;rw [pj f];exact fw a
 refine⟨λa _=>LY _,λa d b _ _ _=>LZ,λa d c g h=> ?_⟩;unfold kn;rw [ol,ol];have:=Vr (g2:=(dP 0 b).getD a (0,0)) (l8:=(dP 0 b).getD d (0,0)) (by rw [e a c,e d g];exact h);exact as1 _ _ _ _ this
theorem Wp(f:eN (dP 0 a8).length e5)(j:ic (kn<|dP 0 a8) e5 (dP 0 a8).length):(e5.toList.map λa=>(dP 0 a8).getD a (0,0))=km [] (dP 0 a8):=by
 obtain⟨k,i⟩:=IW a8 0 [] (λa g c d _ l _=>by exact aU l) (by intro s;first|contradiction|(intros;contradiction));rw [cZ] at i
 have m:((dR (dP 0 a8).length).map λa=>(dP 0 a8).getD a (0,0))=dP 0 a8:=by
  refine tW λa=> ?_;rw [gj] at ⊢;by_cases b:a<(dP 0 a8).length
  .rw [tZ b] at ⊢;exact(ki b _).symm
  .rw [jo (by rw [jp];exact cq.mp ‹_›),jo (by exact cq.mp ‹_›)] at ⊢;rfl
 have n:(e5.toList.map λa=>(dP 0 a8).getD a (0,0)).Perm (dP 0 a8):=by have:=f.perm.map λa=>(dP 0 a8).getD a (0,0);rw [m] at this;exact this
 have o:(e5.toList.map λa=>(dP 0 a8).getD a (0,0)).Pairwise (λc d=>jF c d=X):=by rw [Ew] at ⊢;refine Np.mpr λa g b e h=> ?_;rw [na,f.sz] at b e;have:=j a g h e;unfold kn at this;rw [ku,ku,DQ (by rw [f.sz] at ⊢;exact b),DQ (by rw [f.sz] at ⊢;exact e)] at this;exact this
 have p:(km []<|dP 0 a8).Pairwise (λc d=>jF c d=X):=Np.mpr λa g b e h=>k a g _ _ h (gz b)<|gz e;exact at9 (λc d _ _ q r=>by have:=LZ q r;rw [LY] at this;exact cY this) o p<|n.trans i.symm
theorem VW(n:vQ f1)(l:cc z a8)(o:∀b,z.V b->∃g∈f1,b=aV a d g):a8.length<=63:=by
 have:∀e:M I,e.Nodup->(∀b∈e,z.V b)->∃c:M aM,c.Nodup/\(∀b∈c,b∈f1)/\e=c.map (aV a d):=λe=>by
  induction e with
  |nil=>exact λ_ _=>⟨[],oD,(by intro B;first|contradiction|(intros;contradiction)),O⟩
  |cons b e p=>
   intro q m;refine aA (λr s=> ?_)<|lx.mp q;refine dt (λc h i t=> ?_)<|p s λj f=>m j<|.tail _ f;obtain rfl:=t;refine ac (λg u k=> ?_)<|o b (m b<|.head _);obtain rfl:=k;refine⟨g::c,lx.mpr ⟨λv=>r<|qk v,h⟩,λj f=> ?_,O⟩;obtain rfl|f:=bO.mp f
   .exact u
   .exact i j f
 obtain⟨c,h,i,w⟩:=this (a8.map (·.1)) l.nod λb x=>by refine ac (λy A k=> ?_)<|cT.mp x;obtain rfl:=k;exact(l.ok y A).2.1.2
 have:=bq iM w;rw [aW,aW] at this;rw [this];exact n c h i
theorem iH(a b:N)(d:bz u ((d4.drop a).take b) o c (md (bz u<|d4.drop (a+b)) o Z)):bz u (d4.drop a) o c Z:=by refine Dm b ?_;rw [ng];exact d
noncomputable def nW(a:cL):M (M N):=gc (dg a.od) a.m [a.s0,a.s1] [eD a.p0,eD a.p1] a.gs
noncomputable def YY(a:cL):R:= .lst<|(jd (dg a.od) a.m [a.s0,a.s1] [eD a.p0,eD a.p1] a.m.length).map bJ
structure ir(c:cL):Prop where
 p0:c.p0<24
 p1:c.p1<24
 mok:c.m.Ok [c.s0,c.s1]
 ml:c.m.length<1000
 gl:c.gs.length=c.m.length
 k0:(gZ.map λh=>(bC h.1,R.int h.2)).lookup (au c.s0)=Q (.int (eD c.p0:N))
 k1:(gZ.map λh=>(bC h.1,R.int h.2)).lookup (au c.s1)=Q (.int (eD c.p1:N))
 nl:(dA<|nW c).length<100000
 nb:∀i∈dA (nW c),i<16777216
 nz:∀h∈nW c,∀i∈h,i≠0
 pt:∀h∈nW c,Ab h
 fm:ox c.P c.s0 c.s1 (eD c.p0) (eD c.p1) (nW c)
 cl:tN c (Q<|.lst [.int (eD c.p0:N),.int (eD c.p1:N)]) (Q<|.lst (aS<|dA (nW c))) (nW c) (YY c) (.lst<|aS (dA<|nW c)) (.lst (.int (-1)::aS (eZ 0<|dA (nW c))))
theorem Wk(a:ir c9)(f:su w)(c:pU w)(g:sd w)(d:oU w)(h:oo w c9.P)(e:aY->M G->Prop)(i:∀b,rM b->e (.ret<|.bool X) b):
 bz (bt w 20) ((bu 74).drop 13) (dL c9.q) (eF c9 {shelf:=Q<|.loc 29} [] []) e:=by
 refine iH 13 1<|QE a.p0 a.p1 _ (hZ ?_)
 refine iH 14 1<|QF a.mok a.ml a.k0 a.k1 _ (hZ ?_)
 refine iH 15 1<|QG a.ml a.gl _ (hZ ?_)
 refine iH 16 1<|QH a.nl _ (hZ ?_)
 refine iH 17 1<|QI f a.nl a.nb _ (hZ ?_)
 refine iH 18 1<|QJ a.ml a.nl _ (hZ ?_)
 refine iH 19 1<|QK c a.nl _ (hZ ?_)
 refine iH 20 1<|QL a.nl a.nz _ (hZ ?_)
 refine iH 21 1<|QM c g d O O a.pt _ (hZ ?_)
 refine iH 22 1<|QO _ (hZ ?_)
 refine iH 23 1<|QP d h a.cl (λl j=>CO j) a.fm _ λb k=>hZ ?_
 exact QQ _ _<|i _ k
noncomputable def yU(a:bE)(c d:M I)(e:M ah)(f:bw)(g h:ag R)(i j k l m:N)(b:bv):cL:= ⟨a.q,a.sv,a.pv,a.lv,g,h,a.pk,i,j,a.od,a.front,a.want,a.P,k,l,.lst<|aX d,.none,f,e,.lst<|bB (dP 0 b),.lst<|cP (dP 0 b).length .none,.lst<|cP 8 (.str ga),.dict m b.av,.list<|aX c,.list<|bB (km []<|dP 0 b)⟩
theorem Wj(i:a3.S=[a2,b8])(j:a3.pl= .tup [.int d,.int t])
 (f:cc z a8) (g:a8.length<1000000) (k:z.S=a3.S) (l:qD w a0 a3.S) (m:a0.Ok a3.S) (n:c3.length=a0.length) (o:∀e,dE z e->c3.getD (fZ a0 e) ai=z.f e)
 (p:pX w h3 X) (q:pX w h3 ai) (r:hx h3 (va a3.q)) (s:hx h3 (vb a3.q)) (h:(dP 0 a8).length<900000) (u:(km []<|dP 0 a8).length<900000) (v:AJ w)
 (x:∀(c:M G) (b:aQ),b (.lst<|bB (km []<|dP 0 a8)) c->w (.blt .sorted) [.lst (bB<|dP 0 a8)] [("key",oc a3.q)] c b)
 (y:ir (yU a3 a4 d6 c3 a0 c4 f2 d t a2 b8 a a8)) (A:su w) (B:pU w) (D:sd w) (E:oU w) (K:oo w a3.P) (b:aY->M G->Prop) (L:∀c,rM c->b (.ret<|.bool X) c):
 bz (bt w 20) ((bu 74).drop 8) (dL a3.q) (cE a3 ⟨a4,d6,a0.length,U,Q c3,Q a0,c4,f2⟩ [] a a8 []) b:=by
 refine iH 8 1<|QU f g k l m n o _ (hZ ?_)
 refine iH 9 1<|QV f g _ (hZ ?_)
 refine iH 10 1<|QW p q r s h _ (hZ ?_)
 refine iH 11 1<|QX v _ (hZ ?_)
 refine iH 12 1<|QD h u x _ (hZ ?_)
 have P:=Wk y A B D E K b L
 obtain⟨S,T,V,Y,Z,a1,a5,a6,a7,a9,b0⟩:=a3
 subst i;subst j
 exact P
theorem vM(b e:N)(d:bz u ((d4.drop b).take e) o c λf a=>f= .next/\e0 a)(g:∀a,e0 a->df u o (d4.drop<|b+e) a Z):df u o (d4.drop b) c Z:=by rw [show d4.drop b=(d4.drop b).take e++d4.drop (b+e) by rw [<-ng,kA]];exact df.seq d (λa d=>g a d.2) λi a h d=>(h d.1).elim
theorem ym(a:M H)(b:N)(c:N):∃d:N,la a b c=(d:H):=by
 have e:0<=la a b c:=by have:=(Lp _<|Jr (vz a (Q (b:H)) (Q 60)<|Q 4)).1;unfold la;exact aw 0 0 (F+W) (.p 1 0 W<|.p 1 0 F .z) (aP _ _) O this<|cj _
 exact⟨_,(hw e).symm⟩
noncomputable def fK(d:I)(e:M H)(f:ca)(a g b c:N):bE:= ⟨d,Q<|.lst (eB e),Q<|.int b,Q<|.int c,.int a,g,.tup [.int (dp a:N),.int (dq a:N)],f,pP (au<|bT (dp a)) (au<|bT (dq a)) b,pi (au<|bT (dp a)) (au<|bT (dq a)) c,[bT (dp a),bT (dq a)]⟩
noncomputable def yT:dG:=⟨[""],[""],0,Q "",U,U⟩
theorem Wh(e:N->dG->Prop)(v:g9.length<=63)(x:la g9 0 9=d)(y:la g9 3 512002=t)(A:la g9 1 58=a2)(B:la g9 2 32=b8)
 (D:∀r f,f d1.av r->w (.raw<|bS 66) [.str (fK g g9 d1 d t a2 b8).want] [] r f)
 (E:∀n b,n<8->e n b->e (n+1) (ia z (fK g g9 d1 d t a2 b8) a b)/\(b.word≠U->hM z (fK g g9 d1 d t a2 b8) a b))
 (K:∀s,bM.get? s=U->(s==cR)=ai) (L:qE w z (fK g g9 d1 d t a2 b8)) (P:nf w z (fK g g9 d1 d t a2 b8).want (g++bC "<lambda>") 16 20)
 (S:∀c o,kL c d1 o (fK g g9 d1 d t a2 b8).S a->qF w c d1 o (fK g g9 d1 d t a2 b8).S (fK g g9 d1 d t a2 b8).front (gg c d1 o (fK g g9 d1 d t a2 b8).pr (c.length*a+1) [(fK g g9 d1 d t a2 b8).front,""]))
 (T:∀j c k,c.Ok (fK g g9 d1 d t a2 b8).S->j.length=c.length->(∀V∈k.cps.toList,V∈(fK g g9 d1 d t a2 b8).S)->k.length<50000->(∀l∈j,l.length<100000/\dE z l)->oT w z (fK g g9 d1 d t a2 b8) j c k/\qa h3 z (fK g g9 d1 d t a2 b8) j c k)
 (Y:jG w h3 X) (Z:jG w h3 ai) (a0:jl (fK g g9 d1 d t a2 b8)) (a1:e 0 yT) (f:aY->M G->Prop)
 (l:∀b h i p q,e 8 b->cc z i->i.length<=24000->bz (bt w 20) ((bu 74).drop 8) (dL g) (cE (fK g g9 d1 d t a2 b8) (b.ls (kY p)<|bif q then Q (dO g) else U) [] h i []) f):
 df (bt w 20) (dL g) (bu 74) (eX g [] {script:=Q<|.lst (eB g9)} []) f:=by
 refine vM 0 1 (QC g9 v g) λm u=> ?_
 rw [x,y,A,B] at u
 subst u
 refine vM 1 2 (QN g9 d t a2 b8 g) λm a3=> ?_
 subst a3
 refine vM 3 1 (QR g9 d a2 b8 t (au<|bT (dp d)) (au<|bT (dq d)) O O g _) λm a4=> ?_
 subst a4
 refine vM 4 3 (QS _ _ _ d1 _ _ _ t _ _ g D) λm a5=> ?_
 revert a5;refine ay λh a6=> ?_;obtain rfl:=a6
 refine vM 7 1 (QT (a3:=fK g g9 d1 d t a2 b8) e E K L P S T Y Z a0 yT a1 h) λm a7=> ?_
 revert a7;refine td λb h i p q a8 a9 b0 b1=> ?_;obtain rfl:=b1
 exact df.one<|l b h i p q a8 a9 b0
noncomputable def ri(a:N):M N:=(dR<|1+a%5).map λb=>a/5/3^b%3
noncomputable def qV(a:N):aM:=(dR<|1+a%6).map λb=>a/6/2^b%2==1
theorem Bd:aO ""=[]:=by decide+kernel
theorem HJ:∀b:M (M N),sK [] b=b.flatten:=by
 intro b
 cases b with
 |nil=>exact O
 |cons c a=>exact by refine(?_:c++a.flatMap ([]++ ·)=c++a.flatten);rw [we,show(a.map λd=> []++d)=a from Nk a]
theorem al6(a b d:N):aO (pP (au a) (au b) d)=hY a b (ri d):=by
 have e:∀c,c<3->aO (yr (au a) (au b) c)=(match c with
  |0=> [a]
  |1=> [b]
  |_=> [46,46,46]:M N):=λc f=>by
  obtain rfl|rfl|rfl:=(by exact vN _ f:c=0\/c=1\/c=2)
  .rfl
  .rfl
  .refine(?_:aO (bC "...")=[46,46,46]);decide+kernel
 unfold pP tG hY ri;rw [xH,Bd,HJ,jq,zw,we];refine bq List.flatten<|qi λg _=>e _<|fI _ (by decide)
theorem Ti(a b c:N):pi (au a) (au b) c=aV a b (qV c):=lN (by
 unfold pi sI qV;rw [xH,Bd,HJ,rH,jq,jq,<-we]
 have:∀e:M N,(e.flatMap<|aO∘λd=> [au a,au b].getD (c/6/2^d%2) "")=e.map (dn a b∘λd=>c/6/2^d%2==1):=λe=>by
  induction e with
  |nil=>rfl
  |cons d e g=>rw [eT,g,da];refine(?_:aO ([au a,au b].getD (c/6/2^d%2) "")++_=dn a b (c/6/2^d%2==1)::_);obtain f|f:=(by exact as2 _ _:c/6/2^d%2=0\/c/6/2^d%2=1)<;>rw [f]<;>rfl
 exact this _)
theorem CQ:(∀b∈ri a,b<3)/\1<=(ri a).length/\(ri a).length<=5:=by
 refine⟨λb c=> ?_,?_,?_⟩
 ·(refine ac (λe f d=> ?_)<|cT.mp c;obtain rfl:=d);exact fI _<|by decide
 .unfold ri;rw [aW,jp];exact dS _ _
 .unfold ri;rw [aW,jp];exact af 0 (1+C) 5 (.p 1 (C+1) 5 .z) (bj _) O<|fI _ (bA O)
theorem yc{a:N}:1<=(qV a).length/\(qV a).length<=6:=by unfold qV;rw [aW,jp];exact⟨af 0 1 (1+C) .z (bj _) O,af 0 (1+C) 6 (.p 1 (C+1) 6 .z) (bj _) O<|fI _ (bA O)⟩
theorem JQ(c:N):dp c<24/\dq c<24/\dp c≠dq c:=⟨fI _<|by decide,fI _<|by decide,(by decide+kernel:∀a<24,∀b<23,a≠(a+1+b)%24) _ (fI _<|by decide) _<|fI _ (by decide)⟩
theorem yJ:∀a,a<24->bT a≠10/\∀b,b<24->a≠b->bT a≠bT b:=by decide+kernel
theorem KR:∀a,a<24->(gZ.map λa=>(bC a.1,R.int a.2)).lookup (au<|bT a)=Q (.int (eD a:N)):=by
 have d:∀a,a<24->(gZ.map λa=>(bC a.1,a.2)).lookup (au<|bT a)=Q (eD a:N):=by decide+kernel
 intro a e
 have f:∀b:M (mD×H),∀c:I,(b.map λa=>(bC a.1,R.int a.2)).lookup c=((b.map λa=>(bC a.1,a.2)).lookup c).map R.int:=λb c=>by
  induction b with
  |nil=>rfl
  |cons g b h=>rw [da,da,ee,ee,h];cases c==bC g.1<;>rfl
 rw [f,d a e];rfl
theorem Ix:∀a,a<24->0<eD a/\eD a<256:=by decide+kernel
noncomputable def hm(a b:N)(c:ah):N:=bif c then b else a
noncomputable def pa(a:aM):M aM:=[a++ [ai],a++ [X]]
noncomputable def nI:N->M aM
 |0=> [[]]
 |a+1=>(nI a).flatMap pa
theorem xi:∀b,(nI b).length=2^b/\∀d∈nI b,d.length=b:=by
 intro e
 induction e with
 |zero=>exact⟨O,λd a=>by rw [bU.mp a];rfl⟩
 |succ b f=>
  exact by
   revert f;refine aA λg h=> ?_;refine⟨?_,λd a=> ?_⟩
   .have:∀c:M aM,(c.flatMap pa).length=2*c.length:=λc=>by
     induction c with
     |nil=>rfl
     |cons l c i=>rw [eT,bN,i,gO];refine(?_:2+_=_);exact fS _ _
    refine(?_:((nI b).flatMap pa).length=_);rw [this,g,wx];exact nS (bn 2 C) (hy C 2) (bj _) O
   .refine ac (λj k a=> ?_)<|oC.mp a
    have:=h j k
    cases a with
    |head=>rw [bN,this];rfl
    |tail _ a=>rw [bU.mp a,bN,this];rfl
theorem Hp(d:N->M E)(f:N):∀a:N,f<a->(∀b,b<a->b≠f->d b=[])->(dR a).flatMap d=d f:=by
 have i:∀a:N,(∀b,b<a->d b=[])->(dR a).flatMap d=[]:=λa e=>by refine List.flatMap_eq_nil_iff.mpr λb c=>e b<|qm.mp c
 intro a
 induction a with
 |zero=>intro e;exact bD e<|zQ _
 |succ a j=>
  intro e h;rw [Nr,Ek,eT,MX,cZ];by_cases g:f=a
  .rw [i a λb c=>h b (rZ c)<|by exact cp (.f 1 C J<|.p 1 (aj+1) J (.f 1 aj C .z)) (bk _ _ _) O g c,g];rfl
  .rw [j (by exact af 0 (C+1) J (.p 1 (C+1) J .z) (aN _ _) O<|iO (af 0 C J (.p 1 (C+1) (J+1) .z) (aN _ _) O e) g) λb c=>h b<|rZ c,h a (lA a) λk=>g k.symm,cZ]
theorem WI(a:E->ag f5):∀b:M E,b.filterMap a=b.flatMap λc=>(a c).toList:=by
 intro d
 induction d with
 |nil=>exact O
 |cons c b e=>exact by rw [ii,eT,e];cases a c<;>rfl
theorem Hv{b c:E->M f5}{a:M E}(e:∀d∈a,b d=c d):a.flatMap b=a.flatMap c:=by rw [we,we,qi e]
theorem Wf(a:M N)(b:N):sT (a++ [b])=[b]:=by unfold sT;rw [bN,show a.length+ [b].length - 1=a.length from O,tV]
theorem Uc(a b:M N)(c:N):iy (a++ [c]) b=a++b.tail:=by unfold iy;rw [MN]
theorem YZ(c:1<=a)(b:eu a d=eu a t):d=t:=by unfold eu at b;exact Nat.eq_of_mul_eq_mul_left c<|Nat.add_left_cancel b
noncomputable def fF(a:bw)(b c:N)(d:aM):N:=fZ a<|aV b c d
noncomputable def hV(b:bw)(c d e f g:N)(a:aM):M N:=a.map (hm e f)++ [eu g (fF b c d a)]
noncomputable def ix(b:bw)(h:M ah)(c d e f g:N)(a:aM):M (M N):= hV b c d e f g (a++ [ai])::hV b c d e f g (a++ [X])::bif h.getD (fF b c d a) ai then [a.map (hm e f)] else []
theorem Lg(c:aM)(e:ah):fF a0 a d (c++ [e])=iB a0 (fF a0 a d c) (au<|dn a d e):=by have f:∀b:aM,fF a0 a d b=pB a0 0 (b.map<|dn a d):=λb=>O;rw [f,f,de];unfold pB;rw [List.foldl_append];rfl
theorem af0(c:a0.Ok [a,d])(b:aM):fF a0 a d b<a0.length:=yh c _ λe f=>by
 refine ac (λg i h=> ?_)<|cT.mp (show e∈b.map (dn a d) from f);obtain rfl:=h;cases g
 .exact .head _
 .exact .tail _<|.head _
theorem Do(m:a0.Ok [a,d])(n:1<=b8)(b:aM):
 ((gc b8 a0 [a,d] [t,a2] c3).filter<|jz (hV a0 a d t a2 b8 b)).map (iy<|hV a0 a d t a2 b8 b)=ix a0 c3 a d t a2 b8 b:=by
 have h:∀e:M N,jz (hV a0 a d t a2 b8 b) e=aI ([eu b8 (fF a0 a d b)]=e.take 1):=λe=>by unfold jz hV;rw [Wf]
 have i:∀e:M N,iy (hV a0 a d t a2 b8 b) e=b.map (hm t a2)++e.tail:=λe=>Uc _ _ _
 have j:=af0 m b
 have k:∀f:M N,aI ([eu b8 (fF a0 a d b)]=(eu b8 (fF a0 a d b)::f).take 1)=X:=λf=>ck O
 have l:∀(c:N) (f:M N),c≠fF a0 a d b->aI ([eu b8 (fF a0 a d b)]=(eu b8 c::f).take 1)=ai:=λc f g=>cN λo=>g<|YZ n (ms o).1.symm
 unfold gc jd pf
 rw [List.filter_append,de,WI,Ej,Ej,Hp _ _ _ j,Hp _ _ _ j]
 .refine(?_:ft _ (qe _ [mc b8 a0 [a,d] [t,a2] (fF a0 a d b) 0,mc b8 a0 [a,d] [t,a2] (fF a0 a d b) 1])++_=_)
  unfold mc
  simp only [kz,zv,h,k,pp,da,zF,i]
  unfold ix hV
  rw [Lg,Lg,de,de,eo,eo]
  refine bq (MM _)<|bq (MM _) ?_
  cases c3.getD (fF a0 a d b) ai with
  |false=>rfl
  |true=>
   refine(?_:ft (iy<|hV a0 a d t a2 b8 b) (qe (jz<|hV a0 a d t a2 b8 b) [[eu b8 (fF a0 a d b)]])=[b.map (hm t a2)])
   simp only [kz,zv,h,k,pp,da,zF,i]
   exact bq (λp=> [p])<|cZ _
 .intro c _ g
  cases c3.getD c ai with
  |false=>rfl
  |true=>
   refine(?_:qe _ [[eu b8 c]]=_)
   simp only [kz,zv,h,l c _ g,lq,mJ]
 .intro c _ g
  refine(?_:qe _ [mc b8 a0 [a,d] [t,a2] c 0,mc b8 a0 [a,d] [t,a2] c 1]=_)
  unfold mc
  simp only [kz,zv,h,l c _ g,lq,mJ]
theorem JY(b:m∈gc b8 a0 [a,d] [t,a2] c3):∃c,c<a0.length/\(m=[eu b8 c]\/∃f:ah,m=[eu b8 c,hm t a2 f,eu b8 (iB a0 c<|au (dn a d f))]):=by
 revert a0 c3 a d t a2 b8 m b;apply U8;generalize P7 _=c3,Q7 _=m,Q6 _=a,Q5 _=d,Q4 _=t,Q3 _=a2,Q2 _=b8,Q1 _=a0;intro b;unfold gc at b;obtain b|b:=dQ.mp b
 .refine ac (λc e b=> ?_)<|oC.mp b
  refine⟨c,qm.mp e,.inr ?_⟩
  cases b with
  |head=>exact⟨ai,O⟩
  |tail _ b=>cases b with
   |head=>exact⟨X,O⟩
   |tail _ b=>cases b
 .refine ac (λc e b=> ?_)<|qj.mp b;refine⟨c,qm.mp e,.inl ?_⟩;cases g:c3.getD c ai<;>rw [g] at b<;>cases b;rfl
theorem Iw(c:a<256)(e:d<256)(b:ah):hm a d b<256:=by cases b;exact c;exact e
theorem af5(i:t<256)(j:a2<256)(e:aM):(gc b8 a0 [a,d] [t,a2] c3).filter (jz<|e.map (hm t a2))=[]:=by
 refine MV.mpr λk b=> ?_;have l:∀f∈sT (e.map<|hm t a2),f<256:=λf m=>by (refine ac (λg n o=> ?_)<|cT.mp (List.drop_subset _ _ m);obtain rfl:=o);exact Iw i j g
 refine ac (λh n b=> ?_)<|JY b;have p:k.take 1=[eu b8 h]:=by obtain rfl|⟨g,rfl⟩:=b<;>rfl
 unfold jz;intro c;have c:=hW c;have:=l (eu b8 h) (by rw [c,p];exact .head _);unfold eu at this;exact cp (.p 1 (256+C+1) 256 .z) (bj _) O this
theorem af3(c:a0.Ok [a,d])(e:1<=b8)(f:t<256)(g:a2<256)(b:aM):
 je (gc b8 a0 [a,d] [t,a2] c3) (ix a0 c3 a d t a2 b8 b)=(pa b).flatMap (ix a0 c3 a d t a2 b8):=by
 have h:je (gc b8 a0 [a,d] [t,a2] c3) (bif c3.getD (fF a0 a d b) ai then [b.map (hm t a2)] else [])=[]:=by
  cases c3.getD (fF a0 a d b) ai with
  |false=>rfl
  |true=>refine(?_:ft _ _++ []=[]);rw [af5 f g];rfl
 unfold pa je at*
 rw [eT,eT,MX,cZ,<-Do c e (b++ [ai]),<-Do c e (b++ [X])]
 rw [show ix a0 c3 a d t a2 b8 b=hV a0 a d t a2 b8 (b++ [ai])::hV a0 a d t a2 b8 (b++ [X])::bif c3.getD (fF a0 a d b) ai then [b.map (hm t a2)] else [] from O,eT,eT,h,cZ]
theorem BV(f:a0.Ok [a,d])(g:1<=b8)(h:t<256)(i:a2<256):∀b,nO (gc b8 a0 [a,d] [t,a2] c3) (b+1)=(nI b).flatMap (ix a0 c3 a d t a2 b8):=by
 intro j
 induction j with
 |zero=>exact by refine(?_:je _ [[256]]=_);have:[256]=hV a0 a d t a2 b8 []:=O;rw [this];unfold je;refine(?_:ft _ _++ []=ix a0 c3 a d t a2 b8 []++ []);rw [Do f g]
 |succ b k=>
  exact by
   refine(?_:je _ (nO _<|b+1)=((nI b).flatMap pa).flatMap _);rw [k,MW];have:∀c:M aM,je (gc b8 a0 [a,d] [t,a2] c3) (c.flatMap<|ix a0 c3 a d t a2 b8)=c.flatMap λe=>(pa e).flatMap (ix a0 c3 a d t a2 b8):=λc=>by unfold je;rw [MW];exact Hv λe _=>af3 f g h i e
   exact this _
theorem BW:∀b,nP a d b=(nI b).map (aV a d):=by
 intro e
 induction e with
 |zero=>exact O
 |succ b f=>exact by refine(?_:oe a d (nP a d b)=((nI b).flatMap pa).map _);rw [f];unfold oe;rw [zw,zE];refine Hv λc _=> ?_;refine(?_:[aV a d c++aV a d [ai],aV a d c++aV a d [X]]=[aV a d (c++ [ai]),aV a d (c++ [X])]);rw [mj,mj]
theorem Vy(f:a≠d)(c:ah):xU a d t a2 (dn a d c)=hm t a2 c:=by
 have e:∀b:I,[au a,au d].idxOf b=bif au a==b then 0 else(bif au d==b then 0 else 1)+1:=λb=>by rw [Nc,Nc];cases au a==b<;>cases au d==b<;>rfl
 unfold xU;rw [e]
 cases c with
 |false=>refine(?_:[t,a2].getD (bif au a==au a then _ else _) 0=t);rw [jx];rfl
 |true=>refine(?_:[t,a2].getD (bif au a==au d then _ else(bif au d==au d then 0 else 1)+1) 0=a2);rw [jx,eP.mpr λe=>f<|qL e];rfl
theorem ai5(c:a≠d)(b:aM):mV a d t a2 (aV a d b)=b.map (hm t a2):=by refine(?_:(b.map<|dn a d).map _=_);rw [jq];exact qi λe _=>Vy c e
theorem Gj(c:aM):(ix a0 c3 a d t a2 b8 c).length<=3/\∀f∈ix a0 c3 a d t a2 b8 c,f.length<=c.length+2:=by
 revert a0 c3 a d t a2 b8 c;apply U8;generalize P7 _=c3,Q7 _=a,Q6 _=d,Q5 _=t,Q4 _=a2,Q3 _=b8,Q2 _=a0,Q1 _=c;have e:∀g:ah,(hV a0 a d t a2 b8<|c++ [g]).length<=c.length+2:=λg=>by unfold hV;rw [bN,aW,bN];exact ba _
 unfold ix
 cases c3.getD (fF a0 a d c) ai with
 |false=>
  refine⟨bA O,λf b=> ?_⟩
  cases b with
  |head=>exact e _
  |tail _ b=>cases b with
   |head=>exact e _
   |tail _ b=>cases b
 |true=>
  refine⟨bA O,λf b=> ?_⟩
  cases b with
  |head=>exact e _
  |tail _ b=>cases b with
   |head=>exact e _
   |tail _ b=>rw [bU.mp b,aW];exact dS _ _
theorem Jw(b:aM):lj (hV a0 a d t a2 b8 b)=ai:=cN λc=>by have:eu b8 (fF a0 a d b)∈(hV a0 a d t a2 b8 b).filter λe=> !aI (e<256):=rX.mpr ⟨ff _<|.head _,by rw [cN (by unfold eu;exact cp (.p 1 (256+C+1) 256 .z) (bj _) O)];rfl⟩;rw [c] at this;cases this
theorem ag7(b:a<256)(c:d<256)(e:aM):lj (e.map<|hm a d)=X:=ck (MV.mpr λi f=>by refine ac (λg j h=> ?_)<|cT.mp f;obtain rfl:=h;rw [ck (Iw b c g)];decide)
theorem Qf(c:t<256)(e:a2<256)(b:aM):(ix a0 c3 a d t a2 b8 b).filter lj=bif c3.getD (fF a0 a d b) ai then [b.map (hm t a2)] else []:=by
 unfold ix;rw [kz,Jw,kz,Jw]
 cases c3.getD (fF a0 a d b) ai with
 |false=>rfl
 |true=>refine(?_:qe lj [b.map (hm t a2)]=[b.map (hm t a2)]);rw [kz,ag7 c e];rfl
theorem SZ(l:a0.Ok [a,d])(m:1<=b8)(j:t<256)(k:a2<256)(u:a≠d)(v:∀b:aM,iw d1 (aV a d b)=c3.getD (fF a0 a d b) ai):
 ox d1 a d t a2 (gc b8 a0 [a,d] [t,a2] c3):=by
 have r:∀c,c<=4->2^c<=16:=λc w=>by obtain g|g|g|g|g:=(by exact as3 _ w:c=0\/c=1\/c=2\/c=3\/c=4)<;>rw [g]<;>decide
 refine⟨λc f x h=> ?_,λc f=> ?_,λc f A s=> ?_,λc f=> ?_,λc f=> ?_⟩
 .cases c with
  |zero=>rw [bU.mp h];decide
  |succ i=>
   rw [BV l m j k] at h
   refine ac (λb n h=> ?_)<|oC.mp h
   have:=(Gj b).2 x h
   have:=(xi i).2 b n
   exact af 0 (C+1) 1000 (.p 1 (J+1) 4<|.p 1 C (aj+2) (.q 1 aj J .z)) (bk _ _ _) O f ‹_› this
 .cases c with
  |zero=>exact bA O
  |succ i=>
   rw [BV l m j k]
   have:∀e:M aM,(e.flatMap<|ix a0 c3 a d t a2 b8).length<=3*e.length:=λe=>by
    induction e with
    |nil=>exact ba _
    |cons o e p=>rw [eT,bN,gO];have:=(Gj (a0:=a0) (c3:=c3) (a:=a) (d:=d) (t:=t) (a2:=a2) (b8:=b8) o).1;exact af 0 (C+J) (bn 3<|aj+1) (.p 1 J (bn 3 aj)<|.p 1 C 3 .z) (bk _ _ _) O p this
   have:=this<|nI i
   rw [(xi i).1] at this
   have:=r i<|by exact dx ‹_›
   exact af 0 (C+1) 100000 (.p 1 C (bn 3 J)<|.p 3 J 16 .z) (aN _ _) O ‹_› this
 .rw [BW] at s
  refine ac (λb n q=> ?_)<|cT.mp s;obtain rfl:=q
  refine⟨by rw [ks,(xi c).2 b n];exact cd ‹_› (bA O),λy z=> ?_⟩
  refine ac (λo B q=> ?_)<|cT.mp (show y∈b.map (dn a d) from z);obtain rfl:=q
  cases o
  .exact .inl O
  .exact .inr O
 .rw [BW,aW,(xi c).1]
  have:=r c f
  exact cd ‹_› (bA O)
 .rw [BV l m j k,BW,Ej]
  have:∀e:M aM,(e.flatMap λb=>(ix a0 c3 a d t a2 b8 b).filter lj)=((e.map<|aV a d).filter<|iw d1).map (mV a d t a2):=λe=>by
   induction e with
   |nil=>rfl
   |cons b e p=>
    rw [eT,p,Qf j k,da,kz,v]
    cases c3.getD (fF a0 a d b) ai with
    |false=>rfl
    |true=>refine(?_:[b.map (hm t a2)]++_=mV a d t a2 (aV a d b)::_);rw [ai5 u];rfl
  exact this _
theorem Wq(b:ah):dn a d b∈[a,d]:=by
 cases b
 .exact .head _
 .exact .tail _<|.head _
theorem Ks(b:a0.length<=8)(c:a<=60000)(e:d<a0.length):256<=eu a d/\eu a d<16777216:=by unfold eu;have:a*d<=60000*8:=zO c (by exact af 0 C 8 (.p 1 J 8<|.p 1 (C+1) J .z) (aN _ _) O b e);exact⟨af 0 256 (256+C) .z (bj _) O,af 0 (256+C+1) 16777216 (.p 1 C (bn 60000 8) .z) (bj _) O this⟩
theorem Yv(u:a0.Ok [a,d])(n:a0.length<=8)(o:b8<=60000)(v:0<t/\t<256)(w:0<a2/\a2<256)(l:m∈gc b8 a0 [a,d] [t,a2] c3):Ab m/\∀f∈m,f≠0/\f<16777216:=by
 refine ac (λx p l=> ?_)<|JY l;have c:=Ks n o p;obtain rfl|⟨j,rfl⟩:=l
 .refine⟨λg f b=> ?_,λf b=> ?_⟩
  .cases g with
   |zero=>(revert b;refine aL λe=> ?_;subst e);exact⟨⟨λq=>λh=>aD (.f 1 0 1 .z) (aG 0) O<|ax h,λr=>bd<|aw 0 256 F (.p 1 256 F .z) (aG _) O (ak c.1)⟩,λi=>aD (.p 1 256 F<|.q 1 F 0 .z) (aG _) O (ak c.1)<|ax i⟩
   |succ g=>exact aU b
  .rw [bU.mp b];exact⟨cp (.p 1 256 C<|.q 1 C 0 .z) (bj _) O c.1,af 0 (C+1) 16777216 (.p 1 (C+1) 16777216 .z) (bj _) O c.2⟩
 .have k:=Ks n o<|Jq u p (Wq (a:=a) (d:=d) j)
  have s:0<hm t a2 j/\hm t a2 j<256:=by cases j;exact v;exact w
  refine⟨λg f b=> ?_,λf b=> ?_⟩
  .match g,b with
   |0,b=>(revert b;refine aL λe=> ?_;subst e);exact⟨⟨λq=>λh=>aD (.f 1 0 1 .z) (aG 0) O<|ax h,λr=>bd<|aw 0 256 F (.p 1 256 F .z) (aG _) O (ak c.1)⟩,λi=>aD (.p 1 256 F<|.q 1 F 0 .z) (aG _) O (ak c.1)<|ax i⟩
   |1,b=>(revert b;refine aL λe=> ?_;subst e);lia
   |2,b=>(revert b;refine aL λe=> ?_;subst e);exact⟨⟨λq=>λh=>aD (.q 1 2 1 .z) (aG 0) O<|ax h,λr=>bd<|aw 0 256 F (.p 1 256 F .z) (aG _) O (ak k.1)⟩,λi=>aD (.p 1 256 F<|.q 1 F 0 .z) (aG _) O (ak k.1)<|ax i⟩
   |g+3,b=>exact aU b
  .cases b with
   |head=>exact⟨cp (.p 1 256 C<|.q 1 C 0 .z) (bj _) O c.1,af 0 (C+1) 16777216 (.p 1 (C+1) 16777216 .z) (bj _) O c.2⟩
   |tail _ b=>cases b with
    |head=>exact⟨cp (.p 1 (0+1) C<|.q 1 C 0 .z) (bj _) O s.1,af 0 (C+1) 16777216 (.p 1 (C+1) 256 .z) (bj _) O s.2⟩
    |tail _ b=>rw [bU.mp b];exact⟨cp (.p 1 256 C<|.q 1 C 0 .z) (bj _) O k.1,af 0 (C+1) 16777216 (.p 1 (C+1) 16777216 .z) (bj _) O k.2⟩
theorem YL(e:∀a,a<28->a1 a=Q (.loc a)):∀b:M (I×N),(∀c∈b,c.2<28)->mb a1 b=Q b:=by
 intro f
 induction f with
 |nil=>exact λ_=>O
 |cons g b h=>
  obtain⟨j,a⟩:=g
  exact λd=>by refine(?_:bL (bL (a1 a) vn) _=_);rw [e a (d _<|.head _),h λc i=>d c<|.tail _ i];rfl
noncomputable def ya(a:aC):M (I×N):=match a with
 | .Lambda _ _ b _=>(mH vm b.names<|Q []).getD []
 |_=> []
theorem Bl(c:I)(d:∀a,a<28->a1 a=Q (.loc a))(e:((ya v).all λb=>aI<|b.2<28)=X):iJ a1 (Cp v c):=by
 have f:=YL d (ya v) λb g=>hW<|hH.mp e b g;cases v<;>try exact O
 exact bq (eU _) f
theorem LB:((ya<|nG tD[1]?).all λa=>aI<|a.2<28)=X:=by decide+kernel
theorem VE:((ya<|nG tD[2]?).all λa=>aI<|a.2<28)=X:=by decide+kernel
theorem RE(a:I)(d:M H)(e:ca)(f g h i:N):jl (fK a d e f g h i):= ⟨λb _=>⟨ds<|gS (Bk b d),ds O,ds O,O,O⟩,λb c=>Bl a c LB,λb c=>Bl a c VE⟩
theorem lc(a:iJ a1 h)(b:R.rend a1 D=Q D):R.rend a1 ((g,h)::D)=Q ((g,h)::D):=by refine(?_:bL (R.ren a1 h) _=_);rw [a,b];rfl
theorem fH.app{a:E->Prop}{c d:M E}(b:fH a c)(e:fH a d):fH a (c++d):=by
 induction b with
 |nil=>exact e
 |cons b g f=>exact .cons b f
theorem Rz(b:fG a1 c4):G.ren a1 (.cell c4)=Q (.cell c4):=by
 cases c4 with
 |none=>rfl
 |some a=>exact bq (eU λa=>G.cell<|Q a)<|b a O
theorem RH{j:N}(q:M (M N))(f h k l:M R)(r:∀c,R.rens c f=Q f)(s:∀c,R.rens c h=Q h)(u:∀c,R.rens c k=Q k)(v:∀c,R.rens c l=Q l)(m:M (M N)):
 tN (yU (fK g g9 d1 a d t a2) a4 d6 c3 a0 (kY m0) (bif n then Q (dO g) else U) (dp a) (dq a) b8 j4 j a8) (Q<|.lst f) (Q<|.lst h) m (.lst<|q.map bJ) (.lst k) (.lst l):=by
 intro e w
 have i:∀b,b<28->cM e b=Q (.loc b):=uC<|by exact af 0 28 C (.p 1 39 C .z) (bj _) O w
 have o:∀b,b<39->cM e b=Q (.loc b):=λb B=>by unfold cM;rw [ck (by exact ij ‹_› ‹_›)];rfl
 have x:iJ (cM e) a0.av:=by refine(?_:(R.rens _<|dv a0).map R.lst=_);rw [vC];rfl
 have y:fG (cM e) (bif n then Q (dO g) else U):=by
  cases n with
  |false=>exact iW
  |true=>exact ds<|Bl g i LB
 have p:fH (fG<|cM e) (uH (yU (fK g g9 d1 a d t a2) a4 d6 c3 a0 (kY m0) (bif n then Q (dO g) else U) (dp a) (dq a) b8 j4 j a8) {shelf:=Q<|.loc 29,kinds:=Q<|.lst f,tape:=Q<|.loc 38,read:=Q<|.lst h,parts:=Q<|.lst (m.map bJ)}).l:=
  .cons (ds<|gS (Bk _ g9)) (.cons (ds O)<|.cons (ds O) (.cons (ds O)<|.cons (ds<|pI _ d1) (.cons (ds O)<|.cons (ds<|gS (yv _ c3)) (.cons (ds<|o 29 (by decide))<|.cons (ds<|gS (r _)) (.cons (ds<|o 38 (by decide))<|.cons (ds<|gS (s _)) (.cons (ds<|gS (CV _ _))<|.cons (ds<|Bj i) (.cons (ds<|gS (jB _ _))<|.cons (ds<|i 26 (by decide)) (.cons (Gx _ _)<|.cons (ds x) (.cons y<|.cons (ds O) (.cons (ds O) .nil))))))))))
 refine⟨lc O<|lc O (lc O<|lc O (lc (i 27<|by decide)<|lc O (lc (gS<|yy _ _)<|lc (gS<|Kg _ _) (lc O<|lc (gS<|CV _ _) (lc (gS<|u _)<|lc (gS<|v _) O))))),?_⟩
 refine fH.all<|fH.app (fH.app (fH.app ?_ ?_) ?_) (.cons O<|.cons O .nil)
 rotate_left
 .exact .cons O<|.cons O (.cons O<|.cons O (.cons (bq (eU<|G.dict j)<|Kf _ _)<|.cons (bq (eU G.list)<|jB _ _) (.cons O<|.cons (bq (eU G.list)<|yy _ _) (.cons O<|.cons O (.cons O .nil)))))
 .exact .cons O<|.cons O (.cons O<|.cons O (.cons O<|.cons O (.cons O<|.cons O (.cons O .nil))))
 generalize(uH _ _).l=D at p ⊢
 induction p with
 |nil=>exact .nil
 |cons z E A=>exact .cons (Rz z) A
theorem aj4(k:a0.Ok [bT (dp a),bT (dq a)])(l:a0.length<=8)(u:c3.length=a0.length)
 (v:∀p:aM,iw d1 (aV (bT<|dp a) (bT<|dq a) p)=c3.getD (fF a0 (bT<|dp a) (bT<|dq a) p) ai):
 ir (yU (fK g g9 d1 a d t a2) a4 d6 c3 a0 (kY m0) (bif n then Q (dO g) else U) (dp a) (dq a) (bT<|dp a) (bT<|dq a) b8 a8):=by
 refine dH (λh i w=> ?_)<|JQ a
 have q:=Ix _ h
 have r:=Ix _ i
 have s:1<=dg d/\dg d<=60000:=by unfold dg;exact⟨af 0 1 (1+C) .z (bj _) O,af 0 (1+C) 60000 (.p 1 (C+1) 60000 .z) (bj _) O<|fI _ (bA O)⟩
 have m:=λc (b:c∈gc (dg d) a0 [bT (dp a),bT (dq a)] [eD (dp a),eD (dq a)] c3)=>Yv k l s.2 q r b
 refine⟨h,i,k,cd l<|by decide,u,KR _ h,KR _ i,?_,?_,?_,λc b=>(m c b).1,SZ k s.1 q.2 r.2 ((yJ _ h).2 _ i w) v,?_⟩
 .have x:=Jx (gc (dg d) a0 [bT (dp a),bT (dq a)] [eD (dp a),eD (dq a)] c3) λc b=>CO b
  have y:=JM (dg d) a0 [bT (dp a),bT (dq a)] [eD (dp a),eD (dq a)] c3
  refine(?_:(dA<|gc (dg d) a0 [bT (dp a),bT (dq a)] [eD (dp a),eD (dq a)] c3).length<100000)
  exact af 0 (C+1) 100000 (.p 12 J 8<|.p 1 C (bn 4 aj) (.p 4 aj (bn 3 J) .z)) (bk _ _ _) O l x y
 .intro j e
  refine ac (λc b e=> ?_) (oC.mp (show j∈(gc (dg d) a0 [bT (dp a),bT (dq a)] [eD (dp a),eD (dq a)] c3).flatMap (· ++ [0]) from e))
  obtain o|o:=dQ.mp e
  .exact((m c b).2 j o).2
  .rw [bU.mp o];decide
 .exact λc b j e=>((m c b).2 j e).1
 .refine RH _ _ _ _ _ (λ_=>O) (λf=>yx f _) (λf=>yx f _) (λf=> ?_) _
  refine(?_:(R.rens f<|aS _).map (λz=>R.int (-1)::z)=_)
  rw [yx];rfl
theorem ak6(i:h1 a):∀e:M (I×N),(∀c∈e,h1 c.2)->∀c∈ec e g a,h1 c.2:=by
 intro e
 induction e with
 |nil=>exact λ_ c b=>by rw [bU.mp (show c∈[(g,a)] from b)];exact i
 |cons d f j=>
  exact λh c b=>by
   have b:c∈bif aI (d.1=g) then(d.1,a)::f else d::ec f g a:=b
   revert b
   cases aI (d.1=g) with
   |true=>intro b;replace b:c∈(d.1,a)::f:=b;cases b with
    |head=>exact i
    |tail _ b=>exact h c<|.tail _ b
   |false=>intro b;replace b:c∈d::ec f g a:=b;cases b with
    |head=>exact h d<|.head _
    |tail _ b=>exact j (λc k=>h c<|.tail _ k) c b
theorem RZ(e:M N)(g:∀b,h1 (mN e b)):∀(f:M N) (a:M (I×N)),(∀c∈a,h1 c.2)->∀c∈nJ e f a,h1 c.2:=by
 intro h
 induction h with
 |nil=>exact λ_ d=>d
 |cons b f i=>exact λa d=>i _<|ak6 (g b) a d
theorem Ys(e:m.length<=5):(eb m a d).Ok:=by
 have b:(m.map<|fN a d).length<=16:=by rw [aW];exact aK ‹_› (bA O)
 exact⟨fh (xg _ (ba _) b)<|by decide,RZ (h1:=λc=>c<1048576) _ (λf=>fh (xg _ (cy _) b)<|by decide) _ _<|by intro g;first|contradiction|(intros;contradiction)⟩
theorem ai7(c:∀b∈g.cps.toList,b∈[a,d]):∃f,g=aV a d f:=by
 refine⟨g.cps.toList.map (· ==d),lN ?_⟩;refine(?_:g.cps.toList=(g.cps.toList.map (· ==d)).map (dn a d));rw [jq];refine(Nk _).symm.trans<|qi λb h=> ?_;refine(?_:b=dn a d (b==d))
 cases e:b==d with
 |true=>exact hd e
 |false=>
  have:=c b h
  cases this with
  |head=>rfl
  |tail _ c=>rw [bU.mp c,jx] at e;exact gX e
theorem yn(a:g0.word=U):ia z a3 64 g0=g0:=by unfold ia;rw [a]
theorem Jy(b:g0.word≠U)(c:(ia z a3 64 g0).word=U):(ia z a3 64 g0).many=(ia z a3 64 g0).heads.length:=by
 unfold ia at*;generalize mi z a3 64 g0=d at*;generalize cf z a3 g0=f at*;generalize g0.word=e at*
 cases e with
 |none=>exact bD O b
 |some a=>cases d with
  |none=>rfl
  |some a=>exact nomatch (show Q a=U from c)
theorem ai0(e:kb z a3 a d t g0)(b:g0.word=U):tP z a3 a d g0:=by
 induction e with
 |last f c=>rw [yn b] at c;exact c
 |more f c g=>have:=g (by rw [yn b];exact b);rw [yn b] at this;exact this
def zl(b:bx)(c:bE)(d e f:N)(a:dG):Prop:=(a.word=U/\tP b c d e a/\a.many=a.heads.length)\/(a.word≠U/\kb b c d e (8 - f) a)
theorem TI:∀b c,b<8->zl z a3 a d b c->zl z a3 a d (b+1) (ia z a3 64 c)/\(c.word≠U->hM z a3 64 c):=by
 revert z a3 a d;apply U4;generalize P3 _=a,Q3 _=d,Q2 _=z,Q1 _=a3;intro b c j k;obtain⟨e,h,l⟩|⟨e,h⟩:=k
 .exact⟨by rw [yn e];exact .inl ⟨e,h,l⟩,λf=>bD e f⟩
 .rw [show 8 - b=(8 - (b+1))+1 from(Nat.succ_pred_eq_of_pos<|Nat.sub_pos_of_lt j).symm] at h
  cases h with
  |last i g=>exact⟨.inl ⟨g.w,g,Jy e g.w⟩,λ_=>i⟩
  |more i g=>
   refine⟨?_,λ_=>i⟩
   cases f:(ia z a3 64 c).word with
   |none=>exact .inl ⟨f,ai0 g f,Jy e f⟩
   |some m=>exact .inr ⟨by rw [f];nofun,g⟩
theorem Wo:(km []<|dP 0 a8).length=a8.length:=by rw [(IW a8 0 [] (λb c d e _ a _=>by exact aU a)<|by intro f;first|contradiction|(intros;contradiction)).2.length_eq,cZ,yO]
theorem ak0(b:qE (cB a) z a3):qE (jb a) z a3:=λc d e f g h i j k l m n o p=>ef<|b c d e f g h i j k l m n o p
theorem aj6(b:nf (cB a) z g T d t):nf (jb a) z g T d t:=λc e f h i j k l m n o p q r=>ef<|b c e f h i j k l m n o p q r
theorem ak3(b:qF (cB a) a0 d1 c3 m g j9):qF (jb a) a0 d1 c3 m g j9:=λc d e=>ef<|b c d e
theorem ak1(b:oT (cB a) z a3 a4 a0 g):oT (jb a) z a3 a4 a0 g:=λc d e f h i j k l m n o p q r=>ef<|b c d e f h i j k l m n o p q r
theorem LK(b:jG (cB a) w n):jG (jb a) w n:=λc d e n f g h i j k l m o p q r s t u=>ef<|b c d e n f g h i j k l m o p q r s t u
theorem LL(b:pX (cB a) w n):pX (jb a) w n:=λc d e f g h i j k l=>ef<|b c d e f g h i j k l
theorem aj9(b:qD (cB a) a0 m):qD (jb a) a0 m:=λc d e f g=>ef<|b c d e f g
theorem ak4(b:su (cB a)):su (jb a):=λc d e f g h i j=>ef<|b c d e f g h i j
theorem aj7(b:pU (cB a)):pU (jb a):=λc d e f=>ef<|b c d e f
theorem aj8(b:sd (cB a)):sd (jb a):=λc d e f=>ef<|b c d e f
theorem ak2(b:oU (cB a)):oU (jb a):=λc d e f=>ef<|b c d e f
theorem aj5(b:oo (cB a) d1):oo (jb a) d1:=λc d e f=>ef<|b c d e f
theorem BE:("":I)=aV a d []:=lN Bd
theorem Wl(c:db)(d:100<=a)(u:g9.length<=63)(h:I):
 df (bt (jb a) 20) (dL h) (bu 74) (eX h [] {script:=Q<|.lst (eB g9)} []) (λa8 o=>a8= .ret (.bool X)/\rM o):=by
 revert a g9 c d u h
 apply U2
 generalize P1 _=g9,Q1 _=a
 intro c d u h
 revert h
 apply U1
 generalize Z1 _=h
 refine ay (λb a9=> ?_)<|ym g9 0 9
 refine ay (λv b0=> ?_)<|ym g9 3 512002
 refine ay (λk b1=> ?_)<|ym g9 1 58
 refine ay (λg b2=> ?_)<|ym g9 2 32
 refine dH (λL P b3=> ?_)<|JQ b
 have S:=(yJ _ L).2 _ P b3
 have p:=(yJ _ L).1
 have T:=(yJ _ P).1
 refine ay (λj e=> ?_)<|Ye (al6 (bT<|dp b) (bT<|dq b) k) CQ.1 CQ.2.1 CQ.2.2 S p T
 refine dH (λw x b4=> ?_)<|Wr e S p T (d3:=qV g) yc.1 yc.2;refine ac (λW b6 b7=> ?_)<|b4
 have V:(eb j (bT<|dp b)<|bT (dq b)).Ok:=Ys x
 let l:bx:=⟨hz<|pP (au<|bT (dp b)) (au<|bT (dq b)) k,[bT (dp b),bT (dq b)],λf=>∃b8∈W,f=aV (bT<|dp b) (bT<|dq b) b8⟩
 have q:nm l (pP (au<|bT (dp b)) (au<|bT (dq b)) k):=⟨λ_=>O,fh e.w<|by decide,e.s⟩
 have Y:∀i:aM,gG (eb j (bT<|dp b)<|bT (dq b)) (aV (bT<|dp b) (bT<|dq b) i)<64:=λi=>by rw [Cx w];exact VY x i _ Vw
 have r:=Ti (bT<|dp b) (bT<|dq b) g
 have b9:jj (fK h g9 (eb j (bT<|dp b)<|bT (dq b)) b v k g) l (pP (au<|bT (dp b)) (au<|bT (dq b)) k) j (bT<|dp b) (bT<|dq b) (qV g):=
  {L:=w,pat:=e,f:=λ_=>O,S:=O,MS:=O,P:=O,fr:=r,i5:=x,fl:=yc.2}
 have c0:mC (bT<|dp b) (bT<|dq b) [([],eC (aE j))] [[]] 0 yT:=⟨bq (λf=> [f]) BE,bq (λf=> [f]) BE,O,(by intro c1;first|contradiction|(intros;contradiction))⟩
 refine Wh (h3:=cB 66) (z:=l) (a:=64) (d1:=eb j (bT<|dp b)<|bT (dq b)) (zl l (fK h g9 (eb j (bT<|dp b)<|bT (dq b)) b v k g) (bT<|dp b)<|bT (dq b)) u a9 b0 b1 b2 ?_ TI c.hs
  (ak0<|XK c (by exact af 0 74 C (.p 1 100 C .z) (bj _) O d) q O O) (aj6<|CH c (by exact af 0 32 C (.p 1 100 C .z) (bj _) O d) q _ _ _) (λs Z c2=>ak3<|XN c (by exact af 0 63 C (.p 1 100 C .z) (bj _) O d) V c2 ?_ ?_ ?_ ?_)
  (λy s f m a0 a1 a2 n=>⟨ak1<|JI c (by exact af 0 49 C (.p 1 100 C .z) (bj _) O d) q m a0 a1 a2 O n,XD c (by exact ba _) q m a0 a1 a2 O n⟩)
  (LK<|JE c (by exact af 0 (66+21) C (.p 1 100 C .z) (bj _) O d) X) (LK<|JE c (by exact af 0 (66+21) C (.p 1 100 C .z) (bj _) O d) ai) (RE _ _ _ _ _ _ _) (.inr ⟨(by intro c1;first|contradiction|(intros;contradiction)),b7 l _ yT b9 (λi c3=>⟨i,c3,O⟩) c0⟩) _ ?_
 .intro o a3 z
  refine ef<|XH c (by exact af 0 21 C (.p 1 100 C .z) (bj _) O d) O O O O (dx<|fh e.w (by decide)) (dx<|fh e.r1 (by decide)) (dx<|fh e.r2 (by decide)) (dx<|fh e.r3 (by decide)) ?_ o a3 ?_
  .rw [<-fd,e.r4,aW];exact aK ‹_› (bA O)
  .rw [show ∀f:I,f.cps.toList=aO f from λ_=>O,e.r4];exact z
 .refine(?_:(pi _ _ g).length<=1000);rw [r,ks];have:= @yc g;exact af 0 C 1000 (.p 1 C 6 .z) (bj _) O this.2
 .refine(?_:∀d3∈(pi _ _ g).cps.toList,_);rw [r];exact ti (z:=l) O _
 .refine(?_:gG _ (pi _ _ g)<_);rw [r];exact Y _
 .refine(?_:gG _ ""<_);rw [BE];exact Y _
 .intro c4 d4 a4 d5 d6 c5 a5 d7
  have d8:a4.length<=63:=VW b6 a5 λf A=>A
  obtain⟨B,D,t⟩|⟨_,D⟩:=c5
  .obtain⟨d9,y,c6,c7,c8,c9⟩:=c4
   refine Xk (λZ s E K m a6 n d0 a7=> ?_)<|D.e
   replace B:c7=U:=B
   replace E:c8=Q Z:=E
   replace K:c9=Q s:=K
   replace t:c6=y.length:=t
   replace n:y.length=s.length:=n
   rw [n] at t
   subst B E K t
   exact Wj (h3:=cB 5) (z:=l) (a3:=fK h g9 (eb j (bT<|dp b)<|bT (dq b)) b v k g) O O a5 (by exact cd ‹_› (bA O)) O (aj9<|CI c (by exact af 0 21 C (.p 1 100 C .z) (bj _) O d) m) m a6 (λf A=>by(refine ay (λi d1=> ?_)<|ai7 A;obtain rfl:=d1);exact a7 i)
    (LL<|JG c (by exact af 0 47 C (.p 1 100 C .z) (bj _) O d) X) (LL<|JG c (by exact af 0 47 C (.p 1 100 C .z) (bj _) O d) ai) (JF c (by exact ba _) X _) (JF c (by exact ba _) ai _) (by rw [yO];exact cd ‹_› (bA O)) (by rw [Wo];exact cd ‹_› (bA O)) (XI c d)
    (λo a3 z=>ef (XP (a:=9) c (by exact af 0 (9+2) C (.p 1 100 C .z) (bj _) O d) (by exact ba _) _ (by rw [yO];exact fi ‹_›) (ag6 a4) λe0 e p=>by rw [Wp e p];exact z))
    (aj4 m d0 a6 λi=>by rw [Po e w];exact(a7 i).symm) (ak4<|XO c (by exact af 0 21 C (.p 1 100 C .z) (bj _) O d)) (aj7<|XB c (by exact af 0 21 C (.p 1 100 C .z) (bj _) O d)) (aj8<|XF c (by exact af 0 21 C (.p 1 100 C .z) (bj _) O d)) (ak2<|XM c (by exact af 0 21 C (.p 1 100 C .z) (bj _) O d)) (aj5<|JC c (by exact af 0 42 C (.p 1 100 C .z) (bj _) O d) V) _ λ_ d2=>⟨O,d2⟩
  .exact(by cases D)
theorem Ih(a:xN c2 j=X):∃b c d,c2.lookup j=Q ⟨b,c,.func<|gE c2 j,d⟩:=by
 unfold xN at a;unfold gE
 cases e:c2.lookup j with
 |none=>rw [e] at a;exact cY a
 |some f=>
  rw [e] at a;obtain⟨b,c,g,d⟩:=f
  cases g<;>first|exact⟨_,_,_,O⟩|exact cY a
theorem Hw(b:BK c2 a=BL a):xN c2 (gm a)=X/\(gE c2<|gm a).body= .stmts (bu a)/\codeIn c2 (gE c2<|gm a).code (gE c2<|gm a).qualname=X/\(gE c2<|gm a).globals=gC/\(gE c2<|gm a).builtins=kG/\(gE c2<|gm a).closure=[]/\(gE c2<|gm a).scope=bI a:= ⟨bq (·.1) b,bq (·.2.1) b,bq (·.2.2.1) b,bq (·.2.2.2.1) b,bq (·.2.2.2.2.1) b,bq (·.2.2.2.2.2.1) b,bq (·.2.2.2.2.2.2) b⟩
theorem Tc(b:c2.In bM)(c:BK c2 a=BL a)(d:vO c2 (gm a) j1):oy a (bS a) j1:=by
 obtain⟨e,f,g,h,i,j,k⟩:=Hw c
 obtain⟨r,s,t,l⟩:=Ih e
 exact⟨gm a,_,_,O,b _ _ l,O,f,codeRec_of b g,h,i,j,k,λu m n o p q=>kp_binds (b.keeps m)<|d n o p q⟩
noncomputable def yI:M (mD×H)->M (cH×cH)->M (I×aa)
 |a::b,c::d=>(bC a.1,.int a.2 c.2)::yI b d
 |_,_=> []
theorem RV(a:uN c2 j=X):∃b c,c2.lookup j=Q b/\b.ExactDict/\b.data= .dict (fC c2 j) c:=by
 unfold uN at a;unfold fC
 cases d:c2.lookup j with
 |none=>rw [d] at a;exact cY a
 |some e=>
  rw [d] at a;obtain⟨f,g,h,l⟩:=e
  cases f with
  |type m=>
   cases g with
   |none=>
    cases h with
    |dict n c=>refine aA (λi k=> ?_)<|fp.mp a;cases fX.mp i;exact⟨_,_,O,⟨O,O,DR.mp<|fX.mp k⟩,O⟩
    |_=>exact cY a
   |some _=>exact cY a
  |_=>exact cY a
theorem Ik(a:I)(b:cH):Value.isStrOf a (.str a b)=X:=by refine(?_:(a==a)=X);exact jx a
theorem KP:∀(b:M (mD×H)) (a:M (cH×cH)),Pairs (fB aq ap) (rE ap b a) (yI b a)
 |[],_=> .nil
 |_::_,[]=> .nil
 |e::c,d::a=> .cons (Ik _ d.1) O<|KP c a
theorem ab7{e:eR Ae}(c:M (mD×H))(a:M (cH×cH))(g:e.toList=rE ap c a):KeysOf (fB aq ap) e:=by
 have:∀(c:M (mD×H)) (a:M (cH×cH)),∀d∈rE ap c a,∃f,(fB aq ap).is f d.key=X/\d.hash=(fB aq ap).hash f:=by
  intro c
  induction c with
  |nil=>intro a d b;cases b
  |cons j c h=>
   intro a d b
   cases a with
   |nil=>cases b
   |cons i a=>
    obtain rfl|b:=bO.mp b
    .exact⟨_,Ik _ i.1,O⟩
    .exact h a d b
 intro d b;exact this c a d<|g▸Mj.mpr b
theorem KQ:∀(c:M (mD×H)) (a:M (cH×cH)),a.length=c.length->eA y i b (yI c a) (c.map λd=>(bC d.1,.int d.2))
 |[],_,_=> .nil
 |d::e,g::a,f=> .cons (.int _ _)<|KQ e a (sb f)
theorem KO:∀(b:M (mD×H)) (a:M (cH×cH)),a.length=b.length->(yI b a).map (·.1)=b.map λc=>bC c.1
 |[],_,_=>O
 |c::d,f::a,e=>bq (_:: ·)<|KO d a (sb e)
theorem ac3:(gZ.map λa=>bC a.1).Nodup:=by decide+kernel
theorem ab6(d:c2.In i)(g:uN c2 j=X)(h:(fC c2 j).size=gZ.length)(a:(fC c2 j).toList=rE ap gZ ((fC c2 j).toList.map vI))(k:(j==cR)=ai):
 bi (λj=>∃l,i.get? j=Q l) i b (.ref j) (.dct<|gZ.map λe=>(bC e.1,.int e.2)):=by
 refine dd (λm n f o p=> ?_)<|RV g
 have c:((fC c2 j).toList.map vI).length=gZ.length:=by rw [aW,na,h]
 generalize(fC c2 j).toList.map vI=q at a c
 exact .dct ⟨_,d _ _ f⟩ k ⟨m,_,n,d _ _ f,o,p,ab7 _ _ a,a▸KP _ q,by rw [KO _ _ c];exact ac3⟩<|KQ _ _ c
theorem HT(b:aT)(a:ao):(po b a).get? a=U:=by
 cases d:(po b a).get? a with
 |none=>rfl
 |some g=>refine aA (λc e=> ?_)<|Heap.get?_some_iff.mp d;cases b;simp only [po,Heap.update,Array.getElem?_modify,pp] at c;refine ac (λh i f=> ?_)<|zX.mp c;obtain rfl:=f;exact gX e
theorem sN(a:a7≠j):(po i j).get? a7=i.get? a7:=Heap.get?_update_other i _ λb=>a b.symm
theorem TK(b:ao)(c:iR)(a:(po i j).get? b=Q c):i.get? b=Q c:=by
 by_cases d:b=j
 .subst d;rw [HT] at a;exact aU a
 .rw [sN d] at a;exact a
theorem CC(a:i.Ns a7 g5)(b:a7≠j):(po i j).Ns a7 g5:= (by(revert a;refine iC λc d e f g=> ?_);exact⟨c,d,e,(sN b).trans f,g⟩)
theorem TN(b:c2.In i)(c:c2.lookup j=U):c2.In (po i j):=λd e a=>(sN λf=>by rw [f,c] at a;exact aU a).trans<|b d e a
theorem Wy(a:D.lookup g=Q h):(g,h)∈D:=by
 induction D with
 |nil=>cases a
 |cons c f d=>
  obtain⟨e,i⟩:=c
  rw [ee] at a
  cases b:g==e with
  |true=>rw [b] at a;cases a;cases fX.mp b;exact .head _
  |false=>rw [b] at a;exact .tail _<|d a
theorem zm.rel(e:c2.In i)(a:zm ap c2 k h):bi (λc=>∃f,i.get? c=Q f) i ⟨[],[]⟩ k h:=by
 cases h with
 |raw g=>exact(show k=g from a)▸ .raw k
 |str j=>obtain⟨b,rfl⟩:=a;exact .str j b
 |int l=>obtain⟨b,rfl⟩:=a;exact .int l b
 |blt d=>exact(show k=d.val from a)▸ .blt d
 |dct q=>
  obtain⟨c,rfl,m,n,o,p,rfl⟩:=a
  exact ab6 e m n o p
 |_=>exact a.elim
theorem jw.sysOf(a:jw bM g5 k1)(e:oB ap c2)(f:c2.In bM):db where
 fn:=λk c=>Tc f (Nl.mp e.fs _<|zu.mp c)<|e.bs.all _ (zu.mp c)
 gl:={
  ex:=by
   refine⟨g5,k1,a.g,a.b,λl x g=> ?_,λy p=> ?_⟩
   .rw [Jp f a.g e.dc l]
    refine ac (λm c n=> ?_)<|e.gl.all _ (Wy g);obtain c|⟨h,i,b⟩:=c
    .exact .inl ⟨m,c,n.rel f⟩
    .exact .inr ⟨h,m,(a.bb l i).trans b,n.rel f⟩
   .refine vr (λq r h i b s t j=> ?_)<|a.bm
    refine⟨q,r,h,i,λd=> ?_,λd=> ?_,b,s,t,j⟩
    .refine nT (λz A B u v D=> ?_)<|a.g;rw [d,u] at b;(revert b;refine aL λw=> ?_;subst w);rw [v] at j;cases j
    .rw [d,p] at b;exact aU b
  lim:=a.lim
  sys:=a.sys}
 hs:=λk o=>by
  cases d:k==cR with
  |false=>rfl
  |true=>refine ay (λE g=> ?_)<|a.sys;rw [fX.mp d] at o;rw [o] at g;exact aU g
theorem ai2(k:fJ n a d u)(l:br a d f)(m:am b c {e with toks:=t})(q:bp f n b p o)(r:c6.all fQ=X)
 (v:kt u c6 [.int a5] o c λg w=>bW (aI<|g.length<=1048576)<|s (.tup g) w):an (az aq ap) f (cQ (.Tuple (.Constant (.int a5) a2 A::c6) b8 e4) p) (bg b e s) aB e:=by
 refine NZ<|oF (OT ?_) O
 have x:am b c {e with toks:=e.toks+1}:=m.toks<|fT _
 have y:aH b e b {e with toks:=e.toks+1}:=aH.toks _ _ _
 refine bQ (rC k.E l r v x q) λg z B=> ?_
 obtain⟨D,S,E,K,h,L,i⟩:=B
 refine aA (λi P=> ?_)<|kQ i
 have j:dN z.heap D (.int a5 e.toks::g) (.int a5::E):= .cons (.int _ _) L
 exact FD (bg.trans (y.trans K)<|bg.alloc h h.tk (LF h j) P)<|by rw [j.length];exact iA i
theorem TX(u:jh n e6 a)(E:fJ n a d (bt e6 d))(v:br a (d+1) f)(w:am b c {e with toks:=t})(j:bp f n b p o)
 (K:∀h,(bt e6 d).E (.Constant (.int a5) a2 A) o c h=h (.int a5) c) (x:tH o c f7.iter= .enum (.Tuple (.Constant (.int a5) a2 A::c6) b8 e4)):oA n (bt e6<|d+1) f p o b c e (f7::d0):=by
 intro b6 b7 L h g Q P
 (revert L;refine gW λS T=> ?_;subst S;subst T)
 unfold iY at g
 rw [x] at g
 refine iC (λc0 c1 k l V=> ?_)<|LV x
 rw [l] at ⊢
 refine aA (λm Y=> ?_)<|cz g
 refine aA (λq Z=> ?_)<|cz (show bW _ _ from Y)
 rw [sy (by intros;simp)] at ⊢
 refine aJ<|tq u.gl w j V λc2 a0=> ?_
 rw [xh a0] at ⊢
 refine pc (c:=nu k<|nw [] p) (lb<|by simp [m]) O<|pg (lb<|by simp [m]) O ?_
 have a1:kt (bt e6 d) c6 [.int a5] o c _:=(K _).mp Z
 refine oF (bQ (ai2 (s:=λr y=>bW (Bz r)<|cm (xR y r) λi=>h (dW i.1) i.2 X y) E v.less w j ((wc ..).symm.trans q|>λg=>(fp.mp g).2) a1) λr a3 ⟨a4,a6,z,B,s,a7,a8⟩=>Ac<|wV ⟨.inr<|.inl ⟨_,O⟩,?_⟩)<|rl m
 refine aA (λa9 b0=> ?_)<|cz a8
 refine ac (λb1 l q=> ?_)<|cF b0;obtain⟨i,b2⟩:=b1
 have b3:xQ z:=by cases z<;>first|trivial|cases a9
 have D:=Cc (f:=f) v.hh u.hs s a7 b3 l
 rw [a9] at D
 exact Kb s D λb4 b5 k=>P b4 b5 a4 a3 a6 (dW i) b2 X B s (j.ext B) q k
theorem Px(b:ka c5 (Q v) A.line (gn o.scope)=dj ai)(a:xb u v c5 A o c Z):u.E c5 o c λd e=>rn (mB [v] c5<|gn o.scope) (Dq u v d o e<|Z .next):=by refine ac (λf c5 a=> ?_)<|ys a;cases c5.symm.trans b;exact a
theorem SL(i:jh n e6 a)(r:fJ n a d (bt e6 d))(s:ej n a (d+1) (bt e6<|d+1).E)(j:br a (d+1) f)(g:bp f n b p o)(t:oA n (bt e6 d) f p o b c e d0)
 (k:i7= .ListComp c5 d0 c8 A) (l:ka i7 (Q v) e4.line (gn o.scope)=dj ai) (h:xb (bt e6<|d+1) v i7 e4 o c Z):an (az aq ap) f (jX (.Assign [v] i7 e4) p) (dV b e Z) aB e:=by
 have h:=Px l h
 refine FQ g l ?_
 have u:(bt e6<|d+1).E (.ListComp c5 d0 c8 A) o c _:=k▸h
 have m:=Kt i.gl i.hs r j.less g (A:=A) t u
 rw [<-k] at m
 exact bQ m λD E w=>(by obtain⟨K,L,P,q,x,y,z⟩:=w;exact bQ (KD s j x (g.ext q) y z) λ_ _ B=>B.trans q)
theorem aa3(l:sr n a d u.S)(m:br a d f)(g:bp f n b p o)(q:∀r,u.S m7 o c r->an (az aq ap) f (jX m7 p) (dV b e r) aB e)(h:df u o d4 c Z):
 ∀{j:M cD},d4=m7::j->an (az aq ap) f (jY (m7::j) p) (dV b e Z) aB e:=by
 induction h with
 | @one E c Z h=>
  intro j k
  subst k
  have:=Dl (l7:=[]) (j:=Z) (Z:=Z) (λ_ _ _ w=>w) (λh i g=>by rw [cZ];exact tt l m h i g) g<|q _ h
  rwa [cZ] at this
 | @seq s K c r Z t x v y=>
  intro j k
  cases s with
  |nil=>exact y c t q k
  |cons L s=>
   (revert k;refine gW λz A=> ?_;subst z;subst A)
   exact Dl v (λh i g=>KC l m v (λb e B D i g=>KB l m (x B D) i g) h i g) g<|q _ t
theorem XW:ho (bI 74).names=({}:ev).l.map .cell:=by kernel_rfl
theorem YV:br 100 21 At:=⟨O,by decide+kernel,by decide+kernel⟩
theorem Wi(i:db)(k:g9.length<=63)(d:I)(g:br 100 20 f)(l:am b (eX d [] {script:=Q<|.lst (eB g9)} []) {e with toks:=a})(h:bp f X b p (dL d)):
 an (az aq ap) f (jY (bu 74) p) (dV b e λm n=>m= .ret (.bool X)/\rM n) aB e:=by
 have c:=i.top 100
 have j:=Wl i (ba 100) k d
 have o:bu 74=_::_:=O
 rw [o] at j ⊢
 refine aa3 (mf c 20).S g h (λr q=> ?_) j O
 refine SL c (mf c 18) (mf c 19).E g.less h ?_ O ?_ q
 .exact TX c (mf c 17) g.less.less l h (λ_=>O) O
 .kernel_rfl
theorem ah0(g:gY.heap.get? 140=Q (uq #[]))(h:I):am ⟨[Q 140],[]⟩ [.ctab h] {gY with toks:=1} where
 len:=O
 inj:=λa j c e d=>by have k:=fO e;have l:=fO d;have m:(⟨[Q 140],[]⟩:ar).l.length=1:=O;lia
 mo:=λa c n e d=>by
  cases a with
  |zero=>cases e;(revert d;refine aL λi=> ?_;subst i);exact⟨#[],g,eG,λo p f=>(by exact aU f)⟩
  |succ a=>cases a<;>exact aU d
 base:=TK
 out:=λa c b=>by
  cases a with
  |zero=>cases b;exact HT _ _
  |succ a=>cases a<;>exact aU b
 ex:=λa c b=>by
  cases a with
  |zero=>cases b;exact⟨_,g⟩
  |succ a=>cases a<;>exact aU b
 prv:=λc f=>(by cases f)
 tk:=zR
theorem jw.hole(a:jw gY.heap g5 k1)(e:gY.heap.get? 140=Q (uq #[])):jw bM g5 k1 where
 g:=CC a.g<|by decide
 b:=CC a.b<|by decide
 bb:=a.bb
 lim:=(by refine ac (λf g b=> ?_)<|a.lim;exact⟨f,CC g<|by decide,b⟩)
 sys:=(by refine ay (λh b=> ?_)<|a.sys;exact⟨h,(sN<|by decide).trans b⟩)
 bm:=let⟨i,j,k,l,c,d,m⟩:=a.bm
  ⟨i,j,k,l,(sN λn=>by rw [n,e] at c;(revert c;refine aL λo=> ?_;subst o);cases d).trans c,d,m⟩
theorem TQ{e:Al}:∀(a:M H) (d:M aa),WellAll e i d (ofPys<|a.map ju)->cb y c0 b d (eB a):=by
 intro f
 induction f with
 |nil=>exact λ_ c=>by cases c;exact .nil
 |cons k a g=>
  exact λ_ c=>by
   cases c with
   |cons h j=>cases h;exact .cons (.int _ _)<|g _ j
theorem XR(j:gY.heap.get? 140=Q (uq #[]))(k:wL gY.heap 142 140)(f:aH ⟨[Q 140],[]⟩ gY b e)(l:am b c e)(m:rM c):OldK gY.heap e.heap where
 old:=λd g a=>by
  by_cases h:d=140
  .subst h
   rw [j] at a;(revert a;refine aL λn=> ?_;subst n);revert m;refine ay λi o=> ?_;refine ac (λp q x=> ?_)<|l.mo 0 140 _ (f.at O) o;obtain⟨r,s,_,_,_,_,_,_,_,t,u,v,w,_⟩:=k
   exact .inr<|.inl ⟨⟨142,r,s,t,u,v,w⟩,O,#[],p,O,by rw [q,Array.empty_append]⟩
  .exact .inl<|f.keep d g (λi=>h<|wA (bU.mp i)) a
 there:=λd g a=>f.live d ⟨g,a⟩
theorem aA7:rR aq ap gY:=by
 intro i c6 c7 c8 d T j c9 d0 k w f g p x l V Y Z;have y:i.In bM:=TN f k.no;have a0:=(w.hole g).sysOf k y;have a1:wL bM 142 140:=OL y x;have q:=Nl.mp k.fs 74<|zu.mp O;obtain⟨a2,a3,a4,a5,a6,a7,r⟩:=Hw q
 obtain⟨a8,d1,d2,a9⟩:=Ih a2
 have b0:∀b1,nV i 143 b1 [.ref d] []=Q [((bC "script":I),mA d)]:=k.bs.all 74 (zu.mp O) [.ref d] [] _ ⟨O,O,O⟩;have b2:d≠140:=λc=>by rw [c,g] at l;cases l
 refine AC<|Fk (by decide+kernel) (f _ _ a9) O (by rw [r];rfl) (by rw [r];rfl) a3 (codeRec_of f a4) (kp_binds f b0 _ _ _ _ ?_);rw [a7,a5,a6,r,show(gE i<|gm 74).code=_ from p];generalize d3:(gE i<|gm 74).qualname++ ".<locals>."=c;refine xw (a:=1) (ah0 g<|c++bC "<lambda>") (l0:=[]) (g8:=[]) eG λb h z a b3 e m A=> ?_;have m:eK b z vm:=Wg▸m;rw [XW] at e;have e:am b (eX c [] {} []) {gY with heap:=h,toks:=1}:=e;obtain⟨B,b4,s⟩:=m.look (x:= "script") (i:=2) O
 have b5:h.IsCell B U:=e.mo 2 B (.cell U) s O;rw [qf];refine aJ<|aJ (Ph O (show(bI 74).names.lookup _=_ by kernel_rfl) b4 b5 λt u D=>bP ?_);dsimp only;rw [En];have a:aH ⟨[Q 140],[]⟩ gY b {gY with heap:=h}:=⟨a.le,a.pre,a.new,a.p,a.keep,a.live,a.gens,a.drawn,a.os⟩
 have E:aH b {gY with heap:=h} b {gY with heap:=t}:=aH.upd (e:={gY with heap:=h}) (n:=gY.toks) s (iF D)<|xk u;have K:bh b d:=e.fz0<|(sN b2).trans l;have b6:aR t b (.ref d) (.lst<|eB j):= .lst K ⟨0,E.keep d _ K.1<|b3 _ _ l⟩<|TQ j T V;have L:am b (eX c [] {script:=Q<|.lst (eB j)} []) {gY with heap:=t,toks:=1}:=e.upd (n:=1) zR s (iF D) (x:= .cell<|Q (.lst<|eB j)) ⟨_,u,b6⟩<|xk u;refine bP ⟨(w.hole g).lim.keeps L.base,Fl ?_⟩;have b7:∀n:bH,n=qA (bI 74) gY.heap.objs.size gC z c (Q 143) (.ref 142) U kG->bp (At.deeper n) X b n (dL c):=λn b8=>by subst b8;exact⟨λ_=>⟨_,_,O,O,by refine(?_:(bI 74).kind≠_);decide+kernel,A⟩,O,by refine(?_:(bI 74).kind=_);kernel_rfl,A,m,O,O,by refine(?_:(bI 74).names.lookup _=_);kernel_rfl,by refine(?_:(bI 74).names.lookup _=_);kernel_rfl,O,λa8 p=>by cases p;exact⟨142,140,O,a.at O,a1⟩⟩
 refine eO (Wi a0 Y c (YV.deep _) L<|b7 _ O) (λq P b9=> ?_) λ_ _ S=>S.elim;obtain⟨c0,d4,S,c1,c2,o,c3,c4⟩:=b9
 subst c3
 cases q with
 |ret c5=>have o:aR P.heap c0 c5 (.bool X):=o;have v:=(a.trans E).trans c1;cases o.bool_inv;exact Z P (XR g (OL f x) v c2 c4) v.os v.gens
 |_=>exact o.elim
end
end Mine.Internal
namespace Mine
open Internal (aD9 oB az1 az2 az9 aA2 aA4 aA1 aA0 aA3 aA8 aA6 aA7)
open PySem.W PyProof.Rows
set_option maxRecDepth 100000
set_option maxHeartbeats 0
set_option tactic.hygienic true
set_option backward.match.sparseCases true
set_option Elab.async true
theorem Wsd:OpenLaw.wellSaid PySem.Challenge.rw_ta0056_01=true:=by decide+kernel
def head.tw15899327536428893483:=trivial
def head.tw3465064662683536298:=trivial
def head.tw14060760679496233864:=trivial
def head.tw9156576673233372030:=trivial
def head.tw4964814941381164201:=trivial
def head.tw1702933206250710812:=trivial
def head.tw15064752311394979489:=trivial
def head.tw15436542981012472205:=trivial
def head.tw16643138836878064090:=trivial
def head.tw3705715687155352987:=trivial
def head.tw12310735299239354703:=trivial
def head.tw14527164170590304321:=trivial
def head.tw10963595841782760012:=trivial
def head.tw3991279037241028524:=trivial
def head.tw5986637957666399235:=trivial
def head.tw9984397402777080727:=trivial
def head.tw7008484584887379091:=trivial
def head.tw17619409864816609055:=trivial
def head.tw69809265629811306:=trivial
def head.tw8535708456716222715:=trivial
def head.tw4415685298772064003:=trivial
def head.tw2763732531030840241:=trivial
def head.tw10859463404808194613:=trivial
def head.tw17231163491568877062:=trivial
def head.tw13086575352542018947:=trivial
def head.tw11124748197601291601:=trivial
def head.tw14512941343882779238:=trivial
def head.tw11439149762140341726:=trivial
def head.tw13412022041919118725:=trivial
def head.tw3561143885260667322:=trivial
def head.tw15149402430504572791:=trivial
def head.tw3700403586152167814:=trivial
def head.tw17332727794074296334:=trivial
def head.tw8402214883040486957:=trivial
def head.tw5092371620264689978:=trivial
def head.tw8219034294630437252:=trivial
def head.tw16803631020007951625:=trivial
def head.tw14399547728238965215:=trivial
def head.tw12740806245664736207:=trivial
def head.tw16817119741492734445:=trivial
def head.tw14788773977795034992:=trivial
def head.tw17142359554024780413:=trivial
def head.tw10010264046613662565:=trivial
def head.tw14699756766385990792:=trivial
def head.tw15782939476341012554:=trivial
def head.tw11862927689305589065:=trivial
def head.tw13078646160514809887:=trivial
def head.tw5599997604879368025:=trivial
def head.tw13954853420313727417:=trivial
def head.tw2393098407364606883:=trivial
def head.tw18007968972792079559:=trivial
def head.tw4972248218790579157:=trivial
def head.tw12264792733140247891:=trivial
def head.tw14547535633828118030:=trivial
def head.tw17212568112599259466:=trivial
def head.tw13896987355042952010:=trivial
def head.tw3083302935323014018:=trivial
def head.tw17525636777796739105:=trivial
def head.tw768292572143277422:=trivial
def head.tw1324860043992469700:=trivial
def head.tw6388477656530123435:=trivial
def head.tw9746458257258439470:=trivial
def head.tw5651425540991249520:=trivial
def head.tw12604462930493870256:=trivial
def head.tw3501597964444990463:=trivial
def head.tw11426403942048686318:=trivial
def head.tw9049860558728565481:=trivial
def head.tw15037083628117588352:=trivial
def head.tw12921858870386250864:=trivial
def head.tw10079960370226730655:=trivial
def head.tw8874674299285249911:=trivial
def head.tw12820901002040952943:=trivial
def head.tw12704426703380559182:=trivial
def head.tw11105056867450500199:=trivial
def head.tw16128420640991077102:=trivial
def head.tw2869645488183595071:=trivial
def head.tw15371952487031795287:=trivial
def head.tw7802898811600756450:=trivial
def head.tw5629256929840616583:=trivial
def head.tw5889021280877657681:=trivial
def head.tw10356212845559719233:=trivial
def head.tw14393718171448925343:=trivial
def head.tw9074772780463953568:=trivial
def head.tw6889739017440866108:=trivial
def head.tw15706118173409862346:=trivial
def head.tw3581614266968435656:=trivial
def head.tw6737735255597943219:=trivial
def head.tw6189263338575807145:=trivial
def head.tw11487238210004279548:=trivial
theorem head:PySem.Challenge.rw_ta0056_01.Holds:=by
 w_on
 refine holds_law Wsd λsaid=> ?_
 k_head
 case hw=>w_witness2
 k_fill
 intro w s₀ s₁ mg mb G Y fa o pm cd doc dV kV ho hd hcd hD hmg hg args vals as hpre hlay hrd hwl hlo
 clear ho hd hcd hD o pm cd doc dV kV
 have KX:=km_in_of Y
 have hT:=km_tabs_of Y 140 (.head _)
 have T:=aD9 G.T (by decide+kernel)
 clear G Y
 wrow_args hpre hlay hrd hwl hlo
 rename_i scr _ _ _ _ _ _ _ la _ _ _ _ w1 _ _ _ hl _
 have k:oB w (head.heap_1_1 w.params):=
 {
  dc:=by kernel_rfl
  no:=by kernel_rfl
  fs:=by kernel_rfl
  bs:= .cons (az1 (λu v S=>by kernel_rfl) (λu v k S=>by kernel_rfl) (λu v l S=>by kernel_rfl) (λu v l r S=>by kernel_rfl) (λu v l r k S=>by kernel_rfl))<| .cons (az1 (λu v S=>by kernel_rfl) (λu v k S=>by kernel_rfl) (λu v l S=>by kernel_rfl) (λu v l r S=>by kernel_rfl) (λu v l r k S=>by kernel_rfl))<| .cons (az1 (λu v S=>by kernel_rfl) (λu v k S=>by kernel_rfl) (λu v l S=>by kernel_rfl) (λu v l r S=>by kernel_rfl) (λu v l r k S=>by kernel_rfl))<| .cons (az1 (λu v S=>by kernel_rfl) (λu v k S=>by kernel_rfl) (λu v l S=>by kernel_rfl) (λu v l r S=>by kernel_rfl) (λu v l r k S=>by kernel_rfl))<| .cons (az2 (λu S=>by kernel_rfl))<| .cons (az2 (λu v S=>by kernel_rfl))<| .cons (az2 (λu S=>by kernel_rfl))<| .cons (az2 (λu S=>by kernel_rfl))<| .cons (az2 (λu S=>by kernel_rfl))<| .cons (az2 (λu S=>by kernel_rfl))<| .cons (az2 (λu v t S=>by kernel_rfl))<| .cons (az2 (λu v S=>by kernel_rfl))<| .cons (az2 (λu v t S=>by kernel_rfl))<| .cons (az2 (λu v t r S=>by kernel_rfl))<| .cons (az2 (λu v S=>by kernel_rfl))<| .cons (az2 (λu v t r m S=>by kernel_rfl))<| .cons (az2 (λu v t S=>by kernel_rfl))<| .cons (az2 (λu S=>by kernel_rfl))<| .nil
  gl:= .cons (az9 .len (by kernel_rfl) (by decide) (by kernel_rfl))<| .cons (aA2 (by kernel_rfl))<| .cons (aA2 (by kernel_rfl))<| .cons (aA2 (by kernel_rfl))<| .cons (aA2 (by kernel_rfl))<| .cons (aA2 (by kernel_rfl))<| .cons (aA2 (by kernel_rfl))<| .cons (aA2 (by kernel_rfl))<| .cons (aA2 (by kernel_rfl))<| .cons (aA2 (by kernel_rfl))<| .cons (aA2 (by kernel_rfl))<| .cons (aA2 (by kernel_rfl))<| .cons (aA2 (by kernel_rfl))<| .cons (aA2 (by kernel_rfl))<| .cons (aA2 (by kernel_rfl))<| .cons (aA2 (by kernel_rfl))<| .cons (aA2 (by kernel_rfl))<| .cons (aA2 (by kernel_rfl))<| .cons (aA4 256 (by kernel_rfl))<| .cons (aA1 370 (by kernel_rfl))<| .cons (aA1 272 (by kernel_rfl))<| .cons (aA0 65 (by kernel_rfl) (by kernel_rfl) (by kernel_rfl) (by kernel_rfl) (by decide))<| .cons (az9 .enumerate (by kernel_rfl) (by decide) (by kernel_rfl))<| .cons (az9 .sum (by kernel_rfl) (by decide) (by kernel_rfl))<| .cons (az9 .list (by kernel_rfl) (by decide) (by kernel_rfl))<| .cons (az9 .range (by kernel_rfl) (by decide) (by kernel_rfl))<| .cons (az9 .iter (by kernel_rfl) (by decide) (by kernel_rfl))<| .cons (az9 .next (by kernel_rfl) (by decide) (by kernel_rfl))<| .cons (az9 .max (by kernel_rfl) (by decide) (by kernel_rfl))<| .cons (az9 .sorted (by kernel_rfl) (by decide) (by kernel_rfl))<| .cons (az9 .zip (by kernel_rfl) (by decide) (by kernel_rfl))<| .cons (az9 .str (by kernel_rfl) (by decide) (by kernel_rfl))<| .cons (aA3 (by kernel_rfl) (by decide) (by kernel_rfl))<| .nil}
 exact aA8 (aA6 aA7) k T KX hT (by kernel_rfl) (by kernel_rfl) (by kernel_rfl) hmg w1 hl λs' a b c=>⟨.inl ⟨_,.bool true,[],rfl,λ_=>rfl,.bool true,by kernel_rfl,λ_=>⟨.nil,nofun⟩⟩,a,b,.of_eq (c.trans hg)⟩
end Mine
end
theorem PySem.Challenge.cw_ta0056_01_holds : PySem.Challenge.rw_ta0056_01.Holds :=
 Mine.head
