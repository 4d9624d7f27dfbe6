import PyProof.Rows.All
import Wide.All
import OpenK.AllK
import Wide.FinOn
import KE.KEqDat
import Lean
import PySem.Challenge.RW_tc0009_02
set_option genSizeOf false
set_option genInjectivity false
set_option linter.all false
set_option bootstrap.genMatcherCode false
set_option tactic.hygienic false
set_option Elab.async false
set_option maxRecDepth 100000
set_option backward.match.sparseCases false
namespace Mine
open PySem PySem.Spec PySem.Calls PyProof.Rows PySem.W
open _root_.Array renaming getElem?_eq_some_iff->u6,empty_append->Rh
open _root_.Bool renaming and_eq_true->bF,casesOn->d8,false_eq_true->ey,false_ne_true->iZ,and_eq_true_iff->jT,not_eq_true'->kz,eq_iff_iff->nX,and_true->sn,or_eq_true->vh,or_eq_false_iff->Dk,true_and->Dn,false_or->DD,or_self->Ek,and_false->Sd
open _root_.Eq renaming symm->eh
open _root_.ForIn renaming forIn->lA
open _root_.ForInStep renaming yield->mN
open _root_.Function renaming comp_def->RL
open _root_.HAdd renaming hAdd->Da
open _root_.Iff renaming symm->Sk
open _root_.Int renaming natCast_nonneg->c7,ofNat_le->ej,le_trans->fL,toNat_natCast->gb,toNat->hG,fmod->jq,lt_of_le_of_lt->lj,not_lt->mB,ofNat_lt->oh,max_eq_right->xW,lt_of_lt_of_le->xY,max_eq_left->C7,eq_ofNat_of_zero_le->Eb,natCast_sub->Et,fdiv->PK,le_of_lt->PL,toNat_le->PM,ofNat_ne_zero->PO,toNat_sub->PP,toNat_of_nonneg->P0,le_max_left->Qh,fdiv_eq_ediv_of_nonneg->Rr,natAbs_natCast->RA,ofNat_eq_natCast->RB,le_refl->RJ
open _root_.LawfulBEq renaming eq_of_beq->bh
open _root_.List renaming mem_cons->av,casesOn->aP,mem_append->bo,length_map->bx,not_mem_nil->bz,mem_append_left->bI,mem_append_right->bO,mem_cons_of_mem->cg,length_append->ci,range->cL,lookup_cons->cM,mem_singleton->cN,map_cons->cS,all_eq_true->c9,mem_map->dG,lookup->d9,getElem?_eq_getElem->el,map_map->fj,range'->fm,intercalate->fq,replicate->fH,length_drop->fM,append_assoc->gP,mem_range->hU,length->iB,getElem?_map->iG,sum_cons->iI,length_range->i4,mem_cons_self->js,getD_eq_getElem?_getD->ju,append_nil->jw,filterMap_cons->kv,mem_filter->lp,drop_eq_getElem_cons->lz,mem_of_getElem?->lG,mem_map_of_mem->mG,all_cons->mM,drop_drop->mO,mem_range'_1->mT,flatten_cons->nV,take_length->n0,mem_reverse->oa,map_append->on,filter_cons->pH,nodup_cons->pN,any_cons->pO,getElem?_eq_some_iff->pU,length_take->pV,length_cons->pZ,getElem_mem->rR,forIn_cons->rS,prefix_iff_eq_take->si,isPrefixOf_iff_prefix->sj,isSuffixOf_iff_suffix->sk,cons_ne_nil->sm,map_congr_left->so,getD->uJ,getElem?_eq_none->uK,nodup_nil->uQ,forIn_nil->uS,drop_zero->uT,take_of_length_le->uU,nil_append->uX,map_reverse->u0,cons_append->vd,length_pos_iff->vf,length_nil->vj,all_append->vm,length_filter_le->vo,length_eq_zero_iff->xV,drop_length->yp,eq_of_mem_replicate->yC,take_zero->yD,mem_of_mem_drop->yE,mem_of_mem_take->yF,getElem?_drop->yI,take_left->yJ,replicate_succ->Dm,getElem?_range->Dt,head?_drop->DJ,any_eq_false->DK,mem_filterMap->DL,mem_of_find?_eq_some->Ea,map->Ee,suffix_iff_eq_drop->Ef,drop_left->Ei,any_nil->Ej,flatMap_append->El,range'_succ->Eo,nil_sublist->Er,length_take_le'->Eu,take->PW,size_toArray->Qb,mem_iff_getElem->Qg,getElem?_toArray->Qu,zipIdx_cons->Qx,zipIdx_nil->Qy,findIdx?_cons->QL,eraseIdx_eq_take_drop_succ->Q5,drop_eq_nil_iff->Rg,isEmpty_cons->Ri,take_add->Rw,find?_some->Rz,drop_take->RH,getElem?_take->RI,flatten_nil->RM,flatten_append->RN,drop_eq_nil_of_le->RO,filter_eq_nil_iff->RU,singleton_append->RV,flatMap_cons->RW,mem_flatMap->RX,length_dropLast->RY,dropLast_subset->RZ,getLast_mem->R3,dropLast_concat_getLast->R4,isPrefixOf->R6,map_id->R7,take_append_drop->Sa,all_map->Sb,length_range'->Sc,getElem_of_mem->Sh,take_succ->Si,pairwise_cons->Sl,forall_mem_cons->Sp
open _root_.List.Perm renaming eq_of_pairwise->Tq
open _root_.List.Sublist renaming cons_cons->Tn
open _root_.Max renaming max->ew
open _root_.Min renaming min->fg
open _root_.Nat renaming le_trans->al,le_refl->bf,lt_of_lt_of_le->b9,ble_eq_true_of_le->dg,le_add_left->dv,le_of_lt->dE,add_le_add_right->d7,lt_of_le_of_lt->eN,casesAuxOn->e8,zero_add->e9,add_le_add_left->fh,le_add_right->fI,mod_lt->gf,add_le_add->gN,le_of_eq->iA,zero_le->iE,add_comm->iW,blt->iY,lt_succ_self->i0,le_of_ble_eq_true->jt,le_of_lt_succ->jS,sub_le->kt,ne_of_lt->ku,ne_of_gt->kA,add_mul->kD,mul_le_mul->kE,min_eq_left->lh,le_antisymm->lH,ble->my,add_assoc->mA,le_succ->mD,add_sub_of_le->nT,le_of_succ_le->nZ,one_mul->og,succ->pD,mul_le_mul_left->pE,noConfusion->pM,not_lt_of_le->pP,succ_ne_zero->rH,mul_le_mul_right->rJ,le_of_not_lt->rK,div_le_self->uD,not_lt->uH,le_succ_of_le->uZ,pow_add->u8,two_pow_pos->u9,succ_pos->ve,sub_le_sub_right->xX,lt_of_succ_le->x8,lt_succ_of_lt->x9,succ_le_succ->yu,div_eq_of_lt->yz,pow_le_pow_right->yB,add_sub_cancel_left->yG,testBit_two_pow->yL,zero_testBit->yM,lt_of_succ_lt->yO,succ_add_eq_add_succ->C8,mul_succ->C9,div_add_mod->Db,lt_irrefl->De,pos_of_ne_zero->Dp,eq_of_testBit_eq->DZ,mod_eq_of_lt->D1,sub_zero->D5,sub_self->D6,mul_assoc->D7,add_right_comm->Eg,testBit_two_pow_mul->Em,mul_one->En,lt_or_ge->Ep,max_le->Ew,sub_one_lt_of_lt->PQ,add_right_cancel->PR,lt_of_not_le->PS,not_lt_zero->PT,le_sub_of_add_le->PU,mul_comm->P4,succ_le_of_lt->Qw,not_lt_of_lt->QH,succ_ne_self->QI,testBit_and->Rp,ge_two_pow_of_testBit->RP,mul_add->RQ,add_sub_cancel->RS,testBit_mod_two_pow->RT,le_sub_one_of_lt->R5,ble_eq->R8,pow_lt_pow_right->Se
open _root_.Nat.ToInt renaming of_diseq->PN
open _root_.Nat.succ renaming inj->kq
open _root_.Ne renaming symm->cC
open _root_.Option renaming casesOn->bW,map_eq_some_iff->gy,isSome_none->yk,bind_eq_some_iff->Do
open _root_.Option.some renaming inj->kr,injEq->QX
open _root_.PUnit renaming unit->yx
open _root_.Prod.mk renaming inj->DO,injEq->D2
open PyProof.Rows renaming recsOf->lE,IntsAre->rO,bitXor_and->Rq,getItem_str->SM,neg_int->SS,iadd_int->SV,isub_int->SW,ixor_int->SX
open PyProof.V renaming FlatPairs->vg,Flat->Ry,same_int->Tg
open PySem renaming Expr->ab,Shared->ae,wpAny_bind->ak,wpAny->aq,model->aw,wpAny_mono->aA,eval->aG,Stmt->aL,Around->aO,wpAny_pure->aS,Sem->bw,starEach->bY,backTo->bZ,Comprehension->c8,Tok->df,execs->dw,mainGlobals->dF,exec->dR,standAt->ea,wpAny_standAt->eb,Obj->ek,cellsFrom->em,spliced->ez,wpAny_holding->fi,Flow->fk,NameKind->fK,pyNext->f8,pyIter->f9,strIterType->ga,FuncData->gz,assignEach->gO,wpAny_execs_cons->gQ,rawInt->hH,sliceBounds->hJ,IsZip->hM,World->iC,seqIndex?->iD,callWith->iH,assign->jv,storeName->jU,IsPart->jV,wpAny_field->jW,swappedStores->jX,builtinsNs->kx,compareOp->lq,strValues->lr,fromIndex->lx,letOwnedTupleGo->ly,codeAny->lB,bindArgs->lC,Code->lD,Operator->mz,sliceRange->mF,call_meets->mH,getMethod->mI,numAt->mK,field->mL,pushCells->mP,constantsAlone->mQ,foldedForSure->mR,Frame->mS,CmpOp->nS,typeIs_str->nY,wpAny_seqItems->n9,interactive->od,OldK->pF,IsEnum->pK,wpAny_newObj_type->pL,assignInOrder->pQ,foldedSetIterable->pR,ExcName->pW,intKind->pX,wpAny_pyIter_list->rQ,evalEach->rT,methodCallPos->rU,compTurn->rV,Result->rW,pushCells_keeps->rX,closureFor->rY,cellOf->rZ,newFunctionEnv->r0,swapsWith->sa,wpAny_execs_nil->sb,wpAny_Return_some->sd,Model->se,GenState->sf,Arguments->sg,clipAt->sq,operate->uG,Builtin->uI,wpAny_pyIter_enum->uL,wpAny_callSpecial?_slot->uM,wpAny_call_entry->uN,wpAny_rule->uO,wpAny_setField_rec->uR,boolOp->uV,noteFrame->uW,firstAsync->uY,bindName->u4,intBits_le_iff->u7,wpAny_point->x3,typeIs_int->x4,getItem->x5,preSum->x7,wpAny_loadPart'->ya,newExc->yd,firstArgMember->ye,wpAny_pyIter_zip->yg,wpAny_onRaise->yi,evalPart->yl,methodCall->ym,methodCallForm->yn,theTreesLotGoes->yo,codeAny_mono->yq,wpAny_alloc->yr,wpAny_layCells->yt,assignAll->yv,wpAny_Expr->yw,splitAtGen->yy,baseText->Dh,release->Di,binaryOp->Dj,numbered->Dq,numbered_texts->Dr,strsFrom_eq->Ds,wpAny_of_eq->Dv,wpAny_pyIter_tuple->Dx,wpAny_nextOf_list_item->Dy,wpAny_letGo->Dz,wpAny_attempt->DA,evalArgs->DE,unpackItems->DF,wpAny_assign_Name->DG,attributeBase->DH,runOwn->DI,firstIter->DM,assignStores->DN,wpAny_call->DR,leafOf->DS,yieldOut->DT,leaving->DU,setGen_self->DX,qualnameIn->D4,bootBuiltins->D8,sysModules->D9,callerA->Ec,wpAny_cellOf->PX,meets_str_split_sep->Qc,meets_str_split_not_found->Qd,meets_str_split_cannot_occur->Qe,call_gives->Qf,rule->Qi,wpAny_pyNext_list_item->Qj,wpAny_pyNext_list_end->Qk,wpAny_setField->Qo,wpAny_handled->Qq,wpAny_throw->Qr,callType_new->Qt,wpAny_letOwnedTupleGo_zip->Qv,wpAny_isInstance->QC,isSubtype_stop->QD,call_enumerate_str->QJ,wpAny_specialOf->QK,wpAny_assign_Tuple->QM,subscripted->QN,wpAny_BinOp->QP,markedBehindIn->QQ,wpAny_List->QR,wpAny_Tuple->QS,eval_Subscript->QT,importBound->QU,wpAny_list_append_plain->QW,wpAny_comprehension_free->QY,evalThenUse->QZ,wpAny_Assign_Name->Q0,wpAny_bindName->Q2,swapsWithSole->Q3,getMethod_builtin->Q4,codeAny_forLoop_any->Q6,codeAny_call_function->Q7,codeAny_func->Q8,slot_gen_next->Ra,wpAny_newTextTuple->Rj,wpAny_builtinsFor->Rm,wpAny_nsGet->Rn,execs_cons->Rs,intKind_is->RF,sliceBounds_plain->Sj
open PySem.AutoIntG2 renaming int_bit_length_int_0->Te
open PySem.AutoIntOps renaming rshift_1->SI,rshift_2->SJ
open PySem.BoolOp renaming And->yN,Or->R9
open PySem.Builtin renaming bitXor->rI,bitAnd->uC,divisionGoesByPylong->PY
open PySem.Builtin.Generator renaming genWake->Rc
open PySem.Builtin.Int renaming intBits->bX,intTooBig->SD
open PySem.Builtin.List renaming listFitsIndex->P6,listTooLong->SH
open PySem.Builtin.SmallTypes renaming nextOf->n7,ownedTupleIsFree->yh,calledThroughType->Qs,ownedTupleHandOut->Qz
open PySem.Builtin.Str renaming occurrences->jr,strKind->mJ,spaceWords->uF,partsBetween->x6,strSub->yH,strSliceIndices->Es,tooLong->PZ,subAt->Ti
open PySem.Calls renaming docDef->oj,callWith_function->QG
open PySem.Expr renaming casesOn->bE,Name->Q1,Call->Tp
open PySem.F renaming slot_str_split->pI,entry_str_split->pJ,args_str_split_2->rP,slot_tuple_iterator_next->yb,slot_zip_next->yj,slot_int_rmul->P5,entry_tuple_iterator_next->Qm,args_tuple_iterator_next_1->Qn,entry_zip_next->QA,args_zip_next_1->QB,slot_int_bit_length->Rv,slot_list_add->SE,entry_list_add->SF,args_list_add_2->SG,owner_object->SN,slot_list_getitem->SP,slot_tuple_getitem->SQ,slot_str_getitem->SR,plainAttrs_list->SY,slot_list_append->SZ,type_list_append->Ta
open PySem.Flow renaming casesOn->pS,ret->DQ
open PySem.Frame renaming guarded->Re
open PySem.FuncBody renaming stmts->Th
open PySem.GenOnly renaming setGen->Rd
open PySem.Heap renaming get?_push_of_some->cG,get?_push_size->dH,lt_size->fJ,size_push->iF,SameBut->iX,ExtBut->n4,IsTuple->Dd,get?_update_self->Du,IsList->DB
open PySem.Heap.IsList renaming push->DC
open PySem.Heap.SameBut renaming update->yc,refl->SO
open PySem.Heap.TableAt renaming isCodeTable->Tc
open PySem.Keeper renaming machine->QE
open PySem.NameKind renaming free->jx,cell->pG,casesOn->xZ,globalExplicit->yA,globalImplicit->Sy
open PySem.Obj renaming mapSeq->uP,data_mapFields->Qp
open PySem.OldK renaming staticOf_congr->Df
open PySem.Operator renaming casesOn->P7
open PySem.PyData renaming int->pY,list->RC
open PySem.ReadsAll renaming nil->SK,cons->SL
open PySem.ScopeKind renaming function->SA,casesOn->SU,module->Td
open PySem.Sem renaming wrap_wrap->jy,bind_eq_wrap'->kB,onRaise_eq_wrap->DV,bind_eq_wrap->DW,wp->D3,wrap_congr->Q9,wp_bind'->Rt,wp_mono->Ru
open PySem.SeqAt renaming shaped->Qa
open PySem.Shared renaming heap->yf
open PySem.Spec renaming lookup->Rx,same->Tf
open PySem.Stmt renaming Expr->To
open PySem.Str renaming ofString->ag,join->Eh,length->RG
open PySem.StrLaws renaming seqIndex_nonneg->yK,seqIndex_neg->RK,glued_eq_join->Tj,join_length_le->Tk,joinTotal->Tl
open PySem.Txt renaming contains->iz,words->ky,slice->ll,join->rL,startswith->x1,endswith->x2,mul->C6
open PySem.Value renaming casesOn->nU,ref->n8,str->Ql
open PySem.W renaming nsIn->lF,tabObj->mE,kqdP->rM,CodeHd->uE,ofPy->vi,fnMade->DY,ns_none_of->RE,codeHd_of_K->Sq
open PySem.W.Dat renaming list->P8,int->P9
open PySem.W.Hook renaming obs->Sn,val->So
open PySem.W.RowW renaming records->Sm
open PySem.W.WData renaming bool->RD
open PySem.W.WTm renaming value->Ed
theorem fx {A B C:Prop} (a:A) (b:B) (c:C):A/\B/\C:=⟨a,b,c⟩
theorem i9 {A B C D:Prop} (a:A) (b:B) (c:C) (d:D):A/\B/\C/\D:=⟨a,b,c,d⟩
theorem wx {A B C D E:Prop} (a:A) (b:B) (c:C) (d:D) (e:E):A/\B/\C/\D/\E:=⟨a,b,c,d,e⟩
theorem tR {A B C D E F:Prop} (a:A) (b:B) (c:C) (d:D) (e:E) (f:F):A/\B/\C/\D/\E/\F:=⟨a,b,c,d,e,f⟩
theorem az {α:Sort _} {A B:α->Prop} (x:α) (a:A x) (b:B x):∃x,A x/\B x:=⟨x,a,b⟩
theorem io {α:Sort _} {A B C:α->Prop} (x:α) (a:A x) (b:B x) (c:C x):∃x,A x/\B x/\C x:=⟨x,a,b,c⟩
theorem pt {α:Sort _} {A B C D:α->Prop} (x:α) (a:A x) (b:B x) (c:C x) (d:D x):∃x,A x/\B x/\C x/\D x:=⟨x,a,b,c,d⟩
theorem uf {α:Sort _} {β:Sort _} {A:α->β->Prop} (x:α) (y:β) (a:A x y):∃x y,A x y:=⟨x,y,a⟩
theorem gE {α:Sort _} {β:Sort _} {A B:α->β->Prop} (x:α) (y:β) (a:A x y) (b:B x y):∃x y,A x y/\B x y:=⟨x,y,a,b⟩
theorem gF {α:Sort _} {β:Sort _} {A B C:α->β->Prop} (x:α) (y:β) (a:A x y) (b:B x y) (c:C x y):∃x y,A x y/\B x y/\C x y:=⟨x,y,a,b,c⟩
theorem Ag {α:Sort _} {β:Sort _} {A B C D:α->β->Prop} (x:α) (y:β) (a:A x y) (b:B x y) (c:C x y) (d:D x y):∃x y,A x y/\B x y/\C x y/\D x y:=⟨x,y,a,b,c,d⟩
theorem j4 {α:Sort _} {β:Sort _} {A B C D E:α->β->Prop} (x:α) (y:β) (a:A x y) (b:B x y) (c:C x y) (d:D x y) (e:E x y):∃x y,A x y/\B x y/\C x y/\D x y/\E x y:=⟨x,y,a,b,c,d,e⟩
theorem KD {α:Sort _} {β:Sort _} {A B C D E F G:α->β->Prop} (x:α) (y:β) (a:A x y) (b:B x y) (c:C x y) (d:D x y) (e:E x y) (f:F x y) (g:G x y):∃x y,A x y/\B x y/\C x y/\D x y/\E x y/\F x y/\G x y:=⟨x,y,a,b,c,d,e,f,g⟩
theorem Ox {α:Sort _} {β:Sort _} {γ:Sort _} {A B:α->β->γ->Prop} (x:α) (y:β) (z:γ) (a:A x y z) (b:B x y z):∃x y z,A x y z/\B x y z:=⟨x,y,z,a,b⟩
theorem EW {α:Sort _} {β:Sort _} {γ:Sort _} {A B C:α->β->γ->Prop} (x:α) (y:β) (z:γ) (a:A x y z) (b:B x y z) (c:C x y z):∃x y z,A x y z/\B x y z/\C x y z:=⟨x,y,z,a,b,c⟩
theorem ww {α:Sort _} {β:Sort _} {γ:Sort _} {A B C D:α->β->γ->Prop} (x:α) (y:β) (z:γ) (a:A x y z) (b:B x y z) (c:C x y z) (d:D x y z):∃x y z,A x y z/\B x y z/\C x y z/\D x y z:=⟨x,y,z,a,b,c,d⟩
theorem jl {α:Sort _} {β:Sort _} {γ:Sort _} {A B C D E:α->β->γ->Prop} (x:α) (y:β) (z:γ) (a:A x y z) (b:B x y z) (c:C x y z) (d:D x y z) (e:E x y z):∃x y z,A x y z/\B x y z/\C x y z/\D x y z/\E x y z:=⟨x,y,z,a,b,c,d,e⟩
theorem IC {α:Sort _} {β:Sort _} {γ:Sort _} {A B C D E F G:α->β->γ->Prop} (x:α) (y:β) (z:γ) (a:A x y z) (b:B x y z) (c:C x y z) (d:D x y z) (e:E x y z) (f:F x y z) (g:G x y z):∃x y z,A x y z/\B x y z/\C x y z/\D x y z/\E x y z/\F x y z/\G x y z:=⟨x,y,z,a,b,c,d,e,f,g⟩
theorem Mm {α:Sort _} {β:Sort _} {γ:Sort _} {δ:Sort _} {A B C D:α->β->γ->δ->Prop} (x:α) (y:β) (z:γ) (w:δ) (a:A x y z w) (b:B x y z w) (c:C x y z w) (d:D x y z w):∃x y z w,A x y z w/\B x y z w/\C x y z w/\D x y z w:=⟨x,y,z,w,a,b,c,d⟩
theorem Ai {α:Sort _} {β:Sort _} {γ:Sort _} {δ:Sort _} {A B C D E:α->β->γ->δ->Prop} (x:α) (y:β) (z:γ) (w:δ) (a:A x y z w) (b:B x y z w) (c:C x y z w) (d:D x y z w) (e:E x y z w):∃x y z w,A x y z w/\B x y z w/\C x y z w/\D x y z w/\E x y z w:=⟨x,y,z,w,a,b,c,d,e⟩
theorem ac {α:Type} {x:α} {C:Prop} (h:Option.none=some x):C:=nomatch h
theorem aZ {C:Prop} (h:false=true):C:=nomatch h
theorem dz {C:Prop} (h:true=false):C:=nomatch h
@[elab_as_elim] theorem aX {α:Sort u} {motive:α->Prop} (a:α) (h:∀x,motive x):motive a:=h a
@[elab_as_elim] theorem cn {α:Sort u} {motive:α->Prop} (a:α) (h:∀x,a=x->motive x):motive a:=h a rfl
@[elab_as_elim] theorem aa {α:Sort u} {motive:α->Prop} {a b:α} (h:a=b) (k:motive b):motive a:=h▸k
@[elab_as_elim] theorem aH {α:Sort u} {motive:α->Prop} {a b:α} (h:b=a) (k:motive b):motive a:=h▸k
theorem fm_ {α:Type} {P:α->Prop} {a:α} {l:List α} (h:P a) (t:∀b∈l,P b):∀b∈a::l,P b:=λb hb=>(av.mp hb).elim (λq=>q▸h) (t b)
theorem j3 {α:Type} {P:α->Prop}:∀b∈([]:List α),P b:=λζ q=>nomatch q
theorem me {α:Type} {a c:α} {l:List α} (h:c∉a::l):c≠a/\c∉l:=⟨λq=>h (q▸.head _),λq=>h (.tail _ q)⟩
theorem ni_ {α:Type} {a c:α} {l:List α} (h:c≠a) (t:c∉l):c∉a::l:=λq=>(av.mp q).elim h t
theorem wM {α:Type} {c:α}:c∉([]:List α):=λq=>nomatch q
theorem be {a b:Prop} {G:Prop} (h:a/\b) (k:a->b->G):G:=k h.1 h.2
theorem aE {α:Sort _} {a:α->Prop} {G:Prop} (h:∃x,a x) (k:∀x,a x->G):G:=h.elim λx h=>k x h
theorem aI {a b c:Prop} {G:Prop} (h:a/\b/\c) (k:a->b->c->G):G:=k h.1 h.2.1 h.2.2
theorem ah {α:Sort _} {a b:α->Prop} {G:Prop} (h:∃x,a x/\b x) (k:∀x,a x->b x->G):G:=h.elim λx h=>k x h.1 h.2
theorem jJ {α:Sort _} {β:Sort _} {a:α->β->Prop} {G:Prop} (h:∃x,∃y,a x y) (k:∀x,∀y,a x y->G):G:=h.elim λx h=>h.elim λy h=>k x y h
theorem gq {a b c d:Prop} {G:Prop} (h:a/\b/\c/\d) (k:a->b->c->d->G):G:=k h.1 h.2.1 h.2.2.1 h.2.2.2
theorem bB {α:Sort _} {a b c:α->Prop} {G:Prop} (h:∃x,a x/\b x/\c x) (k:∀x,a x->b x->c x->G):G:=h.elim λx h=>k x h.1 h.2.1 h.2.2
theorem bR {α:Sort _} {β:Sort _} {a b:α->β->Prop} {G:Prop} (h:∃x,∃y,a x y/\b x y) (k:∀x,∀y,a x y->b x y->G):G:=h.elim λx h=>h.elim λy h=>k x y h.1 h.2
theorem i5 {α:Sort _} {β:Sort _} {γ:Sort _} {a:α->β->γ->Prop} {G:Prop} (h:∃x,∃y,∃z,a x y z) (k:∀x,∀y,∀z,a x y z->G):G:=h.elim λx h=>h.elim λy h=>h.elim λz h=>k x y z h
theorem ty {a b c d e:Prop} {G:Prop} (h:a/\b/\c/\d/\e) (k:a->b->c->d->e->G):G:=k h.1 h.2.1 h.2.2.1 h.2.2.2.1 h.2.2.2.2
theorem dS {α:Sort _} {a b c d:α->Prop} {G:Prop} (h:∃x,a x/\b x/\c x/\d x) (k:∀x,a x->b x->c x->d x->G):G:=h.elim λx h=>k x h.1 h.2.1 h.2.2.1 h.2.2.2
theorem bJ {α:Sort _} {β:Sort _} {a b c:α->β->Prop} {G:Prop} (h:∃x,∃y,a x y/\b x y/\c x y) (k:∀x,∀y,a x y->b x y->c x y->G):G:=h.elim λx h=>h.elim λy h=>k x y h.1 h.2.1 h.2.2
theorem jQ {α:Sort _} {β:Sort _} {γ:Sort _} {a b:α->β->γ->Prop} {G:Prop} (h:∃x,∃y,∃z,a x y z/\b x y z) (k:∀x,∀y,∀z,a x y z->b x y z->G):G:=h.elim λx h=>h.elim λy h=>h.elim λz h=>k x y z h.1 h.2
theorem pd {a b c d e f:Prop} {G:Prop} (h:a/\b/\c/\d/\e/\f) (k:a->b->c->d->e->f->G):G:=k h.1 h.2.1 h.2.2.1 h.2.2.2.1 h.2.2.2.2.1 h.2.2.2.2.2
theorem No {α:Sort _} {a b c d e:α->Prop} {G:Prop} (h:∃x,a x/\b x/\c x/\d x/\e x) (k:∀x,a x->b x->c x->d x->e x->G):G:=h.elim λx h=>k x h.1 h.2.1 h.2.2.1 h.2.2.2.1 h.2.2.2.2
theorem wf {α:Sort _} {β:Sort _} {a b c d:α->β->Prop} {G:Prop} (h:∃x,∃y,a x y/\b x y/\c x y/\d x y) (k:∀x,∀y,a x y->b x y->c x y->d x y->G):G:=h.elim λx h=>h.elim λy h=>k x y h.1 h.2.1 h.2.2.1 h.2.2.2
theorem jH {α:Sort _} {β:Sort _} {γ:Sort _} {a b c:α->β->γ->Prop} {G:Prop} (h:∃x,∃y,∃z,a x y z/\b x y z/\c x y z) (k:∀x,∀y,∀z,a x y z->b x y z->c x y z->G):G:=h.elim λx h=>h.elim λy h=>h.elim λz h=>k x y z h.1 h.2.1 h.2.2
theorem Jp {a b c d e f i:Prop} {G:Prop} (h:a/\b/\c/\d/\e/\f/\i) (k:a->b->c->d->e->f->i->G):G:=k h.1 h.2.1 h.2.2.1 h.2.2.2.1 h.2.2.2.2.1 h.2.2.2.2.2.1 h.2.2.2.2.2.2
theorem gL {α:Sort _} {β:Sort _} {a b c d e:α->β->Prop} {G:Prop} (h:∃x,∃y,a x y/\b x y/\c x y/\d x y/\e x y) (k:∀x,∀y,a x y->b x y->c x y->d x y->e x y->G):G:=h.elim λx h=>h.elim λy h=>k x y h.1 h.2.1 h.2.2.1 h.2.2.2.1 h.2.2.2.2
theorem rE {α:Sort _} {β:Sort _} {γ:Sort _} {a b c d:α->β->γ->Prop} {G:Prop} (h:∃x,∃y,∃z,a x y z/\b x y z/\c x y z/\d x y z) (k:∀x,∀y,∀z,a x y z->b x y z->c x y z->d x y z->G):G:=h.elim λx h=>h.elim λy h=>h.elim λz h=>k x y z h.1 h.2.1 h.2.2.1 h.2.2.2
theorem Pu {α:Sort _} {β:Sort _} {a b c d e f:α->β->Prop} {G:Prop} (h:∃x,∃y,a x y/\b x y/\c x y/\d x y/\e x y/\f x y) (k:∀x,∀y,a x y->b x y->c x y->d x y->e x y->f x y->G):G:=h.elim λx h=>h.elim λy h=>k x y h.1 h.2.1 h.2.2.1 h.2.2.2.1 h.2.2.2.2.1 h.2.2.2.2.2
theorem fw {α:Sort _} {β:Sort _} {γ:Sort _} {a b c d e:α->β->γ->Prop} {G:Prop} (h:∃x,∃y,∃z,a x y z/\b x y z/\c x y z/\d x y z/\e x y z) (k:∀x,∀y,∀z,a x y z->b x y z->c x y z->d x y z->e x y z->G):G:=h.elim λx h=>h.elim λy h=>h.elim λz h=>k x y z h.1 h.2.1 h.2.2.1 h.2.2.2.1 h.2.2.2.2
theorem zv {α:Type} {vs:List α} (h:vs.length=0):vs=[]:=xV.mp h
theorem qu {α:Type} {vs:List α} {n:Nat} (h:vs.length=n+1):∃a l,vs=a::l/\l.length=n:=by
 cases vs with
 |nil=>exact absurd h (rH n).symm
 |cons a l=>exact⟨a,l,rfl,kq h⟩
theorem qy {α:Type} {vs:List α} (h:vs.length=2):∃a b,vs=[a,b]:=by obtain ⟨a,l,e,h⟩:=qu h;obtain ⟨b,r,q,h⟩:=qu h;exact⟨a,b,by rw[e,q,zv h]⟩
theorem xc {α:Type} {vs:List α} (h:vs.length=3):∃a b c,vs=[a,b,c]:=by obtain ⟨a,l,e,h⟩:=qu h;obtain ⟨b,c,q⟩:=qy h;exact⟨a,b,c,by rw[e,q]⟩
theorem Ij {α:Type} {vs:List α} (h:vs.length=4):∃a b c d,vs=[a,b,c,d]:=by obtain ⟨a,l,e,h⟩:=qu h;obtain ⟨b,c,d,q⟩:=xc h;exact⟨a,b,c,d,by rw[e,q]⟩
theorem aj {α:Type} {x y:α} (h:some x=some y):x=y:=kr h
section
variable {α β γ:Type} {d:β} {G:Prop}
theorem ifs {c:Prop} [Decidable c] {x:Option β} (h:(if c then x else none)=some d) (k:c->x=some d->G):G:=by
 by_cases q:c
 ·exact k q ((if_pos q).symm.trans h)
 ·exact ac ((if_neg q).symm.trans h)
theorem yZ {c:Prop} [Decidable c] {x:Option β} (h:(if c then none else x)=some d) (k:¬c->x=some d->G):G:=by
 by_cases q:c
 ·exact ac ((if_pos q).symm.trans h)
 ·exact k q ((if_neg q).symm.trans h)
theorem om {o:Option α} {f:α->Option β} (h:bW (motive:=λζ=>Option β) o none f=some d) (k:∀y,o=some y->f y=some d->G):G:=by
 induction o using bW with
 |none=>exact ac h
 |some y=>exact k y rfl h
theorem Fk {o:Option α} {f:α->Bool} (h:bW (motive:=λζ=>Bool) o false f=true) (k:∀y,o=some y->f y=true->G):G:=by
 induction o using bW with
 |none=>exact aZ h
 |some y=>exact k y rfl h
theorem j2 {o:Option α} {u:Option γ} {f:α->γ->Option β} (h:bW (motive:=λζ=>Option β) o none (λx=>bW (motive:=λζ=>Option β) u none (f x))=some d) (k:∀x y,o=some x->u=some y->f x y=some d->G):G:=
 om h λx e h=>om h λy q h=>k x y e q h
end
inductive PV where
 |none
 |bool (b:Bool)
 |int (i:Int)
 |str (x:Str)
 |list (xs:List PV)
 |tup (xs:List PV)
theorem Fu {a b:List PV} (h:PV.list a=PV.list b):a=b:=by injection h
noncomputable def PV.flat:PV->Bool
 |.list _=>false
 |.tup _=>false
 |_=>true
inductive Ent where
 |sh (d:PV)
 |own (xs:List PV)
noncomputable abbrev Sg:=List (Str×Ent)
noncomputable def put:Sg->Str->Ent->Sg
 |[],x,e=>[(x,e)]
 |(y,f)::r,x,e=>if x==y then (x,e)::r else (y,f)::put r x e
theorem LH {y x f e r}:put ((y,f)::r) x e=if x==y then (x,e)::r else (y,f)::put r x e:=rfl
noncomputable def unown:Sg->Sg
 |[]=>[]
 |(y,.own xs)::r=>(y,.sh (.list xs))::unown r
 |(y,.sh d)::r=>(y,.sh d)::unown r
theorem Bn {y xs r}:unown ((y,.own xs)::r)=(y,.sh (.list xs))::unown r:=rfl
theorem AU {y d r}:unown ((y,.sh d)::r)=(y,.sh d)::unown r:=rfl
structure Orc where
 fn:Str->List PV->Option PV
 gc:Str->Option PV
 dget:Str->List PV->Option PV
 gen:Str->List PV->Option (List PV)
noncomputable def aY {α β:Type} (f:α->Option β):List α->Option (List β)
 |[]=>some []
 |x::xs=>match f x with
  |Option.none=>Option.none
  |some y=>match aY f xs with
   |Option.none=>Option.none
   |some ys=>some (y::ys)
theorem xd {α β} {f:α->Option β} {x xs}:aY f (x::xs)=(match f x with|Option.none=>Option.none|some y=>match aY f xs with|Option.none=>Option.none|some ys=>some (y::ys)):=rfl
theorem bC {α β:Type} {f:α->Option β}:aY f []=some []:=rfl
theorem aN {α β:Type} {f:α->Option β} {x:α} {xs:List α} {y:β} {ys:List β} (h1:f x=some y) (h2:aY f xs=some ys):aY f (x::xs)=some (y::ys):=by refine aa xd ?_;exact aa h1 (aa h2 rfl)
noncomputable def eO:PV->Option Bool
 |.none=>some false
 |.bool b=>some b
 |.int i=>some (i != 0)
 |.str x=>some (x.length != 0)
 |.list xs=>some (!xs.isEmpty)
 |.tup xs=>some (!xs.isEmpty)
noncomputable def cU:Nat->PV->Bool
 |_,.int _=>true
 |n+1,.list xs=>xs.all (cU n)
 |_,_=>false
mutual
noncomputable def qR:PV->PV->Bool
 |.int a,.int b=>a==b
 |.list xs,.list ys=>jN xs ys
 |_,_=>false
noncomputable def jN:List PV->List PV->Bool
 |[],[]=>true
 |x::xs,y::ys=>qR x y&&jN xs ys
 |_,_=>false
end
noncomputable def ur:PV->PV->Option Bool
 |.int a,.int b=>some (a==b)
 |.str a,.str b=>some (a==b)
 |.list xs,.list ys=>if xs.all (cU 3)&&ys.all (cU 3) then some (jN xs ys) else Option.none
 |_,_=>Option.none
noncomputable def bt (n:Nat):Bool:=my n 16777216
noncomputable def bV (op:mz) (a b:PV):Option PV:=
 match op,a,b with
 |.Add,.int x,.int y=>some (.int (x+y))
 |.Add,.str x,.str y=>if bt (x.length+y.length) then some (.str (x++y)) else Option.none
 |.Add,.list xs,.list ys=>if bt (xs.length+ys.length) then some (.list (xs++ys)) else Option.none
 |.Sub,.int x,.int y=>some (.int (x - y))
 |.Mult,.int x,.int y=>if decide (bX x<=64)||decide (bX x+bX y<=1000000) then some (.int (x*y)) else Option.none
 |.Mult,.str x,.int y=>if bt (x.length*y.toNat)&&decide (y<16777216)&&decide (-16777216<y) then some (.str (C6 x y)) else Option.none
 |.FloorDiv,.int x,.int y=>if y != 0&&decide (x.natAbs<2^60) then some (.int (PK x y)) else Option.none
 |.Mod,.int x,.int y=>if y != 0 then some (.int (jq x y)) else Option.none
 |.Pow,.int x,.int y=>if decide (0<=y)&&decide ((bX x:Int)*y<=2^27) then some (.int (x^y.toNat)) else Option.none
 |.LShift,.int x,.int y=>if decide (0<=y)&&decide ((bX x:Int)+y<=2^27) then some (.int (x*2^y.toNat)) else Option.none
 |.BitAnd,.int x,.int y=>some (.int (uC x y))
 |.BitXor,.int x,.int y=>some (.int (rI x y))
 |.RShift,.int x,.int y=>if decide (0<=y) then some (.int (if y>=(bX x:Int) then (if x<0 then -1 else 0) else x.fdiv (2^y.toNat))) else Option.none
 |.Mult,.list xs,.int y=>if decide (y<16777216)&&decide (-16777216<y)&&bt (xs.length*y.toNat) then some (.list (fH y.toNat xs).flatten) else Option.none
 |_,_,_=>Option.none
noncomputable def ud (a b:PV):Option Bool:=
 match a,b with
 |.none,.none=>some true
 |.bool x,.bool y=>some (x==y)
 |.bool _,.none=>some false
 |.none,.bool _=>some false
 |.int _,.none=>some false
 |.str _,.none=>some false
 |.list _,.none=>some false
 |.tup _,.none=>some false
 |_,_=>Option.none
noncomputable def fE (op:nS) (a b:PV):Option Bool:=
 match op,a,b with
 |.Eq,a,b=>ur a b
 |.NotEq,a,b=>(ur a b).map (!·)
 |.Lt,.int x,.int y=>some (decide (x<y))
 |.LtE,.int x,.int y=>some (decide (x<=y))
 |.Gt,.int x,.int y=>some (decide (x>y))
 |.GtE,.int x,.int y=>some (decide (x>=y))
 |.Is,a,b=>ud a b
 |.IsNot,a,b=>(ud a b).map (!·)
 |.In,.str x,.str y=>some (iz y x)
 |.NotIn,.str x,.str y=>some (!iz y x)
 |_,_,_=>Option.none
theorem HC (x:Int):(ew 0 x).toNat=x.toNat:=by
 cases x with
 |ofNat n=>rw[show ew 0 (Int.ofNat n)=n from xW (c7 n)];rfl
 |negSucc n=>rw[C7 (PL (Int.negSucc_lt_zero n))];rfl
section
variable {a b c d e f g i j k l m:Nat} {x y z w u v:Int}
theorem zf:a<((a+1)+1):=by lia
theorem Nz (h0:a<=(b+1)) (h1:¬ (a<=b)):a=(b+1):=by lia
theorem Mx (h0:(a+(b+1))<=c):a<c:=Nat.lt_of_add_right_lt h0
theorem J4 (h0:(a+(b+1))<=c):((a+1)+b)<=c:=by lia
theorem Il:(a+(b+1))=((a+1)+b):=eh (C8 a b)
theorem Gi:(0+a)<=a:=by lia
theorem HX (h0:a=(b+1)):0<a:=Nat.lt_of_sub_eq_succ h0
theorem J0 (h0:a=(b+1)) (h1:c<=(a - 1)):c<(b+1):=by omega
theorem K7 (h0:a=(b+1)) (h1:c<(b+1)):c<=(a - 1):=by lia
theorem GO (h0:¬ (x<=y)):y<=x:=Int.le_of_not_le h0
theorem NP (h0:0<=x):(hG (ew 0 x))=(x.toNat):=HC x
theorem Fg (h0:0<=x) (h1:x<=(a:Int)):(fg (hG (ew 0 x)) a)=(x.toNat):=by rw[xW h0];exact lh (PM.mpr h1)
theorem Pk (h0:a<=b) (h1:¬ (a=b)):¬ ((a:Int)=(b:Int)):=PN rfl rfl h1
theorem GA (h0:(a - b)=0):a<=b:=Nat.le_of_sub_eq_zero h0
theorem L8 (h0:a<=b) (h1:b<=c) (h2:c<=b):(c - a)<=(b - a):=xX h2 a
theorem KB (h0:a<=b) (h1:(b - a)=(c+d)) (h2:c=e):(a+e)<=b:=by lia
theorem NQ (h0:a<=b):((b+c) - a)=((b - a)+c):=Nat.sub_add_comm h0
theorem Ky (h0:a<=b) (h1:c=((1+d)+1)):(a+1)<=(b+c):=by lia
theorem IM (h0:a=((1+b)+1)):(((c+1)+b)+1)<=(c+a):=by lia
theorem NN (h0:(a - b)=(c+d)) (h1:c=((1+e)+1)):(b+c)<=a:=by lia
theorem LV (h0:a=((1+b)+1)):((c+a) - (((c+1)+b)+1))=0:=h0▸Nat.sub_eq_zero_of_le (iA (congrArg pD (mA c 1 b).symm))
theorem Oo (h0:a<=b) (h1:c=0):(c+a)<=(d+b):=by lia
theorem Mi (h0:a<=100000) (h1:(b+(a - c))=d) (h2:d<=a):(b<=100000/\(a - c)<=a):=by lia
theorem Gd (h0:a<=100000) (h1:(b<=100000/\c<=a)):(b+c)<=1000000:=al (gN h1.1 (al h1.2 h0)) (by decide)
theorem Mu (h0:a<=b) (h1:¬ (a<b)):¬ ((a:Int)<(b:Int)):=by lia
theorem yW (h0:(a+(40*2))<9000):(a+64)<9900:=b9 (eN (fh (by decide:64<=40*2) a) h0) (by decide)
theorem O8 (h0:¬ (a=0)):(a:Int)≠0:=PO.mpr h0
theorem IR:a≠(a+1):=Nat.ne_add_one a
theorem Iy (h0:a<=b) (h1:(c+b)<900):(c+a)<900:=eN (fh h0 c) h1
theorem ML (h0:a<=b) (h1:(c+(40*b))<9000):(c+(40*a))<9000:=eN (fh (pE 40 h0) c) h1
theorem H2 (h0:(a+(b+1))<900):((a+1)+b)<900:=by lia
theorem GD (h0:(a+(40*(b+1)))<9000):((a+3)+(40*b))<9000:=eN (by rw[C9,mA,iW 3];exact fh (fh (by decide) _) a) h0
theorem Nr (h0:(a+b)<900):a<1000:=by lia
theorem Ks (h0:a<=b) (h1:b<=c):(a:Int)<=(c:Int):=by lia
theorem CG (h0:a<=b) (h1:b<=c):(fg (b - a) (c - a))=(b - a):=lh (xX h1 a)
theorem Nh:((a - b) - (c+d))=(a - ((b+c)+d)):=by lia
theorem w5 (h0:a<=b) (h1:(c+d)<=(b - a)):((a+c)+d)<=b:=by lia
theorem yX (h0:0<a):1<=(a:Int):=PM.mp h0
theorem AH (h0:0<a):(hG ((-1)+(a:Int)))=(a - 1):=(congrArg hG (Int.add_comm (-1) a)).trans (PP a 1)
theorem Ex (h0:0<a):(a - 1)<a:=PQ h0
theorem PB (h0:¬ (a<b)):¬ ((b:Int)>(a:Int)):=by lia
theorem JF:2<=(((a:Int)+1)+1):=by lia
theorem FU:0<(((a:Int)+1)+1):=Int.sign_eq_one_iff_pos.mp rfl
theorem Pn (h0:(a+b)<=134217728):(0<=(b:Int)/\((a:Int)+(b:Int))<=134217728):=by lia
theorem vx (h0:¬ (a=b)):¬ ((a:Int)=(b:Int)):=PN rfl rfl h0
theorem HJ (h0:1<=a):(a - 1)<a:=PQ h0
theorem LF (h0:a≠0):1<=(a+(0*b)):=by lia
theorem Jr (h0:1<=a) (h1:¬ (b<=c)):(c+(1*a))<=((b+a) - 1):=by lia
theorem Kj (h0:(1<=a/\a<=512)):1<=(a:Int):=by lia
theorem Nc (h0:(1<=a/\a<=512)):(a:Int)<=512:=by lia
theorem zN (h0:a=b):a<=(b+c):=Nat.le.intro (congrFun (congrArg Da h0) c)
theorem Jf (h0:(a+b)<=(c+1)) (h1:d<=a) (h2:1<=b):d<=c:=by lia
theorem s9 (h0:(a+(b+1))=c):((a+1)+b)=c:=by lia
theorem wv (h0:(a+(b+1))=c):a<c:=by lia
theorem Km (h0:(a+1)<=b) (h1:c=a):c<=b:=by lia
theorem MA (h0:(a+0)=b):a=b:=PR h0
theorem OW (h0:(a+b)<=c) (h1:(d+(e+f))=(a+b)):(d+e)<=c:=by lia
theorem EK (h0:a=b) (h1:¬ (c<b)):a<=c:=by lia
theorem wN (h0:a<b) (h1:(b - a)<=0):False:=by lia
theorem CE (h0:(a+1)=b):(b - a)=1:=eh (Nat.eq_sub_of_add_eq' h0)
theorem ri (h0:a<b) (h1:¬ ((a+1)=b)):a<((a+b)/2):=by lia
theorem nz (h0:a<b) (h1:¬ ((a+1)=b)):((a+b)/2)<b:=by lia
theorem vF (h0:a<b) (h1:¬ ((a+1)=b)) (h2:((a+b)/2)=c) (h3:a<c):(b - a)=((c - a)+(b - c)):=((iW _ _).trans (Nat.sub_add_sub_cancel (h2▸dE (nz h0 h1)) (dE h3))).symm
theorem qr (h0:a<b) (h1:(b - a)<=(c+1)) (h2:¬ ((a+1)=b)) (h3:((a+b)/2)=d) (h4:a<d):(b - d)<=c:=al (Nat.sub_le_sub_left h4 b) (Nat.pred_le_pred h1)
theorem ul (h0:a<b) (h1:(b - a)<=(c+1)) (h2:¬ ((a+1)=b)) (h3:((a+b)/2)=d):(d - a)<=c:=h3▸jS (b9 (Nat.sub_lt_sub_right (dE (ri h0 h2)) (nz h0 h2)) h1)
theorem AN (h0:a<b) (h1:b<=c) (h2:¬ ((a+1)=b)) (h3:((a+b)/2)=d) (h4:a<d) (h5:(b - a)=((d - a)+(b - d))):((fg a c)+(d - a))=d:=by rw[lh (al (dE h0) h1)];exact nT (dE h4)
theorem Hz (h0:a<b) (h1:¬ ((a+1)=b)) (h2:((a+b)/2)=c) (h3:d=c):b=(d+(b - c)):=by lia
theorem NX (h0:1<=a) (h1:0<b):a<=((b+a) - 1):=by omega
theorem Ly (h0:1<=a) (h1:((b+a) - 1)<(c+a)):b<=c:=by omega
theorem Ix (h0:1<=a):((0+a) - 1)<a:=by omega
theorem Ad (h0:a<=128):(a+4)<=139:=by lia
theorem I0 (h0:a<b) (h1:(b - a)<=0):c=d:=by lia
theorem Kt (h0:a<b) (h1:c<a):(c+(a - c))=a:=by lia
theorem KV (h0:a<b) (h1:b<=c) (h2:¬ ((a+1)=b)) (h3:((a+b)/2)=d):(d - a)<=(c - a):=h3▸xX (al (dE (nz h0 h2)) h1) a
theorem Nq (h0:a<=b) (h1:c<a):(a - c)<=(b - c):=xX h0 c
theorem Hu (h0:a<=128) (h1:b<=a) (h2:((c+b)/2)=d) (h3:c<d):(b - d)<=128:=al (kt _ _) (al h1 h0)
theorem JN (h0:a<=128) (h1:b<=a) (h2:((c+b)/2)=d):(d - c)<=128:=h2▸Nat.sub_le_of_le_add (al (uD _ _) (iW c b▸d7 (al h1 h0) c))
theorem J5 (h0:a<=b) (h1:b<=(128*512)) (h2:c<=(128*512)):((a:Int)+(c:Int))<=134217728:=by lia
theorem Py (h0:x<0) (h1:(0<=(x+(a:Int))/\(x+(a:Int))<(a:Int))):(hG (x+(a:Int)))<a:=by omega
theorem Hh (h0:x<0) (h1:(0<=(x+(a:Int))/\(x+(a:Int))<(a:Int))):(-(a:Int))<=x:=by lia
theorem KJ (h0:¬ (x<0)) (h1:(0<=x/\x<(a:Int))):(x.toNat)<a:=by omega
theorem IH (h0:a=b) (h1:(-(b:Int))<=x):(-(a:Int))<=x:=le_of_eq_of_le (congrArg Neg.neg (congrArg Nat.cast h0)) h1
theorem PJ (h0:a<(hG (x - y))):0<(((hG (x - y)):Int) - (a:Int)):=by lia
theorem NC:((x+(a:Int))+1)=(x+((a+1):Int)):=Int.add_assoc _ _ _
theorem Gz:((((hG (x - y)):Int) - (a:Int)) - 1)=(((hG (x - y)):Int) - ((a+1):Int)):=by lia
theorem IY:(((hG (x - y)):Int) - ((hG (x - y)):Int))<=0:=by lia
theorem Pm:((a+1)+b)=(a+(b+1)):=C8 a b
theorem Im (h0:a=b) (h1:b<=c):a<=(fg b c):=by lia
theorem Kg (h0:a=b) (h1:¬ (c<=b)):a<=(fg c b):=Nat.le_min.mpr ⟨h0▸dE (PS h1),iA h0⟩
theorem EZ (h0:a<8):(a=0\/(a=1\/(a=2\/(a=3\/(a=4\/(a=5\/(a=6\/a=7))))))):=(by decide:∀a<8,(a=0\/(a=1\/(a=2\/(a=3\/(a=4\/(a=5\/(a=6\/a=7)))))))) a h0
theorem Nj:¬ (a<0):=PT a
theorem JS (h0:0<=x):x=((x.toNat):Int):=Int.eq_natCast_toNat.mpr h0
theorem CJ (h0:a≠0):(a:Int)≠0:=PO.mpr h0
theorem Hm (h0:(a:Int)<=x):(fg x (a:Int))=(a:Int):=Int.min_eq_right h0
theorem MG:(fg (a:Int) (a:Int))=(a:Int):=by lia
theorem FO (h0:(a:Int)<=x):¬ (x<0):=by lia
theorem Jl (h0:¬ (a<=b)):(b:Int)<=(a:Int):=by lia
theorem JW:¬ ((a+1)<=a):=Nat.not_succ_le_self a
theorem HV (h0:a<60):((a/30)+1)<=3:=by lia
theorem JP (h0:a<=3):¬ (a>(b+150)):=by lia
theorem FF (h0:a<=b) (h1:b=16777216) (h2:16777216<=x):¬ ((a:Int)>x):=by lia
theorem OL (h0:(a:Int)=((b:Int)*0)):a=0:=Int.ofNat_eq_zero.mp h0
theorem JQ (h0:(a:Int)=((b:Int)*0)):a<=c:=by lia
theorem HE (h0:(a:Int)=x) (h1:(b:Int)=x):a<=b:=by lia
theorem N9 (h0:(-16777216)<x) (h1:x<16777216):((-9223372036854775808)<=x/\x<9223372036854775808):=by lia
theorem L4 (h0:1<=x):0<=x:=PL h0
theorem IP (h0:1<=(a:Int)):1<=a:=ej.mp h0
theorem Bh (h0:(a:Int)<=512):a<=512:=ej.mp h0
theorem Ip (h0:¬ (((63:Nat):Int)<(a:Int))):a<=63:=by lia
theorem E6 (h0:¬ (((63:Nat):Int)<(a:Int))) (h1:b=a):b<=63:=by lia
theorem FW (h0:a=0) (h1:(b+a)=c):c=b:=by lia
theorem LI (h0:(a%2)=1):a=((2*(a/2))+1):=((Db a 2).symm.trans (congrArg (2*(a/2)+ ·) h0))
theorem Ht (h0:a<b):¬ ((b+1)<=a):=by lia
theorem Po (h0:¬ (a<b)) (h1:¬ (a=b)):(b+1)<=a:=by lia
theorem MM (h0:¬ (a<b)) (h1:¬ (a=b)):(a - b)=((a - (b+1))+1):=by lia
theorem Jx (h0:(((2*a)+1)%2)=1):(((2*a)+1)/2)=a:=by rw[Nat.mul_add_div (by decide)];rfl
theorem Ir (h0:¬ (a<b)) (h1:¬ (a=b)):¬ (a<(b+1)):=by lia
theorem J1 (h0:(a+0)=32):a=32:=eh (PR (congrFun (congrArg Da (id (eh h0))) a))
theorem Ok (h0:0<a) (h1:a=0):False:=by lia
theorem Px (h0:(a+(b+1))=32):a<32:=by lia
theorem FE (h0:(a+(b+1))=32) (h1:c<=1):(c+a)<=134217728:=by lia
theorem y7 (h0:(a+(b+1))=32):((a+1)+b)=32:=by lia
theorem KI (h0:(a+(b+1))=32) (h1:c<=a):(c+1)<=16777216:=by lia
theorem CO (h0:(a+(b+1))=32) (h1:(a+1)<=c):c≠a:=cC (ku h1)
theorem MR (h0:(0<=a/\a<(0+32))):a<32:=by lia
theorem Ih (h0:a<=20) (h1:b<=(20*c)):(a+b)<=(20*(c+1)):=by rw[C9,iW];exact gN h1 h0
theorem JR (h0:a<=32) (h1:b<=(20*a)):(b+(a*2))<=1000000:=al (gN (al h1 (pE 20 h0)) (rJ 2 h0)) (by decide)
theorem Og (h0:a=b) (h1:(b+1)<=c):a<=c:=by lia
theorem Gm (h0:a=b) (h1:(b+1)<=c):(a+1)<=c:=le_of_eq_of_le (congrFun (congrArg Da h0) 1) h1
theorem NY (h0:(-1000)<=x) (h1:x<1000):((-9223372036854775808)<=x/\x<9223372036854775808):=by lia
theorem Bl (h0:a=(b+1)) (h1:a<=b):False:=by lia
theorem ON (h0:a=b) (h1:c=b):a<=c:=by lia
theorem IU (h0:a<=1000000):(2*(a:Int))<=134217728:=by lia
theorem E5:(hG (((a:Int)+(b:Int)) - (a:Int)))=b:=by lia
theorem CL (h0:(a+8)<900) (h1:b=(a+1)):(b+3)<900:=by subst h1;exact eN (fh (by decide:4<=8) a) h0
theorem M9 (h0:(a+(40*8))<9000) (h1:b=(((a+1)+0)+3)):(b+(40*3))<9000:=by subst h1;exact eN (fh (by decide:1+0+3+40*3<=40*8) a) h0
theorem OA (h0:(a+(40*8))<9000) (h1:b=((a+1)+3)):(b+(40*3))<9000:=by lia
theorem Ie (h0:a<=b) (h1:b<=a) (h2:c=b):a=c:=by lia
theorem OT (h0:(a+1)<=b):(b - a)=((b - (a+1))+1):=by lia
theorem Fo (h0:a<=b):(hG ((b:Int) - (a:Int)))=(b - a):=PP b a
theorem Od (h0:a<=b):(b - (b - a))<=a:=by omega
theorem Je (h0:a<=b):(0+a)<=b:=by lia
theorem LQ (h0:(a+b)<=c):((a+1)+b)<=(c+1):=by lia
theorem MB (h0:((a+1)+b)<=(c+1)):(a+b)<=c:=by lia
theorem Pg (h0:(a+b)<=c) (h1:(d+(a - d))=a):(fg b ((c - d) - (a - d)))=b:=by rw[Nat.sub_sub_sub_cancel_right (Nat.le.intro h1)];exact lh (PU (iW a b▸h0))
theorem Ja (h0:a<=b) (h1:(c+d)<=(b - a)):(a+c)<(a+((b+1) - a)):=by lia
theorem MW (h0:a<=b) (h1:(c+d)<=b) (h2:a<=c):((c - a)+d)<=(b - a):=by lia
theorem Cw (h0:(a+b)<=c) (h1:(d+e)<a):((d+e)+b)<=c:=al (d7 (dE h1) b) h0
theorem PA (h0:a<=b) (h1:¬ ((b - a)<c)) (h2:¬ ((a+c)<b)):(b:Int)=((a+c):Int):=by lia
theorem K8:(((a+1)+1)+1)=(3+a):=eh (iW 3 a)
theorem A3 (h0:a<=b) (h1:(b - a)=(c+(3+d))):((a+c)+3)<=b:=by rw[<- nT h0,h1,mA];exact fh (fh (fI 3 d) c) a
theorem Pi (h0:a<=b) (h1:b<(a+c)):(b - a)<c:=Nat.sub_lt_left_of_lt_add h0 h1
theorem HU:3<=(a+(((b+1)+1)+1)):=dv 3 (a.add b)
theorem LM (h0:3<=a) (h1:b=3):¬ (a<b):=by lia
theorem GW:((a+b):Int)=((a:Int)+(b:Int)):=by lia
theorem z0 (h0:a<b) (h1:((a+b)/2)=c):a<=c:=by lia
theorem Ay (h0:a<=128) (h1:b<a) (h2:((b+a)/2)=c):c<=128:=by lia
theorem xL (h0:a<=128) (h1:((b+a)/2)=c):(c - b)<=128:=by lia
theorem Mb (h0:a<=(128*512)) (h1:b<=65536):(b+a)<=134217728:=by lia
theorem L7:¬ ((a:Int)<0):=mB.mpr (c7 _)
theorem Lc (h0:1<=a):¬ ((a:Int)=0):=Int.natCast_ne_zero_iff_pos.mpr h0
theorem xR:1<=2:=mD _
theorem GB:(-16777216)<(a:Int):=xY (by decide) (c7 _)
theorem Ni (h0:a<=128):(a:Int)<16777216:=lj (ej.mpr (by assumption)) (by decide)
end
section
variable {α β γ:Type} {G:Prop} {d:β}
theorem qI {c:Prop} [Decidable c] {x y:β} (h:(if c then x else y)=d) (k:c->x=d->G) (k':¬c->y=d->G):G:=by
 by_cases q:c
 ·exact k q ((if_pos q).symm.trans h)
 ·exact k' q ((if_neg q).symm.trans h)
theorem HG {o:Option PV} {f:Int->Option β} (h:(match o with|some (.int i)=>f i|_=>none)=some d) (k:∀i,o=some (.int i)->f i=some d->G):G:=by
 induction o using bW with
 |none=>exact ac h
 |some y=>induction y using PV.casesOn with
  |int i=>exact k i rfl h
  |_=>exact ac h
theorem HW {o:Option Bool} {x:Option β} (h:(match o with|some true=>x|_=>none)=some d) (k:o=some true->x=some d->G):G:=by
 induction o using bW with
 |none=>exact ac h
 |some y=>induction y using d8 with
  |true=>exact k rfl h
  |false=>exact ac h
theorem xJ {o:Option Bool} {x y:Option β} (h:(match o with|some true=>x|some false=>y|none=>none)=some d) (k:o=some true->x=some d->G) (k':o=some false->y=some d->G):G:=by
 induction o using bW with
 |none=>exact ac h
 |some y=>induction y using d8 with
  |true=>exact k rfl h
  |false=>exact k' rfl h
theorem Kz {u:Option γ} {o:Option PV} {f:γ->Int->Option β} (h:(match u,o with|some xs,some (.int k)=>f xs k|_,_=>none)=some d) (k:∀xs i,u=some xs->o=some (.int i)->f xs i=some d->G):G:=by
 induction u using bW with
 |none=>exact ac h
 |some xs=>
  induction o using bW with
  |none=>exact ac h
  |some y=>induction y using PV.casesOn with
   |int i=>exact k xs i rfl rfl h
   |_=>exact ac h
theorem dm {a b:Bool} (h:(a&&b)=true) (k:a=true->b=true->G):G:=be (jT.mp h) k
theorem mh {a b c:Bool} (h:(a&&b&&c)=true) (k:a=true->b=true->c=true->G):G:=dm h λh=>dm h k
theorem OH {a b c e:Bool} (h:(a&&b&&c&&e)=true) (k:a=true->b=true->c=true->e=true->G):G:=dm h λh=>mh h k
end
noncomputable def iL (h:Heap) (a:Addr) (its:Array Value):Prop:=∃n,h.get? a=some {cls:=.type "list",data:=.seq its n}
theorem iL.isList {h:Heap} {a its} (x:iL h a its):h.IsList a its:=aE x λn e=>⟨_,e,rfl,n,rfl⟩
mutual
noncomputable def ao (W:List Addr) (h:Heap):PV->Value->Prop
 |.none,v=>v=.none
 |.bool b,v=>v=.bool b
 |.int i,v=>∃t,v=.int i t
 |.str x,v=>(∃t,v=.str x t)/\x.length<=sizeLine
 |.list xs,v=>∃a vs,v=.ref a/\a∉W/\iL h a vs.toArray/\vs.length<=sizeLine/\ax W h xs vs
 |.tup xs,v=>∃a vs,v=.ref a/\a∉W/\h.IsTuple a vs.toArray/\vs.length<=sizeLine/\ax W h xs vs
noncomputable def ax (W:List Addr) (h:Heap):List PV->List Value->Prop
 |[],vs=>vs=[]
 |x::xs,vs=>∃v r,vs=v::r/\ao W h x v/\ax W h xs r
end
noncomputable def cK (o:ek):Bool:=match o.cls,o.data with
 |.none,.fields _=>true
 |_,_=>false
theorem fy {o:ek} (h:∀vs,o.data≠.fields vs):cK o=false:=by
 induction o using Obj.casesOn with
 |mk c d y l=>
  induction c using nU with
  |none=>induction y using Data.casesOn with
   |fields vs=>exact absurd rfl (h vs)
   |_=>rfl
  |_=>rfl
theorem eM {o:ek} {c:String} (h:o.cls=.type c):cK o=false:=by unfold cK;exact aa h rfl
noncomputable def Kb (W:List Addr) (h h':Heap):Prop:=∀b o,b∉W->cK o=false->h.get? b=some o->h'.get? b=some o
theorem Kb.refl {W h}:Kb W h h:=λζ ζ ζ ζ e=>e
theorem Kb.of_keep {W h h'} (k:∀b o,h.get? b=some o->h'.get? b=some o):Kb W h h':=λb o ζ ζ e=>k b o e
theorem Kb.trans {W h h' h''} (k:Kb W h h') (k':Kb W h' h''):Kb W h h'':=λb o hb ht e=>k' b o hb ht (k b o hb ht e)
theorem Kb.mono {W W' h h'} (k:Kb W h h') (hs:∀b,b∈W->b∈W'):Kb W' h h':=λb o hb ht e=>k b o (λq=>hb (hs b q)) ht e
theorem iL.kb {W h h' a its} (x:iL h a its) (k:Kb W h h') (ha:a∉W):iL h' a its:=
 aE x λn e=>⟨n,k a _ ha rfl e⟩
theorem IsTuple.kb {W h h' a its} (x:Dd h a its) (k:Kb W h h') (ha:a∉W):h'.IsTuple a its:=
 bB x λo e hc r=>⟨o,k a o ha (eM hc) e,hc,r⟩
mutual
theorem ao.kb {V W W':List Addr} {h h':Heap} (k:Kb V h h') (hv:∀b,b∈V->b∈W\/h.get? b=none\/∀o,h.get? b=some o->∀its n,o.data≠.seq its n) (hs:∀b,b∈W'->b∈W\/h.get? b=none):∀(d:PV) (v:Value),ao W h d v->ao W' h' d v
 |.none,_,r=>r
 |.bool _,_,r=>r
 |.int _,_,r=>r
 |.str _,_,r=>r
 |.list xs,v,r=>by
  skip;refine gL r λa vs e ha hl hn hr=>?_;clear r;refine j4 a vs e (λq=>?_) (iL.kb hl k (λq=>?_)) hn (ax.kb k hv hs xs vs hr)
  ·refine ah hl.isList λo e ζ=>?_;rcases hs a q with q|q
   ·exact ha q
   ·replace e:=q▸e;exact ac e
  ·obtain ⟨o,e,hc,n,hd⟩:=hl.isList;rcases hv a q with q|q|q
   ·exact ha q
   ·replace e:=q▸e;exact ac e
   ·exact q o e _ _ hd
 |.tup xs,v,r=>by
  skip;refine gL r λa vs e ha hl hn hr=>?_;clear r;refine j4 a vs e (λq=>?_) (IsTuple.kb hl k (λq=>?_)) hn (ax.kb k hv hs xs vs hr)
  ·refine ah hl λo e ζ=>?_;clear hl;rcases hs a q with q|q
   ·exact ha q
   ·replace e:=q▸e;exact ac e
  ·obtain ⟨o,e,hc,n,hd⟩:=hl;rcases hv a q with q|q|q
   ·exact ha q
   ·replace e:=q▸e;exact ac e
   ·exact q o e _ _ hd
theorem ax.kb {V W W':List Addr} {h h':Heap} (k:Kb V h h') (hv:∀b,b∈V->b∈W\/h.get? b=none\/∀o,h.get? b=some o->∀its n,o.data≠.seq its n) (hs:∀b,b∈W'->b∈W\/h.get? b=none):∀(ds:List PV) (vs:List Value),ax W h ds vs->ax W' h' ds vs
 |[],_,r=>by skip;exact r
 |d::ds,vs,r=>by skip;refine bJ r λv u e h1 h2=>?_;clear r;exact gF v u e (ao.kb k hv hs d v h1) (ax.kb k hv hs ds u h2)
end
theorem ao.keep {W h h' d v} (r:ao W h d v) (k:Kb [] h h'):ao W h' d v:=ao.kb k (λζ q=>nomatch q) (λζ q=>.inl q) d v r
theorem ax.keep {W h h' d v} (r:ax W h d v) (k:Kb [] h h'):ax W h' d v:=ax.kb k (λζ q=>nomatch q) (λζ q=>.inl q) d v r
theorem ao.sub {W W' h d v} (r:ao W h d v) (hs:∀b,b∈W'->b∈W):ao W' h d v:=ao.kb (V:=[]) Kb.refl (λζ q=>nomatch q) (λb q=>.inl (hs b q)) d v r
theorem ax.sub {W W' h d v} (r:ax W h d v) (hs:∀b,b∈W'->b∈W):ax W' h d v:=ax.kb (V:=[]) Kb.refl (λζ q=>nomatch q) (λb q=>.inl (hs b q)) d v r
theorem ao.flat {W W' h h' d v} (r:ao W h d v) (hf:d.flat=true):ao W' h' d v:=by
 induction d using PV.casesOn with
 |list xs=>exact aZ hf
 |tup xs=>exact aZ hf
 |_=>exact r
theorem ax.length:∀{ds:List PV} {W h vs},ax W h ds vs->vs.length=ds.length
 |[],_,_,_,r=>congrArg iB r
 |d::ds,_,_,_,r=>bJ r λv u e ζ h2=>e▸congrArg pD (ax.length h2)
theorem ax.append:∀{ds es:List PV} {W h vs us},ax W h ds vs->ax W h es us->ax W h (ds++es) (vs++us)
 |[],_,_,_,_,_,r,k=>by subst (r:_=_);exact k
 |d::ds,es,_,_,_,us,r,k=>bJ r λv u e h1 h2=>gF v (u++us) (e▸rfl) h1 (ax.append h2 k)
theorem ax.one {W h d v} (r:ao W h d v):ax W h [d] [v]:=⟨v,[],rfl,r,rfl⟩
theorem ax.get:∀{ds:List PV} {W h vs} {k:Nat} {d:PV},ax W h ds vs->ds[k]?=some d->∃v,vs[k]?=some v/\ao W h d v
 |[],_,_,_,k,d,_,e=>ac e
 |c::ds,_,_,_,0,d,r,e=>bJ r λv u e2 h1 h2=>az v (e2▸rfl) (aj (show some c=some d from e)▸h1)
 |c::ds,_,_,_,k+1,d,r,e=>bJ r λv u e2 h1 h2=>e2▸ax.get (ds:=ds) (k:=k) h2 e
theorem ax.take:∀{ds:List PV} {W h vs} (k:Nat),ax W h ds vs->ax W h (ds.take k) (vs.take k)
 |_,_,_,vs,0,_=>(rfl:PW 0 vs=[])
 |[],_,_,_,k+1,r=>by subst (r:_=_);rfl
 |c::ds,_,_,_,k+1,r=>bJ r λv u e h1 h2=>gF v (u.take k) (e▸rfl) h1 (ax.take k h2)
theorem ax.drop:∀{ds:List PV} {W h vs} (k:Nat),ax W h ds vs->ax W h (ds.drop k) (vs.drop k)
 |_,_,_,_,0,r=>r
 |[],_,_,_,k+1,r=>by subst (r:_=_);rfl
 |c::ds,_,_,_,k+1,r=>bJ r λv u e ζ h2=>e▸ax.drop (ds:=ds) k h2
theorem ax.some_get:∀{ds:List PV} {W h vs} {k:Nat},ax W h ds vs->k<ds.length->∃d v,ds[k]?=some d/\vs[k]?=some v/\ao W h d v:=by intro ds W h vs k r hk;refine ah (ax.get (d:=ds[k]) r (el hk)) λv e rr=>?_;exact gF (ds[k]) v (el hk) e rr
theorem ax.pick {ds:List PV} {W h vs} (r:ax W h ds vs):∀(ks:List Nat),ax W h (ks.filterMap (ds[·]?)) (ks.filterMap (vs[·]?))
 |[]=>rfl
 |k::ks=>by
  have hlen:=r.length
  by_cases hk:k<ds.length
  ·refine bJ (r.some_get hk) λd v e1 e2 rr=>?_;simp only[kv,e1,e2];exact gF v _ rfl rr (ax.pick r ks)
  ·have e1:ds[k]?=none:=by simp;exact rK (by assumption)
   have e2:vs[k]?=none:=by simp;exact EK hlen hk
   simp only[kv,e1,e2];exact ax.pick r ks
theorem eJ {h:Heap}:h.get? h.objs.size=none:=by
 cases e:h.get? h.objs.size with
 |none=>rfl
 |some o=>exact absurd (fJ e) (De _)
structure Tb where
 c:Addr
 P:Addr
 pos:Pos
 qual:Str
noncomputable def tr (h:Heap) (q:Tb):Prop:=
 h.get? q.P=some (mE #[])\/
 ∃c',h.get? q.P=some (mE #[hH q.pos.line,hH q.pos.col,.ref c'])/\h.CodeRec (.ref c') q.qual/\∃o,h.get? c'=some o/\o.cls=.type "code"
structure Cx where
 prog:Program
 w:iC
 h0:Heap
 mg:Str->Option Value
 mb:Str->Option Value
 os:OsState
 tabs:List Tb
structure A6 (X:Cx):Prop where
 g:∃o,X.h0.get? dF=some o
 b:∃o,X.h0.get? kx=some o
 st:∃o,X.h0.get? cStatics=some o
 tb:∀q∈X.tabs,∃c0 ps,X.h0.TableAt c0 q.P ps
 tc:∀q∈X.tabs,uE X.h0 q.c q.P
structure ai (X:Cx) (s:ae):Prop where
 x:A6 X
 old:pF X.h0 s.heap
 g:s.heap.Ns dF X.mg
 b:s.heap.Ns kx X.mb
 lim:s.heap.NoLimit
 tab:∀q∈X.tabs,uE s.heap q.c q.P/\tr s.heap q
 bare:AllBare s.gens
 os:s.os=X.os
structure jM (W:List Addr) (gm:Nat) (s s':ae):Prop where
 kb:Kb W s.heap s'.heap
 th:∀b o,s.heap.get? b=some o->∃o',s'.heap.get? b=some o'
 gsz:s.gens.size<=s'.gens.size
 gk:∀i,i<gm->s'.gens[i]?=s.gens[i]?
noncomputable abbrev af (W:List Addr) (s s':ae):Prop:=jM W s.gens.size s s'
theorem jM.none {W gm s s' b} (a:jM W gm s s') (h:s'.heap.get? b=none):s.heap.get? b=none:=by
 cases e:s.heap.get? b with
 |none=>rfl
 |some o=>refine aE (a.th b o e) λo' e'=>?_;replace e':=h▸e';exact ac e'
theorem af.refl {W s}:af W s s:=⟨Kb.refl,λζ o e=>⟨o,e⟩,bf _,λζ ζ=>rfl⟩
theorem af.trans {W s s' s''} (a:af W s s') (b:af W s' s''):af W s s'':=
 ⟨a.kb.trans b.kb,λx o e=>aE (a.th x o e) λo1 e1=>b.th x o1 e1,al a.gsz b.gsz,λi hi=>(b.gk i (b9 hi a.gsz)).trans (a.gk i hi)⟩
theorem af.mono {W W' s s'} (a:af W s s') (hs:∀b,b∈W->b∈W'):af W' s s':=⟨a.kb.mono hs,a.th,a.gsz,a.gk⟩
theorem af.nil {W s s'} (a:af [] s s'):af W s s':=a.mono λζ q=>nomatch q
theorem af.keep {W} {s:ae} {h' tk} (k:∀b o,s.heap.get? b=some o->h'.get? b=some o):af W s {s with heap:=h',toks:=tk}:=
 ⟨Kb.of_keep k,λb o e=>⟨o,k b o e⟩,bf _,λζ ζ=>rfl⟩
theorem af.toks {W} {s:ae} {tk}:af W s {s with toks:=tk}:=af.keep (h':=s.heap) λζ ζ e=>e
theorem af.but {W} {s:ae} {h':Heap} {tk a} (ha:a∈W) (k:iX a s.heap h') (ht:∃o,h'.get? a=some o):af W s {s with heap:=h',toks:=tk}:=
 ⟨λb o hb ζ e=>(k.2 b (λq=>hb (q▸ha))).trans e,λb o e=>by
  by_cases q:b=a
  ·exact q▸ht
  ·exact⟨o,(k.2 b q).trans e⟩,bf _,λζ ζ=>rfl⟩
section
variable {X:Cx} {s:ae}
theorem tr.keeps {h h':Heap} {q:Tb} (t:tr h q) (k:∀b o,h.get? b=some o->h'.get? b=some o):tr h' q:=by
 rcases t with t|⟨c',t,r,o,e,hc⟩
 ·exact .inl (k _ _ t)
 ·exact .inr ⟨c',k _ _ t,r.keeps k,o,k _ _ e,hc⟩
theorem ai.keep (S:ai X s) {h':Heap} {tk:df} (k:∀b o,s.heap.get? b=some o->h'.get? b=some o):ai X {s with heap:=h',toks:=tk} where
 x:=S.x
 old:=S.old.step_keeps k
 g:=S.g.keeps k
 b:=S.b.keeps k
 lim:=S.lim.keeps k
 tab:=λq hq=>⟨(S.tab q hq).1.keeps k,(S.tab q hq).2.keeps k⟩
 bare:=S.bare
 os:=S.os
theorem ai.tok (S:ai X s) {tk:df}:ai X {s with toks:=tk}:=S.keep (h':=s.heap) λζ ζ e=>e
theorem J3 {h₀ h h':Heap} (K:pF h₀ h) {a:Addr} (ha:h₀.get? a=none) (hs:iX a h h'):pF h₀ h':=by
 have ne:∀b o,h₀.get? b=some o->b≠a:=λb o e q=>by (replace e:=q▸e;replace e:=ha▸e);exact ac e
 refine⟨λb o e=>?_,λb o e=>aE (K.there b o e) λo' ho'=>⟨o',(hs.2 b (ne b o e)).trans ho'⟩⟩;rcases K.old b o e with x|⟨t,hc,vs,more,hv,x⟩|⟨rfl,hc,⟨o',es,n,ho',r⟩,z⟩
 ·exact .inl ((hs.2 b (ne b o e)).trans x)
 ·exact .inr (.inl ⟨t,hc,vs,more,hv,(hs.2 b (ne b o e)).trans x⟩)
 ·exact .inr (.inr ⟨rfl,hc,⟨o',es,n,(hs.2 _ (ne _ o e)).trans ho',r⟩,λkey=>by rw[Df (hs.2 _ (ne _ o e)) key];exact z key⟩)
noncomputable def h8 (o:ek):Prop:=o.cls≠.type "code" \/∀vs,o.data≠.fields vs
theorem Jm {h h':Heap} {c P a:Addr} (x:uE h c P) (hs:iX a h h') (hc:∀o,h.get? a=some o->h8 o):uE h' c P:=by obtain ⟨o,vs,file,tf,flags,tg,inF,text,tt,e,hcl,hd,r⟩:=x;exact⟨o,vs,file,tf,flags,tg,inF,text,tt,(hs.2 c (λq=>(hc o (q▸e)).elim (λz=>z hcl) λz=>z _ hd)).trans e,hcl,hd,r⟩
theorem ai.same (S:ai X s) {a:Addr} {h':Heap} {tk:df} (ha:X.h0.get? a=none) (hc:∀o,s.heap.get? a=some o->h8 o) (hs:iX a s.heap h'):ai X {s with heap:=h',toks:=tk} where
 x:=S.x
 old:=J3 S.old ha hs
 g:=S.g.sameBut hs λq=>by refine aE S.x.g λo e=>?_;replace e:=q▸e;replace e:=ha▸e;exact ac e
 b:=S.b.sameBut hs λq=>by refine aE S.x.b λo e=>?_;replace e:=q▸e;replace e:=ha▸e;exact ac e
 lim:=by refine ah S.lim λmc n r=>?_;exact az mc (n.sameBut hs λq=>by {refine aE S.x.st λo e=>?_;replace e:=q▸e;replace e:=ha▸e;exact ac e}) r
 tab:=λq hq=>by
  have hP:q.P≠a:=λz=>by refine bR (S.x.tb q hq) λc0 ps ζ e=>?_;replace e:=z▸e;replace e:=ha▸e;exact ac e
  refine⟨Jm (S.tab q hq).1 hs hc,?_⟩;rcases (S.tab q hq).2 with t|⟨c',t,⟨c2,o2,vs,tt,e1,e2,r⟩,o,e,hcl⟩
  ·exact .inl ((hs.2 _ hP).trans t)
  ·cases e1;have eo:o=o2:=by replace e2:=e▸e2;exact kr e2
   have hne:c'≠a:=λz=>(hc o (z▸e)).elim (λz=>z hcl) λz=>z _ (eo▸r.1);exact .inr ⟨c',(hs.2 _ hP).trans t,⟨c',o2,vs,tt,rfl,(hs.2 _ hne).trans e2,r⟩,o,(hs.2 _ hne).trans e,hcl⟩
 bare:=S.bare
 os:=S.os
theorem ai.fresh (S:ai X s) {a:Addr} (h:s.heap.get? a=none):X.h0.get? a=none:=by
 cases e:X.h0.get? a with
 |none=>rfl
 |some o=>refine aE (S.old.there a o e) λo' e'=>?_;replace e':=h▸e';exact ac e'
theorem ai.new (S:ai X s):X.h0.get? s.heap.objs.size=none:=S.fresh eJ
end
structure aK (A:aO) (k:Nat):Prop where
 hh:A.handled=none
 d:A.depth+k<900
 u:A.units+40*k<9000
theorem aK.mono {A k j} (R:aK A k) (h:j<=k):aK A j:=⟨R.hh,by have:=R.d;exact Iy h this,by have:=R.u;exact ML h this⟩
theorem aK.deeper {A k} (R:aK A (k+1)) (env:Env):aK (A.deeper env) k:=
 ⟨R.hh,by have:=R.d;refine (?_:A.depth+1+k<900);exact H2 this,by have:=R.u;show A.units+3+40*k<9000;exact GD this⟩
theorem aK.depth {A k} (R:aK A k):A.depth<recursionLimit:=by have:=R.d;refine (?_:A.depth<1000);exact Nr this
noncomputable def bj (sc:Scope) (x:Str):Bool:=match sc.names.lookup x with
 |some .local=>true
 |some .cell=>true
 |some .free=>true
 |_=>false
noncomputable def bb (sc:Scope) (x:Str):Bool:=match sc.names.lookup x with
 |some .local=>true
 |some .cell=>true
 |_=>false
noncomputable def bS (sc:Scope) (x:Str):Bool:=match sc.names.lookup x with
 |some .globalImplicit=>true
 |_=>false
noncomputable def ed (sc:Scope) (x:Str):Bool:=match sc.names.lookup x with
 |some .cell=>true
 |some .free=>true
 |_=>false
theorem rm {sc:Scope} {x:Str} {G:Prop} (h:ed sc x=true) (a:sc.names.lookup x=some .cell->G) (b:sc.names.lookup x=some .free->G):G:=by
 revert h;delta ed;refine cn (sc.names.lookup x) λo e=>?_
 induction o using bW with
 |none=>exact aZ
 |some k=>induction k using xZ with
  |cell=>exact λζ=>a e
  |free=>exact λζ=>b e
  |_=>exact aZ
theorem Oe {sc:Scope} {x:Str} {G:Prop} (h:bb sc x=true) (a:sc.names.lookup x=some .local->G) (b:sc.names.lookup x=some .cell->G):G:=by
 revert h;delta bb;refine cn (sc.names.lookup x) λo e=>?_
 induction o using bW with
 |none=>exact aZ
 |some k=>induction k using xZ with
  |«local»=>exact λζ=>a e
  |cell=>exact λζ=>b e
  |_=>exact aZ
theorem uv {sc:Scope} {x:Str} (h:bS sc x=true):sc.names.lookup x=some .globalImplicit:=by
 revert h;delta bS;refine cn (sc.names.lookup x) λo e=>?_
 induction o using bW with
 |none=>exact aZ
 |some k=>induction k using xZ with
  |globalImplicit=>exact λζ=>rfl
  |_=>exact aZ
noncomputable def gS (σ:Sg) (x:Str):Option PV:=match σ.lookup x with
 |some (.sh d)=>some d
 |_=>none
noncomputable def iu (σ:Sg) (x:Str):Option PV:=match σ.lookup x with
 |some (.sh d)=>some d
 |some (.own xs)=>some (.list xs)
 |none=>none
theorem zw {σ:Sg} {x:Str} {d:PV} (h:gS σ x=some d):σ.lookup x=some (.sh d):=by
 revert h;delta gS;refine cn (σ.lookup x) λo e=>?_
 induction o using bW with
 |none=>exact ac
 |some k=>induction k using Ent.casesOn with
  |sh d=>exact λq=>congrArg (λz=>some (Ent.sh z)) (aj q)
  |own ds=>exact ac
theorem Ia {σ:Sg} {x:Str} {d:PV} {G:Prop} (h:iu σ x=some d) (a:σ.lookup x=some (.sh d)->G) (b:∀xs,σ.lookup x=some (.own xs)->PV.list xs=d->G):G:=by
 revert h a b;delta iu;refine aX (σ.lookup x) λo=>?_
 induction o using bW with
 |none=>exact ac
 |some k=>induction k using Ent.casesOn with
  |sh d=>exact λq a ζ=>a (congrArg (λz=>some (Ent.sh z)) (aj q))
  |own ds=>exact λq ζ b=>b ds rfl (aj q)
noncomputable def cE (σ:Sg) (e:ab):Bool:=match e with
 |.Name x _=>(match σ.lookup x with|some (.own _)=>true|_=>false)
 |_=>false
theorem dX {σ:Sg} {x:Str} {q:Pos} {d:PV} (h:σ.lookup x=some (.sh d)):cE σ (.Name x q)=false:=congrArg (λz:Option Ent=>match z with|some (.own _)=>true|_=>false) h
noncomputable def gg:List (Str×fK)->Bool
 |[]=>true
 |(x,_)::r=> !(r.any λy=>y.1==x)&&gg r
theorem B3 {x k r}:gg ((x,k)::r)=(!(r.any λy=>y.1==x)&&gg r):=rfl
noncomputable def cw (x:Str):Bool:=x != ag "__debug__" &&x != ag "__classdict__"
noncomputable def kh (sc sc':Scope):Bool:=
 (match sc'.kind with|.function=>true|_=>false)&&gg sc'.names&&
 sc'.names.all λy=>cw y.1&&match y.2 with|.free=>ed sc y.1|.globalExplicit=>false|_=>true
noncomputable def cj (sc':Scope) (σ:Sg):Sg:=sc'.names.filterMap λy=>match y.2 with
 |.free=>(match σ.lookup y.1 with|some (.sh d)=>some (y.1,.sh d)|_=>none)
 |_=>none
noncomputable def xO:Const->Option PV
 |.none=>some .none
 |.bool b=>some (.bool b)
 |.int i=>some (.int i)
 |.str x=>if bt x.length then some (.str x) else none
 |_=>none
noncomputable def gA (f:Sg->ab->PV->Option Sg):Sg->List ab->List PV->Option Sg
 |σ,[],[]=>some σ
 |σ,t::ts,x::xs=>match f σ t x with
  |some σ'=>gA f σ' ts xs
  |none=>none
 |_,_,_=>none
noncomputable def bu (fr:Bool) (sc:Scope):Nat->Sg->ab->PV->Option Sg
 |0,_,_,_=>none
 |n+1,σ,t,d=>match t with
  |.Name x _=>if bb sc x&&(!fr||(σ.lookup x).isNone) then some (put σ x (.sh d)) else none
  |.Tuple ts _ _=>(match d with
   |.tup xs=>gA (bu fr sc n) σ ts xs
   |.list xs=>gA (bu fr sc n) σ ts xs
   |_=>none)
  |_=>none
section
variable {fr:Bool} {sc:Scope} {n:Nat} {σ σ1:Sg}
theorem Cd {x:Str} {q:Pos} {d:PV} (hx:bb sc x=true) (h:(!fr||(σ.lookup x).isNone)=true):bu fr sc (n+1) σ (.Name x q) d=some (put σ x (.sh d)):=if_pos (jT.mpr ⟨hx,h⟩)
theorem jC {f:Sg->ab->PV->Option Sg} {t:ab} {ts:List ab} {x:PV} {xs:List PV} {o:Option Sg} (h:f σ t x=some σ1) (r:gA f σ1 ts xs=o):gA f σ (t::ts) (x::xs)=o:=by refine (?_:(match f σ t x with|some σ'=>gA f σ' ts xs|none=>none)=o);exact aa h r
end
noncomputable def fN (a k:PV):Option PV:=match a,k with
 |.list xs,.int i=>(iD i xs.length).bind (xs[·]?)
 |.tup xs,.int i=>(iD i xs.length).bind (xs[·]?)
 |.str x,.int i=>((iD i x.length).bind (x.cps[·]?)).map λc=>.str ⟨#[c]⟩
 |_,_=>none
noncomputable def sX:Option PV->Option (Option Int)
 |none=>some none
 |some .none=>some none
 |some (.int i)=>if decide (-2^62<i)&&decide (i<2^62) then some (some i) else none
 |_=>none
noncomputable def eG (a:PV) (lo hi st:Option Int):Option PV:=
 if st==some 0 then none else match a with
 |.list xs=>let (x,y,z):=hJ lo hi st xs.length;some (.list ((mF x y z).filterMap (xs[·]?)))
 |.str x=>if st==none then some (.str (ll x lo hi)) else none
 |_=>none
noncomputable def pr:List PV->Option (List Str)
 |[]=>some []
 |.str x::r=>(pr r).map (x:: ·)
 |_::_=>none
noncomputable def ji:List PV->Option (List Int)
 |[]=>some []
 |.int x::r=>(ji r).map (x:: ·)
 |_::_=>none
noncomputable def eY (y:Str):List Str:=y.cps.toList.map λc=>⟨#[c]⟩
noncomputable def eK (x:Str):List PV:=(eY x).map .str
noncomputable def qM (x y:Str) (i j:Int):Int:=match jr x y i.toNat j.toNat 1 with
 |k::_=>(k:Int)
 |[]=> -1
noncomputable def cY (r:PV) (name:Str) (as:List PV):Option PV:=
 match r,as with
 |.str x,[]=>if name== "split" &&bt (uF x (x.length+1)).length&&bt (ky x).length&&(ky x).all (λy=>bt y.length) then some (.list ((ky x).map .str)) else none
 |.str x,[.str y]=>
  if name== "split" then (if y.length != 0&&bt (x.length+2) then some (.list ((Txt.split x y).map .str)) else none)
  else if name== "count" then some (.int (Txt.count x y))
  else if name== "startswith" then some (.bool (x1 x y))
  else if name== "endswith" then some (.bool (x2 x y))
  else none
 |.str x,[.list ys]=>if name== "join" then (match pr ys with
   |some l=>if JoinOk x l&&bt (rL x l).length then some (.str (rL x l)) else none
   |none=>none) else none
 |.str x,[.str y,.int i,.int j]=>if name== "find" &&decide (0<=i)&&decide (i<=x.length)&&decide (0<=j)&&decide (j<=x.length) then some (.int (qM x y i j)) else none
 |_,_=>none
noncomputable def dr (O:Orc) (f:Str) (as:List PV):Option PV:=
 match as with
 |[.list xs]=>
  if f== "sum" then (ji xs).map λl=>.int l.sum
  else if f== "len" then some (.int (xs.length:Nat))
  else if f== "max" then (match ji xs with|some (y::l)=>some (.int (l.foldl ew y))|_=>none)
  else O.fn f as
 |[.str x]=>if f== "len" then some (.int (x.length:Nat)) else O.fn f as
 |[.bool b]=>if f== "int" then some (.int (if b then 1 else 0)) else O.fn f as
 |[.int i]=>if f== "hex" then (if bt (Dh "0x" 16 i).length then some (.str (Dh "0x" 16 i)) else none) else O.fn f as
 |_=>O.fn f as
noncomputable def fT:List PV->List PV->List PV
 |x::xs,y::ys=>.tup [x,y]::fT xs ys
 |_,_=>[]
noncomputable def du (k:Nat):List PV->List PV
 |[]=>[]
 |x::xs=>.tup [.int k,x]::du (k+1) xs
noncomputable def dU (a b:Int):List PV:=(cL (b - a).toNat).map λ(k:Nat)=>.int (a+(k:Int))
noncomputable def gn:List PV->List PV->List PV->List PV
 |x::xs,y::ys,z::zs=>.tup [x,y,z]::gn xs ys zs
 |_,_,_=>[]
noncomputable def oO:PV->Option (List PV)
 |.list xs=>some xs
 |.tup xs=>some xs
 |.str x=>some (eK x)
 |_=>none
noncomputable def j9 (f:ab->Option Bool):List ab->Option Bool
 |[]=>some true
 |e::es=>match f e with
  |some true=>j9 f es
  |some false=>some false
  |none=>none
noncomputable def ie (asg:Sg->PV->Option Sg) (tst:Sg->Option Bool) (body:Sg->Option (List PV)):List PV->Sg->Option (List PV)
 |[],_=>some []
 |d::ds,σ=>match asg σ d with
  |none=>none
  |some σ'=>match tst σ' with
   |none=>none
   |some true=>(match body σ',ie asg tst body ds σ with
    |some r,some q=>some (r++q)
    |_,_=>none)
   |some false=>ie asg tst body ds σ
theorem CZ {f g b d ds σ}:ie f g b (d::ds) σ=(match f σ d with|none=>none|some σ1=>(match g σ1 with|none=>none|some true=>(match b σ1,ie f g b ds σ with|some r,some q=>some (r++q)|_,_=>none)|some false=>ie f g b ds σ)):=rfl
noncomputable def jK (f:ab->Option PV) (op:BoolOp):List ab->Option PV
 |[]=>none
 |[e]=>f e
 |e::es=>match f e with
  |none=>none
  |some d=>(match op,eO d with
   |.And,some false=>some d
   |.Or,some true=>some d
   |_,some _=>jK f op es
   |_,none=>none)
noncomputable def m9 (f:ab->Option Bool) (op:BoolOp):List ab->Option Bool
 |[]=>some (op==.And)
 |e::es=>match op,f e with
  |.And,some false=>some false
  |.Or,some true=>some true
  |_,some _=>m9 f op es
  |_,none=>none
noncomputable def ke:ab->Bool
 |.Call (.Name _ _) [] [] _=>true
 |_=>false
noncomputable def dM:ab->Bool
 |.Tuple .. =>true
 |_=>false
noncomputable def dZ (o:Bool) (d:Option PV):Option PV:=if o then (match d with|some d=>if d.flat then some d else none|none=>none) else d
noncomputable def kR (d:Option (List PV)) (f:List PV->PV):Option PV:=match d with
 |some xs=>if bt xs.length then some (f xs) else none
 |none=>none
mutual
noncomputable def pe (O:Orc):Nat->Scope->Sg->ab->Option PV
 |0,_,_,_=>none
 |n+1,sc,σ,e=>match e with
  |.Constant c _ _=>xO c
  |.Name x _=>if bj sc x then gS σ x else if bS sc x then O.gc x else none
  |.BinOp l op r _=>(match pe O n sc σ l,pe O n sc σ r with
   |some a,some b=>bV op a b
   |_,_=>none)
  |.UnaryOp .USub x _=>(match pe O n sc σ x with
   |some (.int i)=>some (.int (-i))
   |_=>none)
  |.BoolOp op vs _=>jK (pe O n sc σ) op vs
  |.IfExp t b o _=>(match pT O n sc σ t with
   |some true=>pe O n sc σ b
   |some false=>pe O n sc σ o
   |none=>none)
  |.Compare l [op] [r] _=>(match pa O n sc σ l,pa O n sc σ r with
   |some a,some b=>(fE op a b).map .bool
   |_,_=>none)
  |.List es _=>kR (aY (pe O n sc σ) es) .list
  |.Tuple es _ _=>kR (aY (pe O n sc σ) es) .tup
  |.Subscript v (.Slice lo hi st _) _=>(match pe O n sc σ v,i8 O n sc σ lo,i8 O n sc σ hi,i8 O n sc σ st with
   |some a,some lo,some hi,some st=>eG a lo hi st
   |_,_,_,_=>none)
  |.Subscript v i _=>(match pa O n sc σ v,pe O n sc σ i with
   |some a,some k=>dZ (cE σ v) (fN a k)
   |_,_=>none)
  |.ListComp elt (g::gs) sc' _=>if kh sc sc' then (match cr O n sc σ (dM g.target) g.iter with
    |some xs=>kR (bT O n sc' (cj sc' σ) elt g gs xs) .list
    |none=>none) else none
  |.Call (.Attribute o name apos) args [] pos=>if apos.endLine==pos.line&&iY args.length 30&& !ke o then (match o,args with
   |.Name x _,args=>if bj sc x then (match iu σ x,aY (pa O n sc σ) args with
      |some r,some ds=>dZ (cE σ o||args.any (cE σ)) (cY r name ds)
      |_,_=>none)
     else if bS sc x&&name== "get" then (match aY (pa O n sc σ) args with|some ds=>dZ true (O.dget x ds)|none=>none) else none
   |o,args=>(match pe O n sc σ o,aY (pa O n sc σ) args with
      |some r,some ds=>dZ (args.any (cE σ)) (cY r name ds)
      |_,_=>none)) else none
  |.Call (.Name f _) args [] _=>if bS sc f then (match aY (pa O n sc σ) args with|some ds=>dZ (args.any (cE σ)) (dr O f ds)|none=>none) else none
  |_=>none
noncomputable def pa (O:Orc):Nat->Scope->Sg->ab->Option PV
 |0,_,_,_=>none
 |n+1,sc,σ,e=>match e with
  |.Name x p=>if bj sc x then iu σ x else pe O n sc σ (.Name x p)
  |e=>pe O n sc σ e
noncomputable def i8 (O:Orc):Nat->Scope->Sg->Option ab->Option (Option Int)
 |0,_,_,_=>none
 |n+1,sc,σ,e=>match e with
  |none=>some none
  |some e=>(match pe O n sc σ e with|some d=>sX (some d)|none=>none)
noncomputable def pT (O:Orc):Nat->Scope->Sg->ab->Option Bool
 |0,_,_,_=>none
 |n+1,sc,σ,e=>match e with
  |.UnaryOp .Not x _=>(pT O n sc σ x).map (!·)
  |.BoolOp op vs _=>m9 (pT O n sc σ) op vs
  |.IfExp .. =>none
  |e=>(match pa O n sc σ e with|some d=>eO d|none=>none)
noncomputable def cr (O:Orc):Nat->Scope->Sg->Bool->ab->Option (List PV)
 |0,_,_,_,_=>none
 |n+1,sc,σ,tt,e=>match e with
  |.Call (.Name f _) args [] _=>if bS sc f then (match aY (pe O n sc σ) args with
    |some [.int b]=>if f== "range" then (if decide (b<=1000000)&&decide (-1000000<=b) then some (dU 0 b) else none) else none
    |some [.list xs]=>if f== "enumerate" &&tt then some (du 0 xs) else none
    |some [.tup xs]=>if f== "enumerate" &&tt then some (du 0 xs) else none
    |some [.str x]=>if f== "enumerate" &&tt then some (du 0 (eK x)) else none
    |some [.list xs,.list ys]=>if f== "zip" &&tt then some (fT xs ys) else none
    |some [.list xs,.list ys,.list zs]=>if f== "zip" &&tt&&ys.length==xs.length&&zs.length==xs.length then some (gn xs ys zs) else none
    |_=>none) else none
  |.Set .. =>none
  |e=>(match pe O n sc σ e with|some d=>oO d|none=>none)
noncomputable def bT (O:Orc):Nat->Scope->Sg->ab->c8->List c8->List PV->Option (List PV)
 |0,_,_,_,_,_,_=>none
 |n+1,sc,σ,elt,g,gs,xs=>if g.is_async==0&&gs.all (λg=>g.is_async==0) then
   ie (λσ d=>bu true sc 4 σ g.target d) (λσ=>j9 (pT O n sc σ) g.ifs)
    (λσ=>match gs with
     |[]=>(match pe O n sc σ elt with|some d=>some [d]|none=>none)
     |g'::gs'=>(match cr O n sc σ (dM g'.target) g'.iter with|some ys=>bT O n sc σ elt g' gs' ys|none=>none)) xs σ
  else none
end
noncomputable def qc:ab->Bool
 |.Name .. =>false
 |_=>true
noncomputable def m0:ab->Bool
 |.Slice .. =>false
 |_=>true
section
variable {O:Orc} {n:Nat} {sc sc':Scope} {σ:Sg} {p q:Pos}
theorem Gj {c k}:pe O (n+1) sc σ (.Constant c k p)=xO c:=rfl
theorem rA {x:Str}:pe O (n+1) sc σ (.Name x p)=(if bj sc x=true then gS σ x else if bS sc x=true then O.gc x else none):=rfl
theorem xl {l r:ab} {op}:pe O (n+1) sc σ (.BinOp l op r p)=(match pe O n sc σ l,pe O n sc σ r with
   |some a,some b=>bV op a b
   |_,_=>none):=rfl
theorem zX {x:ab}:pe O (n+1) sc σ (.UnaryOp .USub x p)=(match pe O n sc σ x with
   |some (.int i)=>some (.int (-i))
   |_=>none):=rfl
theorem y0 {t b o:ab}:pe O (n+1) sc σ (.IfExp t b o p)=(match pT O n sc σ t with
   |some true=>pe O n sc σ b
   |some false=>pe O n sc σ o
   |none=>none):=rfl
theorem tD {l r:ab} {op}:pe O (n+1) sc σ (.Compare l [op] [r] p)=(match pa O n sc σ l,pa O n sc σ r with
   |some a,some b=>(fE op a b).map .bool
   |_,_=>none):=rfl
theorem xr {es:List ab} {k}:pe O (n+1) sc σ (.Tuple es k p)=kR (aY (pe O n sc σ) es) .tup:=rfl
theorem B8 {v:ab} {lo hi st:Option ab}:pe O (n+1) sc σ (.Subscript v (.Slice lo hi st q) p)=(match pe O n sc σ v,i8 O n sc σ lo,i8 O n sc σ hi,i8 O n sc σ st with
   |some a,some lo,some hi,some st=>eG a lo hi st
   |_,_,_,_=>none):=rfl
theorem wK {v i:ab} (h:m0 i=true):pe O (n+1) sc σ (.Subscript v i p)=(match pa O n sc σ v,pe O n sc σ i with
   |some a,some k=>dZ (cE σ v) (fN a k)
   |_,_=>none):=by induction i using bE<;>first|rfl|exact aZ h|exact dz h
theorem uz {elt:ab} {g:c8} {gs:List c8}:pe O (n+1) sc σ (.ListComp elt (g::gs) sc' p)=(if kh sc sc'=true then (match cr O n sc σ (dM g.target) g.iter with
    |some xs=>kR (bT O n sc' (cj sc' σ) elt g gs xs) .list
    |none=>none) else none):=rfl
theorem tm {x name:Str} {args:List ab} {pos apos:Pos}:pe O (n+1) sc σ (.Call (.Attribute (.Name x q) name apos) args [] pos)=(if (apos.endLine==pos.line&&iY args.length 30&& !ke (.Name x q))=true then
     (if bj sc x=true then (match iu σ x,aY (pa O n sc σ) args with
      |some r,some ds=>dZ (cE σ (.Name x q)||args.any (cE σ)) (cY r name ds)
      |_,_=>none)
     else if (bS sc x&&name== "get")=true then (match aY (pa O n sc σ) args with|some ds=>dZ true (O.dget x ds)|none=>none) else none) else none):=rfl
theorem y9 {o:ab} {name:Str} {args:List ab} {pos apos:Pos} (h:qc o=true):pe O (n+1) sc σ (.Call (.Attribute o name apos) args [] pos)=(if (apos.endLine==pos.line&&iY args.length 30&& !ke o)=true then
     (match pe O n sc σ o,aY (pa O n sc σ) args with
      |some r,some ds=>dZ (args.any (cE σ)) (cY r name ds)
      |_,_=>none) else none):=by induction o using bE<;>first|rfl|exact aZ h|exact dz h
theorem wi {f:Str} {args:List ab} {fp:Pos}:pe O (n+1) sc σ (.Call (.Name f fp) args [] p)=(if bS sc f=true then (match aY (pa O n sc σ) args with|some ds=>dZ (args.any (cE σ)) (dr O f ds)|none=>none) else none):=rfl
theorem mY {tt:Bool} {f:Str} {args:List ab} {fp:Pos}:cr O (n+1) sc σ tt (.Call (.Name f fp) args [] p)=(if bS sc f=true then (match aY (pe O n sc σ) args with
    |some [.int b]=>if (f== "range")=true then (if (decide (b<=1000000)&&decide (-1000000<=b))=true then some (dU 0 b) else none) else none
    |some [.list xs]=>if (f== "enumerate" &&tt)=true then some (du 0 xs) else none
    |some [.tup xs]=>if (f== "enumerate" &&tt)=true then some (du 0 xs) else none
    |some [.str x]=>if (f== "enumerate" &&tt)=true then some (du 0 (eK x)) else none
    |some [.list xs,.list ys]=>if (f== "zip" &&tt)=true then some (fT xs ys) else none
    |some [.list xs,.list ys,.list zs]=>if (f== "zip" &&tt&&ys.length==xs.length&&zs.length==xs.length)=true then some (gn xs ys zs) else none
    |_=>none) else none):=rfl
noncomputable def CH:ab->Bool
 |.Call (.Name _ _) _ [] _=>true
 |.Set .. =>true
 |_=>false
theorem ql {tt:Bool} {e:ab} (h:CH e=false):cr O (n+1) sc σ tt e=(match pe O n sc σ e with|some d=>oO d|none=>none):=by
 induction e using bE with
 |Call f as kws pc=>
  induction f using bE with
  |Name z pz=>
   induction kws using aP with
   |nil=>first|exact aZ h|exact dz h
   |cons _ _=>rfl
  |_=>rfl
 |Set=>first|exact aZ h|exact dz h
 |_=>rfl
end
theorem dp (σ:Sg) (x:Str) (e:Ent) (z:Str):(put σ x e).lookup z=if z=x then some e else σ.lookup z:=by
 induction σ with
 |nil=>
  by_cases h:z=x
  ·subst h;refine (?_:d9 z [(z,e)]=_);simp[d9]
  ·have:(z==x)=false:=decide_eq_false h;refine (?_:d9 z [(x,e)]=_);simp[d9,this,h]
 |cons p r ih=>
  obtain ⟨y,f⟩:=p;refine aa LH ?_
  by_cases hxy:x=y
  ·subst hxy;simp only[beq_self_eq_true,if_true]
   by_cases h:z=x
   ·subst h;simp[d9]
   ·have:(z==x)=false:=decide_eq_false h;simp[d9,this,h]
  ·have h1:(x==y)=false:=decide_eq_false hxy;simp only[h1,ey,if_false]
   by_cases hzy:z=y
   ·subst hzy;have:z≠x:=λq=>hxy q.symm;simp[d9,this]
   ·have h2:(z==y)=false:=decide_eq_false hzy;simp only[d9,h2];exact ih
noncomputable def dO (env:Env) (h:Heap) (x:Str) (v:Value):Prop:=
 (env.kindOf x=some .local/\∃m,h.Ns env.locals m/\m x=some v)\/
 ((env.kindOf x=some .cell\/env.kindOf x=some .free)/\∃c,env.cells.lookup x=some c/\h.IsCell c (some v))
noncomputable def ay (own:List (Str×Addr)):List Addr:=own.map (·.2)
structure am (X:Cx) (sc:Scope) (env:Env) (σ:Sg) (own:List (Str×Addr)) (P:List Addr) (h:Heap):Prop where
 kind:env.scope.kind=.function
 glob:env.globals=dF
 bi:env.builtins=kx
 loc:∀x,sc.names.lookup x=some .local->env.kindOf x=some .local
 cel:∀x,ed sc x=true->(env.kindOf x=some .cell\/env.kindOf x=some .free)/\∃c,env.cells.lookup x=some c
 gl:∀x,bS sc x=true->env.kindOf x=some .globalImplicit
 nm:∀x k,sc.names.lookup x=some k->cw x=true
 ns:∃m,h.Ns env.locals m
 cells:∀x c,(x,c)∈env.cells->∃v,h.IsCell c v
 apart:∀x y c,(x,c)∈env.cells->(y,c)∈env.cells->x=y
 fl:X.h0.get? env.locals=none
 fc:∀x c,(x,c)∈env.cells->X.h0.get? c=none
 vars:∀x d,σ.lookup x=some (.sh d)->∃v,dO env h x v/\ao (P++ay own) h d v
 owns:∀x xs,σ.lookup x=some (.own xs)->∃a vs n,own.lookup x=some a/\dO env h x (.ref a)/\
  h.get? a=some {cls:=.type "list",data:=.seq vs.toArray n}/\vs.length<=sizeLine/\ax (P++ay own) h xs vs
 ownA:∀x y a,(x,a)∈own->(y,a)∈own->x=y
 ownF:∀x a,(x,a)∈own->X.h0.get? a=none/\∃its n,h.get? a=some {cls:=.type "list",data:=.seq its n}
 pin:∀b∈P,∃o,h.get? b=some o/\cK o=false
 ownU:∀x a b,(x,a)∈own->own.lookup x=some b->a=b
 ownP:∀x a,(x,a)∈own->a∉P
noncomputable def qP (sc:Scope) (env:Env):List Addr:=(env.cells.filter λp=>bb sc p.1).map (·.2)
theorem aM {σ:Sg} {x:Str} {e:Ent}:(put σ x e).lookup x=some e:=(dp σ x e x).trans (if_pos rfl)
theorem au {σ:Sg} {x y:Str} {e:Ent} {r:Option Ent} (h:y≠x) (hl:σ.lookup y=r):(put σ x e).lookup y=r:=(dp σ x e y).trans ((if_neg h).trans hl)
theorem er {sc:Scope} {env:Env} {a:Addr} (h:a∈qP sc env):∃x,(x,a)∈env.cells/\bb sc x=true:=by obtain ⟨⟨x,c⟩,hm,rfl⟩:=dG.mp h;refine be (lp.mp hm) λh1 h2=>?_;exact az x h1 h2
theorem NO {sc:Scope} {env:Env} {x:Str} {a:Addr} (h:(x,a)∈env.cells) (hx:bb sc x=true):a∈qP sc env:=
 dG.mpr ⟨(x,a),lp.mpr ⟨h,hx⟩,rfl⟩
noncomputable def aV (sc:Scope) (env:Env) (own:List (Str×Addr)):List Addr:=env.locals::(qP sc env++ay own)
theorem jb {W h h' c v} (x:Heap.IsCell h c v) (k:Kb W h h') (hc:c∉W):h'.IsCell c v:=
 ah x λo e hd=>⟨o,k c o hc (fy λvs q=>by replace q:=hd▸q;cases q) e,hd⟩
theorem nv {W h h' a m} (x:Heap.Ns h a m) (k:Kb W h h') (hc:a∉W):h'.Ns a m:=
 jH x λo es ep e hd r=>⟨o,es,ep,k a o hc (fy λvs q=>by replace q:=hd▸q;cases q) e,hd,r⟩
theorem dO.keep {env h h' x v} (r:dO env h x v) (k:Kb [] h h'):dO env h' x v:=by
 rcases r with ⟨h1,m,n,h2⟩|⟨h1,c,e,h2⟩
 ·exact .inl ⟨h1,m,nv n k (λq=>nomatch q),h2⟩
 ·exact .inr ⟨h1,c,e,jb h2 k (λq=>nomatch q)⟩
theorem am.keep {X sc env σ own P h h'} (V:am X sc env σ own P h) (k:Kb [] h h'):am X sc env σ own P h':=
 {V with
  pin:=λb hb=>ah (V.pin b hb) λo e ht=>⟨o,k b o (λq=>nomatch q) ht e,ht⟩
  ns:=aE V.ns λm n=>⟨m,nv n k (λq=>nomatch q)⟩
  cells:=λx c hm=>aE (V.cells x c hm) λv n=>⟨v,jb n k (λq=>nomatch q)⟩
  vars:=λx d e=>ah (V.vars x d e) λv h1 h2=>⟨v,h1.keep k,h2.keep k⟩
  owns:=λx xs e=>fw (V.owns x xs e) λa vs n h1 h2 h3 h4 h5=>⟨a,vs,n,h1,h2.keep k,k a _ (λq=>nomatch q) rfl h3,h4,h5.keep k⟩
  ownF:=λx a e=>be (V.ownF x a e) λh1 h_=>jJ h_ λits n h2=>⟨h1,its,n,k a _ (λq=>nomatch q) rfl h2⟩}
theorem cm {α:Type} {l:List (Str×α)} {n:Str} {c:α} (h:l.lookup n=some c):(n,c)∈l:=by
 induction l with
 |nil=>exact ac h
 |cons p r ih=>
  obtain ⟨y,d⟩:=p;rw[cM] at h;cases hb:n==y with
  |true=>replace h:=hb▸h;have h_:=aj h;clear h;subst h_;refine aa (bh hb) ?_;exact .head _
  |false=>replace h:=hb▸h;exact .tail _ (ih h)
section
variable {X:Cx} {A:aO} {E:Value->ae->Prop} {s:ae} {env:Env} {sc:Scope} {σ:Sg} {own:List (Str×Addr)} {P:List Addr}
theorem CC {x:Str} {v:Value} {Q:Value->ae->Prop} (V:am X sc env σ own P s.heap) (r:dO env s.heap x v) (hx:x≠ag "__classdict__") (h:Q v s):aq (aw X.prog X.w) A (loadName env x) Q E s:=by
 rcases r with ⟨h1,m,n,h2⟩|⟨h1|h1,c,e,h2⟩
 ·exact wpAny_loadName_local V.kind h1 n h2 h
 ·exact wpAny_loadName_cell V.kind h1 e h2 h
 ·exact wpAny_loadName_free V.kind h1 e h2 h (decide_eq_false hx)
theorem iM {x:Str} {pos:Pos} {v:Value} {Q:Value->ae->Prop} (V:am X sc env σ own P s.heap) (r:dO env s.heap x v) (hx:cw x=true) (h:Q v s):aq (aw X.prog X.w) A (aG (.Name x pos) env) Q E s:=by unfold cw at hx;simp only[bF,bne_iff_ne,ne_eq] at hx;exact wpAny_Name (CC V r hx.2 h) (decide_eq_false hx.1)
theorem tl {x:Str} {v:Value} {Q:Unit->ae->Prop} (V:am X sc env σ own P s.heap) (hx:bb sc x=true) (h:∀(h':Heap) (tk:df) (a:Addr),a∈env.locals::qP sc env->iX a s.heap h'->dO env h' x v->
   (∀z u,z≠x->dO env s.heap z u->dO env h' z u)->(∃m,h'.Ns env.locals m)->(∀y c,(y,c)∈env.cells->∃v,h'.IsCell c v)->
   (∀o,s.heap.get? a=some o->h8 o/\∀its n,o.data≠.seq its n)->Q () {s with heap:=h',toks:=tk}):aq (aw X.prog X.w) A (jU env x v) Q E s:=by
 have hk:=V.kind;refine aE V.ns λm n=>?_;have cellNe:∀y c,(y,c)∈env.cells->c≠env.locals:=λy c hm q=>by refine bR (V.cells y c hm) λu o e hd=>?_;refine jH n λo' es ep e' hd' ζ=>?_;clear n;replace e:=q▸e;replace e:=e'▸e;have h_:=aj e;clear e;subst h_;replace hd':=hd▸hd';cases hd'
 have hcase:env.kindOf x=some .local\/((env.kindOf x=some .cell\/env.kindOf x=some .free)/\∃c,env.cells.lookup x=some c):=by exact Oe hx (λe=>.inl (V.loc x e)) λe=>.inr (V.cel x (by unfold ed;exact aa e rfl))
 rcases hcase with hl|⟨hl,c,hc⟩
 ·refine wpAny_storeName_local hl n (λh' n' hs=>h h' _ env.locals js hs (.inl ⟨hl,_,n',if_pos rfl⟩) (λz u hz r=>?_) ⟨_,n'⟩ (λy c hm=>?_) (λo e=>?_)) (by refine aa hk ?_;rfl)
  ·rcases r with ⟨r1,m1,n1,r2⟩|⟨r1,c,e,r2⟩
   ·refine .inl ⟨r1,_,n',?_⟩;have e0:m1 z=m z:=by refine rE n1 λo1 es1 ep1 e1 d1 ζ q1=>?_;clear n1;refine rE n λo2 es2 ep2 e2 d2 ζ q2=>?_;clear n;replace e2:=e1▸e2;have h_:=aj e2;clear e2;subst h_;replace d2:=d1▸d2;cases d2;rw[<- q1,<- q2]
    refine (?_:(if z=x then some v else m z)=some u);refine aa (if_neg hz) (aH e0 ?_);exact r2
   ·exact .inr ⟨r1,c,e,r2.sameBut hs (cellNe z c (cm e))⟩
  ·refine aE (V.cells y c hm) λu r=>?_;exact⟨u,r.sameBut hs (cellNe y c hm)⟩
  ·refine jH n λo' es ep e' hd' ζ=>?_;clear n;replace e:=e'▸e;have h_:=aj e;clear e;subst h_;exact⟨.inr (λvs q=>by replace q:=hd'▸q;cases q),(λits k q=>by replace q:=hd'▸q;cases q)⟩
 ·have hm:=cm hc;refine aE (V.cells x c hm) λv0 hv0=>?_;have fin:aq (aw X.prog X.w) A (cellSet c (some v)) Q E s:=by
   refine wpAny_cellSet hv0 λh' hc' hs=>h h' _ c (cg _ (NO hm hx)) hs (.inr ⟨hl,c,hc,hc'⟩) (λz u hz r=>?_)
    ⟨m,n.sameBut hs (cC (cellNe x c hm))⟩ (λy c2 hm2=>?_) (λo e=>?_)
   ·rcases r with ⟨r1,m1,n1,r2⟩|⟨r1,c1,e,r2⟩
    ·exact .inl ⟨r1,m1,n1.sameBut hs (cC (cellNe x c hm)),r2⟩
    ·exact .inr ⟨r1,c1,e,r2.sameBut hs λq=>hz (V.apart z x c (q▸cm e) hm)⟩
   ·by_cases q:c2=c
    ·subst q;exact⟨_,hc'⟩
    ·refine aE (V.cells y c2 hm2) λu r=>?_;exact⟨u,r.sameBut hs q⟩
   ·refine ah hv0 λo' e' hd'=>?_;clear hv0;replace e:=e'▸e;have h_:=aj e;clear e;subst h_;exact⟨.inr (λvs q=>by replace q:=hd'▸q;cases q),(λits k q=>by replace q:=hd'▸q;cases q)⟩
  unfold jU;have hb:(env.kindOf x==some Sy&&env.blockKind != SA)=false:=by
   rcases hl with hl|hl<;>refine aa hl ?_<;>rfl
  refine aa hb ?_;have hcl:(env.scope.kind==ScopeKind.class&&env.kindOf x==some pG)=false:=by refine aa hk ?_;rfl
  rcases hl with hl|hl
  ·simp only[hl,ey,if_false];replace hcl:=hl▸hcl;rw[if_neg (by refine aa hcl ?_;exact iZ)];exact ak (PX hc fin)
  ·simp only[hl,ey,if_false];replace hcl:=hl▸hcl;rw[if_neg (by refine aa hcl ?_;exact iZ)];exact ak (PX hc fin)
end
noncomputable def ee (own:List (Str×Addr)) (x:Str):List (Str×Addr):=own.filter λp=>p.1 != x
theorem cP {own:List (Str×Addr)} {x:Str} {p} (h:p∈ee own x):p∈own/\p.1≠x:=by unfold ee at h;refine be (lp.mp h) λh1 h2=>?_;exact⟨h1,by simpa using h2⟩
theorem ma {own:List (Str×Addr)} {x z:Str} (hz:z≠x):(ee own x).lookup z=own.lookup z:=by
 induction own with
 |nil=>rfl
 |cons p r ih=>
  obtain ⟨y,a⟩:=p;unfold ee at ih⊢
  by_cases hy:y=x
  ·subst hy;have h1:(z==y)=false:=by simpa using hz
   simp only[pH,bne_self_eq_false,ey,if_false,cM,h1];exact ih
  ·have h1:(y != x)=true:=by simpa using hy
   simp only[pH,h1,if_true,cM];cases z==y<;>simp[ih]
theorem gw {own:List (Str×Addr)} {x:Str} {b} (h:b∈ay (ee own x)):b∈ay own:=by refine ah (dG.mp h) λp hp e2_=>?_;subst e2_;exact mG (cP hp).1
noncomputable def dD (own own':List (Str×Addr)) (s:ae):Prop:=∀b,b∈ay own'->b∈ay own\/s.heap.get? b=none
theorem dD.refl {own s}:dD own own s:=λζ h=>.inl h
theorem OE {sc env own own'} {s:ae} (h:dD own own' s):∀b,b∈aV sc env own'->b∈aV sc env own\/s.heap.get? b=none:=by
 intro b hb;unfold aV at hb ⊢;rcases av.mp hb with q|q
 ·exact .inl (av.mpr (.inl q))
 ·rcases bo.mp q with q|q
  ·exact .inl (cg _ (bI _ q))
  ·rcases h b q with q|q
   ·exact .inl (cg _ (bO _ q))
   ·exact .inr q
theorem af.trans_own {sc env own own'} {s s' s'':ae} (a:af (aV sc env own) s s') (h:dD own own' s) (b:af (aV sc env own') s' s''):af (aV sc env own) s s'':=
 ⟨λx o hx ht e=>b.kb x o (λq=>(OE h x q).elim hx λz=>by replace e:=z▸e;exact ac e) ht (a.kb x o hx ht e),
  λx o e=>aE (a.th x o e) λo1 e1=>b.th x o1 e1,
  al a.gsz b.gsz,λi hi=>(b.gk i (b9 hi a.gsz)).trans (a.gk i hi)⟩
theorem dD.trans {W gm own own' own''} {s s':ae} (h:dD own own' s) (a:jM W gm s s') (h':dD own' own'' s'):dD own own'' s:=λb hb=>
 (h' b hb).elim (h b) λq=>.inr (a.none q)
section
variable {X:Cx} {A:aO} {E:Value->ae->Prop} {s:ae} {env:Env} {sc:Scope} {σ:Sg} {own:List (Str×Addr)} {P:List Addr}
theorem oz {x:Str} {v:Value} {d:PV} {Q:Unit->ae->Prop} (S:ai X s) (V:am X sc env σ own P s.heap) (hx:bb sc x=true) (r:ao (P++ay own) s.heap d v) (h:∀s',ai X s'->af (aV sc env own) s s'->am X sc env (put σ x (.sh d)) (ee own x) P s'.heap->Q () s'):aq (aw X.prog X.w) A (jU env x v) Q E s:=by
 refine tl V hx λh' tk a ha hs hv hz hn hcel ho=>?_;have hex2:∃o,h'.get? a=some o/\cK o=false:=by
  rcases av.mp ha with q|q
  ·obtain ⟨m,o,_,_,e,hd,_⟩:=hn;exact az o (q▸e) (fy λvs z=>by replace z:=hd▸z;cases z)
  ·refine ah (er q) λy hm ζ=>?_;refine bR (hcel y _ hm) λv o e hd=>?_;exact az o e (fy λvs z=>by replace z:=hd▸z;cases z)
 have hex:∃o,h'.get? a=some o:=ah hex2 λo e ζ=>⟨o,e⟩
 have hfr:X.h0.get? a=none:=by
  rcases av.mp ha with q|q
  ·exact q▸V.fl
  ·refine ah (er q) λy hm ζ=>?_;exact V.fc y _ hm
 have hkb:Kb [a] s.heap h':=λb o hb ζ e=>(hs.2 b (λq=>hb (by simp[q]))).trans e;have haW:a∈aV sc env own:=by
  unfold aV;rcases av.mp ha with q|q
  ·exact av.mpr (.inl q)
  ·exact cg _ (bI _ q)
 have rep:∀{d v},ao (P++ay own) s.heap d v->ao (P++ay (ee own x)) h' d v:=λ{d v} r=>
  ao.kb hkb (λb hb=>.inr (.inr λo e=>(ho o (by simp at hb;exact hb▸e)).2)) (λb hb=>.inl ((bo.mp hb).elim (λq=>bI _ q) λq=>bO _ (gw q))) d v r
 have repL:∀{d v},ax (P++ay own) s.heap d v->ax (P++ay (ee own x)) h' d v:=λ{d v} r=>
  ax.kb hkb (λb hb=>.inr (.inr λo e=>(ho o (by simp at hb;exact hb▸e)).2)) (λb hb=>.inl ((bo.mp hb).elim (λq=>bI _ q) λq=>bO _ (gw q))) d v r
 have lst:∀{b its n},s.heap.get? b=some {cls:=.type "list",data:=.seq its n}->h'.get? b=some {cls:=.type "list",data:=.seq its n}:=λ{b its n} e=>
  (hs.2 b (λq=>(ho _ (q▸e)).2 _ _ rfl)).trans e
 refine h _ (S.same hfr (λo e=>(ho o e).1) hs) (af.but haW hs hex) ?_
 exact {V with
  ns:=hn
  pin:=λc hc=>by
   by_cases q:c=a
   ·exact q▸hex2
   ·refine ah (V.pin c hc) λo e ht=>?_;exact az o ((hs.2 c q).trans e) ht
  cells:=hcel
  vars:=λz d' e=>by
   rw[dp] at e
   by_cases q:z=x
   ·replace e:=(if_pos q)▸e;cases e;exact az v (q▸hv) (rep r)
   ·replace e:=(if_neg q)▸e;refine ah (V.vars z d' e) λu h1 h2=>?_;exact az u (hz z u q h1) (rep h2)
  owns:=λz xs e=>by
   rw[dp] at e
   by_cases q:z=x
   ·replace e:=(if_pos q)▸e;cases e
   ·replace e:=(if_neg q)▸e;refine fw (V.owns z xs e) λb vs n h1 h2 h3 h4 h5=>?_;exact jl b vs n ((ma q).trans h1) (hz z _ q h2) (lst h3) h4 (repL h5)
  ownA:=λz y b h1 h2=>V.ownA z y b (cP h1).1 (cP h2).1
  ownP:=λz b h1=>V.ownP z b (cP h1).1
  ownF:=λz b h1=>by obtain ⟨h2,its,n,h3⟩:=V.ownF z b (cP h1).1;exact⟨h2,its,n,lst h3⟩
  ownU:=λz b c h1 h2=>V.ownU z b c (cP h1).1 (by refine aH (ma (cP h1).2) ?_;exact h2)}
theorem Hk {s0:ae} {x:Str} {a:Addr} {n:Nat} {xs:List PV} {vs:List Value} {Q:Unit->ae->Prop} (S0:ai X s0) (S:ai X s) (V0:am X sc env σ own P s0.heap) (k:af [] s0 s) (hx:bb sc x=true) (ha0:s0.heap.get? a=none) (ha1:s.heap.get? a=some {cls:=.type "list",data:=.seq vs.toArray n}) (hlen:vs.length<=sizeLine) (r:ax (a::(P++ay own)) s.heap xs vs)
  (h:∀s',ai X s'->af (aV sc env own) s s'->dD own ((x,a)::ee own x) s0->am X sc env (put σ x (.own xs)) ((x,a)::ee own x) P s'.heap->Q () s'):
  aq (aw X.prog X.w) A (jU env x (.ref a)) Q E s:=by
 have V:=V0.keep k.kb;refine tl V hx λh' tk b hb hs hv hz hn hcel ho=>?_;have hex2:∃o,h'.get? b=some o/\cK o=false:=by
  rcases av.mp hb with q|q
  ·obtain ⟨m,o,_,_,e,hd,_⟩:=hn;exact az o (q▸e) (fy λvs z=>by replace z:=hd▸z;cases z)
  ·refine ah (er q) λy hm ζ=>?_;refine bR (hcel y _ hm) λv o e hd=>?_;exact az o e (fy λvs z=>by replace z:=hd▸z;cases z)
 have hex:∃o,h'.get? b=some o:=ah hex2 λo e ζ=>⟨o,e⟩
 have hfr:X.h0.get? b=none:=by
  rcases av.mp hb with q|q
  ·exact q▸V.fl
  ·refine ah (er q) λy hm ζ=>?_;exact V.fc y _ hm
 have hkb:Kb [b] s.heap h':=λc o hc ζ e=>(hs.2 c (λq=>hc (by simp[q]))).trans e;have hbW:b∈aV sc env own:=by
  unfold aV;rcases av.mp hb with q|q
  ·exact av.mpr (.inl q)
  ·exact cg _ (bI _ q)
 have hk0:Kb [b] s0.heap h':=(k.kb.mono (λζ q=>nomatch q)).trans hkb;have seqNe:∀o,s0.heap.get? b=some o->∀its n,o.data≠.seq its n:=λo e its n q=>by have e2:=k.kb b o (λq=>nomatch q) (fy λvs z=>by replace z:=q▸z;cases z) e;exact (ho o e2).2 its n q
 have hsub:∀c,c∈ay ((x,a)::ee own x)->c∈ay own\/s0.heap.get? c=none:=λc hc=>by
  rcases av.mp hc with q|q
  ·have q:c=a:=q;exact .inr (q▸ha0)
  ·exact .inl (gw q)
 have hsubP:∀c,c∈P++ay ((x,a)::ee own x)->c∈P++ay own\/s0.heap.get? c=none:=λc hc=>by
  rcases bo.mp hc with q|q
  ·exact .inl (bI _ q)
  ·exact (hsub c q).imp (λz=>bO _ z) id
 have rep:∀{d v},ao (P++ay own) s0.heap d v->ao (P++ay ((x,a)::ee own x)) h' d v:=λ{d v} r=>
  ao.kb hk0 (λc hc=>.inr (.inr λo e=>seqNe o (by simp at hc;exact hc▸e))) hsubP d v r
 have repL:∀{d v},ax (P++ay own) s0.heap d v->ax (P++ay ((x,a)::ee own x)) h' d v:=λ{d v} r=>
  ax.kb hk0 (λc hc=>.inr (.inr λo e=>seqNe o (by simp at hc;exact hc▸e))) hsubP d v r
 have lst:∀{b its n},s.heap.get? b=some {cls:=.type "list",data:=.seq its n}->h'.get? b=some {cls:=.type "list",data:=.seq its n}:=λ{b its n} e=>
  (hs.2 b (λq=>(ho _ (q▸e)).2 _ _ rfl)).trans e
 have newr:ax (P++ay ((x,a)::ee own x)) h' xs vs:=
  ax.kb hkb (λc hc=>.inr (.inr λo e=>(ho o (by simp at hc;exact hc▸e)).2)) (λc hc=>by
   rcases bo.mp hc with q|q
   ·exact .inl (cg _ (bI _ q))
   ·rcases av.mp q with q|q
    ·exact .inl (av.mpr (.inl q))
    ·exact .inl (cg _ (bO _ (gw q)))) xs vs r
 have oldne:∀z c,(z,c)∈own->c≠a:=λz c hm q=>by obtain ⟨_,its,n',e⟩:=V0.ownF z c hm;rw[q,ha0] at e;exact ac e
 refine h _ (S.same hfr (λo e=>(ho o e).1) hs) (af.but hbW hs hex) hsub ?_
 exact {V with
  ns:=hn
  pin:=λc hc=>by
   by_cases q:c=b
   ·exact q▸hex2
   ·refine ah (V.pin c hc) λo e ht=>?_;exact az o ((hs.2 c q).trans e) ht
  cells:=hcel
  vars:=λz d' e=>by
   rw[dp] at e
   by_cases q:z=x
   ·replace e:=(if_pos q)▸e;cases e
   ·replace e:=(if_neg q)▸e;refine ah (V0.vars z d' e) λu h1 h2=>?_;exact az u (hz z u q (h1.keep k.kb)) (rep h2)
  owns:=λz ys e=>by
   rw[dp] at e
   by_cases q:z=x
   ·replace e:=(if_pos q)▸e;cases e;exact jl a vs n (by refine aa q ?_;simp[d9]) (q▸hv) (lst ha1) hlen newr
   ·replace e:=(if_neg q)▸e;refine fw (V0.owns z ys e) λc us n' h1 h2 h3 h4 h5=>?_;refine jl c us n' ?_ (hz z _ q (h2.keep k.kb)) (lst (k.kb c _ (λq=>nomatch q) rfl h3)) h4 (repL h5);have h6:(z==x)=false:=by simpa using q
    simp only[cM,h6];exact (ma q).trans h1
  ownP:=λz c h1=>by
   rcases av.mp h1 with q|q
   ·cases q;intro hz;refine ah (V0.pin _ hz) λo e ζ=>?_;replace e:=ha0▸e;exact ac e
   ·exact V0.ownP z c (cP q).1
  ownA:=λz y c h1 h2=>by
   rcases av.mp h1 with q|q<;>rcases av.mp h2 with q2|q2
   ·cases q;cases q2;rfl
   ·cases q;exact absurd rfl (oldne y _ (cP q2).1)
   ·cases q2;exact absurd rfl (oldne z _ (cP q).1)
   ·exact V0.ownA z y c (cP q).1 (cP q2).1
  ownF:=λz c h1=>by
   rcases av.mp h1 with q|q
   ·cases q;exact⟨S0.fresh ha0,vs.toArray,n,lst ha1⟩
   ·obtain ⟨h2,its,n',h3⟩:=V.ownF z c (cP q).1;exact⟨h2,its,n',lst h3⟩
  ownU:=λz c e h1 h2=>by
   rcases av.mp h1 with q|q
   ·cases q;simp[d9] at h2;exact h2
   ·have h6:(z==x)=false:=by simpa using (cP q).2
    simp only[cM,h6] at h2
    exact V0.ownU z c e (cP q).1 (by refine aH (ma (cP q).2) ?_;exact h2)}
end
noncomputable abbrev Ev {α:Type} (X:Cx) (A:aO) (s:ae) (t:bw α) (P:α->ae->Prop):Prop:=
 aq (aw X.prog X.w) A t (λa s'=>ai X s'/\af [] s s'/\P a s') (λζ ζ=>False) s
theorem Ev.mono {α:Type} {X A s} {t:bw α} {P P':α->ae->Prop} (h:Ev X A s t P) (hp:∀a s',ai X s'->af [] s s'->P a s'->P' a s'):Ev X A s t P':=
 aA h (λa s' h_0=>aI h_0 λh1 h2 h3=>⟨h1,h2,hp a s' h1 h2 h3⟩) λζ ζ f=>f
theorem Ev.bind {α β:Type} {X A s} {t:bw α} {f:α->bw β} {P:α->ae->Prop} {P':β->ae->Prop} (h:Ev X A s t P) (hf:∀a s',ai X s'->af [] s s'->P a s'->Ev X A s' (f a) P'):Ev X A s (t>>=f) P':=
 ak (aA h (λa s' h_1=>aI h_1 λh1 h2 h3=>aA (hf a s' h1 h2 h3) (λζ ζ h_2=>aI h_2 λk1 k2 k3=>⟨k1,h2.trans k2,k3⟩) λζ ζ f=>f) λζ ζ f=>f)
theorem Ev.holding {α:Type} {X A s vs} {t:bw α} {P:α->ae->Prop} (h:Ev X A s t P):Ev X A s (holding vs t) P:=fi h
theorem Ev.pure {α:Type} {X A s} {a:α} {P:α->ae->Prop} (S:ai X s) (h:P a s):Ev X A s (Pure.pure a:bw α) P:=aS ⟨S,af.refl,h⟩
theorem Ev.at {X A s p} {P:Unit->ae->Prop} (S:ai X s) (h:P () s):Ev X A s (ea p) P:=eb ⟨S,af.refl,h⟩
theorem N8 (x y:Str):(x++y).length=x.length+y.length:=by refine (?_:(x.cps++y.cps).size=_);refine aa Array.size_append ?_;rfl
theorem eH {n:Nat} (h:bt n=true):n<=sizeLine:=by have:n<=16777216:=jt h;exact this
section
variable {X:Cx} {A:aO} {s:ae} {W:List Addr}
set_option backward.match.sparseCases true in
theorem zq:∀(vs keep:List Value) (S:ai X s) {P:Unit->ae->Prop},P () s->Ev X A s (Di vs keep) P:=by
 intro vs keep S P h;unfold Di;generalize (vs.filter fun|.ref _=>true|_=>false)=l
 induction l with
 |nil=>exact Ev.pure S h
 |cons v r ih=>
  induction r using aP with
  |nil=>exact Ev.pure S h
  |cons u r=>exact Ev.bind (P:=λζ s'=>s'=s) (fi (x3 ⟨S,af.refl,rfl⟩)) λζ s' ζ ζ e=>by refine aa e ?_;exact ih
theorem wR {vs:List Value} {m:bw Value} {P:Value->ae->Prop} (h:Ev X A s m P):Ev X A s (uG vs m) P:=by unfold uG;refine Ev.bind (Ev.holding h) λv s' S' ζ hp=>?_;refine Ev.bind (zq (P:=λζ s2=>s2=s') _ _ S' rfl) λζ s2 S2 ζ e=>?_;subst e;exact Ev.pure S2 hp
theorem ME {x y:Int} (h:(decide (bX x<=64)||decide (bX x+bX y<=1000000))=true):IntMulOk x y:=by
 unfold IntMulOk;intro q;simp only[bF,decide_eq_true_eq] at q;obtain ⟨⟨q1,q2⟩,q3⟩:=q;rcases Bool.or_eq_true_iff.mp h with h|h
 ·have:=of_decide_eq_true h;have e:shortFactorBits=64:=rfl;lia
 ·have h:=of_decide_eq_true h;unfold SD at q3;have e:bitsLine=134217728:=rfl;simp only[e,decide_eq_true_eq] at q3;lia
theorem HZ {l b:Addr} {vs ws:List Value} {Q:Value->ae->Prop} {E:Value->ae->Prop} {prog:Program} {w:iC} (hl:s.heap.IsList l vs.toArray) (hb:s.heap.IsList b ws.toArray) (hsz:vs.length+ws.length<=sizeLine) (h:Q (.ref s.heap.objs.size) {s with heap:=s.heap.push {cls:=.type "list",data:=.seq (vs++ws).toArray}}):
  aq (aw prog w) A (Dj .Add (.ref l) (.ref b)) Q E s:=by
 obtain ⟨⟨cls,dd,data,sl⟩,ho,hc,n,hd⟩:=id hl;obtain ⟨⟨cls2,dd2,data2,sl2⟩,ho2,hc2,n2,hd2⟩:=id hb;simp only at hc hd hc2 hd2;subst hc hd hc2 hd2;have e:vs.toArray++ws.toArray=(vs++ws).toArray:=by simp
 refine concat_meets ⟨_,ho,rfl⟩ ⟨_,ho2,rfl⟩ noFill_list_add seq_list_add SE SF (SG _ _) (list_addW l b vs.toArray ws.toArray n n2 dd dd2 sl sl2 (by simpa using hsz)) ⟨ho,ho2,?_⟩;refine aa e ?_;exact h
theorem zY {h:Heap} {its:Array Value}:(h.push {cls:=.type "tuple",data:=.seq its}).IsTuple h.objs.size its:=⟨_,dH _ rfl,rfl,_,rfl⟩
theorem bK {h:Heap} {o:ek}:∀b o',h.get? b=some o'->(h.push o).get? b=some o':=λζ ζ e=>cG _ e
noncomputable def cy (W:List Addr) (h:Heap):Prop:=∀b∈W,∃o,h.get? b=some o/\cK o=false
theorem cy.new {W h} (w:cy W h):h.objs.size∉W:=λq=>by refine ah (w _ q) λo e ζ=>?_;replace e:=eJ▸e;exact ac e
theorem cy.step {W s s' gm} (w:cy W s.heap) (k:jM [] gm s s'):cy W s'.heap:=λb hb=>ah (w b hb) λo e ht=>⟨o,k.kb b o (λq=>nomatch q) ht e,ht⟩
theorem qe {vs:List Value} {ds:List PV} (w:cy W s.heap) (r:ax W s.heap ds vs) (hl:vs.length<=sizeLine):ao W (s.heap.push {cls:=.type "list",data:=.seq vs.toArray}) (.list ds) (.ref s.heap.objs.size):=by skip;exact j4 _ vs rfl w.new ⟨_,dH _ rfl⟩ hl (r.keep (Kb.of_keep bK))
theorem OU {vs:List Value} {ds:List PV} (w:cy W s.heap) (r:ax W s.heap ds vs) (hl:vs.length<=sizeLine):ao W (s.heap.push {cls:=.type "tuple",data:=.seq vs.toArray}) (.tup ds) (.ref s.heap.objs.size):=by skip;exact j4 _ vs rfl w.new zY hl (r.keep (Kb.of_keep bK))
theorem LJ {x y:Int} (h:x.natAbs<2^60):PY x y=false:=by
 unfold PY;have h2:(if (x==0)=true then 0 else x.natAbs.log2/30+1)<=3:=by
  split
  ·exact iE _
  ·rename_i hx;have:x.natAbs≠0:=by intro q;apply hx;have:=Int.natAbs_eq_zero.mp q;simp[this]
   have:=(Nat.log2_lt this).mpr h;exact HV this
 simp only[Bool.and_eq_false_iff,decide_eq_false_iff_not];right;exact JP h2
theorem Kv {x:Str} {n:Int} (h:bt (x.length*n.toNat)=true) (h1:n<16777216) (h2: -16777216<n) (hx:x.length<=sizeLine):MulOk x n:=by
 have h0:=eH h;have e:sizeLine=16777216:=rfl;refine fx (by simp only[Dk,decide_eq_false_iff_not];lia) (λhn ζ=>?_) (λζ ζ=>?_)
 ·have h3:(0:Int)<n:=by lia
  have h4:((16777216:Int))<=(2^63 - 1)/n:=by rw[Int.le_ediv_iff_mul_le h3];lia
  exact FF hx e h4
 ·unfold PZ;simp only[decide_eq_false_iff_not];exact uH.mpr (by assumption)
theorem Me {x:Str} {n:Int}:(C6 x n).length<=x.length*n.toNat:=by
 have h:=len_mul x n
 by_cases hn:n<0
 ·simp only[hn,decide_true,if_true] at h;have:(C6 x n).length=0:=OL h;exact JQ h
 ·simp only[hn,decide_false,ey,if_false] at h;have e:((x.length*n.toNat:Nat):Int)=(x.length:Int)*n:=by rw[Int.natCast_mul,P0 (mB.mp (by assumption))]
  exact HE h e
theorem w1 {W:List Addr} {h:Heap} {xs:List PV} {vs:List Value} (r:ax W h xs vs):∀n:Nat,ax W h (fH n xs).flatten (fH n vs).flatten
 |0=>rfl
 |n+1=>by refine aa Dm (aa Dm (aa nV (aa nV ?_)));exact r.append (w1 r n)
theorem Bu {α:Type} {vs:List α} {n:Nat}:(fH n vs).flatten.length=vs.length*n:=by simp[P4]
theorem C1 {prog:Program} {w:iC} {E:Value->ae->Prop} {l:Addr} {vs:List Value} {x:Int} {u:df} {Q:Value->ae->Prop} (hl:s.heap.IsList l vs.toArray) (hlo: -16777216<x) (hhi:x<16777216) (hsz:vs.length*x.toNat<=sizeLine) (h:Q (.ref s.heap.objs.size) {s with heap:=s.heap.push {cls:=.type "list",data:=.seq ((fH x.toNat vs).flatten).toArray}}):aq (aw prog w) A (Dj .Mult (.ref l) (.int x u)) Q E s:=by
 obtain ⟨⟨cls,d,data,sl⟩,ho,hcl,k,hd⟩:=id hl;simp only at hcl hd;subst hcl hd;have hsz':vs.toArray.size*x.toNat<=16777216:=by simpa [sizeLine] using hsz
 refine wpAny_binaryOp_repeat_ref (T:= "list") (U:= "int") (by decide) ⟨_,ho,rfl⟩ (λs'=>x4 s' x u) noFill_list_mul F.fills_int_mul P5 repeat_list F.slot_int_index.lookup
  (mH P5 (x4 s x u) F.entry_int_rmul (F.args_int_rmul_2 _ _) (lm_int_rmul_list_any x u l vs.toArray k d sl)
   ⟨ho,rfl,⟨_,ho,rfl⟩,mH F.slot_list_mul ⟨_,ho,rfl⟩ F.entry_list_mul (F.args_list_mul_2 _ _)
    (lm_list_mul_any l vs.toArray k d sl x u (by simp[P6];exact N9 hlo hhi) (by lia) (by simp[SH,sizeLine];simpa using hsz'))
    ⟨ho,?_⟩⟩)
 rw[listMul_foldl_if];exact h
theorem E1 {op:mz} {a b d:PV} {va vb:Value} (S:ai X s) (R:aK A 1) (w:cy W s.heap) (ra:ao W s.heap a va) (rb:ao W s.heap b vb) (h:bV op a b=some d):Ev X A s (Dj op va vb) (λv s'=>ao W s'.heap d v):=by
 induction op using P7 with
 |Add=>
  induction a using PV.casesOn with
  |int x=>
   induction b using PV.casesOn with
   |int y=>obtain ⟨t,rfl⟩:=ra;obtain ⟨u,rfl⟩:=rb;have h:=aj h;subst h;exact add_int ⟨S.tok,af.toks,⟨_,rfl⟩⟩
   |_=>exact ac h
  |str x=>
   induction b using PV.casesOn with
   |str y=>obtain ⟨⟨t,rfl⟩,_⟩:=ra;obtain ⟨⟨u,rfl⟩,_⟩:=rb;delta bV at h;dsimp only at h;refine ifs h λhlen h=>?_;have h:=aj h;subst h;exact add_str (λt' tk=>⟨S.tok,af.toks,⟨_,rfl⟩,by rw[N8];exact eH hlen⟩) (eH hlen)
   |_=>exact ac h
  |list xs=>
   induction b using PV.casesOn with
   |list ys=>
    obtain ⟨l,vs,rfl,_,hl,_,rl⟩:=ra;obtain ⟨l',ws,rfl,_,hl',_,rl'⟩:=rb;delta bV at h;dsimp only at h;refine ifs h λhlen h=>?_;have h:=aj h;subst h;have hz:vs.length+ws.length<=sizeLine:=by refine aa rl.length (aa rl'.length ?_);exact eH hlen
    exact HZ hl.isList hl'.isList hz ⟨S.keep bK,af.keep bK,qe w (rl.append rl') (by refine aa ci ?_;exact hz)⟩
   |_=>exact ac h
  |_=>exact ac h
 |Sub=>
  induction a using PV.casesOn with
  |int x=>
   induction b using PV.casesOn with
   |int y=>obtain ⟨t,rfl⟩:=ra;obtain ⟨u,rfl⟩:=rb;have h:=aj h;subst h;exact sub_int ⟨S.tok,af.toks,⟨_,rfl⟩⟩
   |_=>exact ac h
  |_=>exact ac h
 |Mult=>
  induction a using PV.casesOn with
  |int x=>
   induction b using PV.casesOn with
   |int y=>obtain ⟨t,rfl⟩:=ra;obtain ⟨u,rfl⟩:=rb;delta bV at h;dsimp only at h;refine ifs h λhok h=>?_;have h:=aj h;subst h;exact mul_int ⟨S.tok,af.toks,⟨_,rfl⟩⟩ (ME hok)
   |_=>exact ac h
  |str x=>
   induction b using PV.casesOn with
   |int y=>obtain ⟨⟨t,rfl⟩,hx⟩:=ra;obtain ⟨u,rfl⟩:=rb;delta bV at h;dsimp only at h;refine ifs h λhok h=>?_;have h:=aj h;subst h;simp only[bF,decide_eq_true_eq] at hok;exact SB.mul (Kv hok.1.1 hok.1.2 hok.2 hx) λt' k=>⟨S.tok,af.toks,⟨_,rfl⟩,al Me (eH hok.1.1)⟩
   |_=>exact ac h
  |list xs=>
   induction b using PV.casesOn with
   |int y=>obtain ⟨l,vs,rfl,hl1,hl,hlen,rl⟩:=ra;obtain ⟨u,rfl⟩:=rb;delta bV at h;dsimp only at h;refine ifs h λhok h=>?_;have h:=aj h;subst h;simp only[bF,decide_eq_true_eq] at hok;have hz:=eH hok.2;replace hz:=(eh rl.length)▸hz;exact C1 hl.isList hok.1.2 hok.1.1 hz ⟨S.keep bK,af.keep bK,qe w (w1 rl _) (by refine aa Bu ?_;exact hz)⟩
   |_=>exact ac h
  |_=>exact ac h
 |FloorDiv=>
  induction a using PV.casesOn with
  |int x=>
   induction b using PV.casesOn with
   |int y=>obtain ⟨t,rfl⟩:=ra;obtain ⟨u,rfl⟩:=rb;delta bV at h;dsimp only at h;refine ifs h λhok h=>?_;have h:=aj h;subst h;simp only[bF,decide_eq_true_eq,bne_iff_ne,ne_eq] at hok;exact floordiv_int hok.1 ⟨S.tok,af.toks,⟨_,rfl⟩⟩ (.inl (LJ hok.2))
   |_=>exact ac h
  |_=>exact ac h
 |Mod=>
  induction a using PV.casesOn with
  |int x=>
   induction b using PV.casesOn with
   |int y=>obtain ⟨t,rfl⟩:=ra;obtain ⟨u,rfl⟩:=rb;delta bV at h;dsimp only at h;refine ifs h λhok h=>?_;have h:=aj h;subst h;simp only[bne_iff_ne,ne_eq] at hok;exact mod_int' hok ⟨S.tok,af.toks,⟨_,rfl⟩⟩
   |_=>exact ac h
  |_=>exact ac h
 |Pow=>
  induction a using PV.casesOn with
  |int x=>
   induction b using PV.casesOn with
   |int y=>obtain ⟨t,rfl⟩:=ra;obtain ⟨u,rfl⟩:=rb;delta bV at h;dsimp only at h;refine ifs h λhok h=>?_;have h:=aj h;subst h;simp only[bF,decide_eq_true_eq] at hok;exact pow_int hok.1 hok.2 ⟨S.tok,af.toks,⟨_,rfl⟩⟩
   |_=>exact ac h
  |_=>exact ac h
 |LShift=>
  induction a using PV.casesOn with
  |int x=>
   induction b using PV.casesOn with
   |int y=>obtain ⟨t,rfl⟩:=ra;obtain ⟨u,rfl⟩:=rb;delta bV at h;dsimp only at h;refine ifs h λhok h=>?_;have h:=aj h;subst h;simp only[bF,decide_eq_true_eq] at hok;exact lshift_int_or R.hh (λq=>absurd hok.1 (Int.not_le.mpr (by assumption))) (λζ=>hok.2) λζ=>⟨S.tok,af.toks,⟨_,rfl⟩⟩
   |_=>exact ac h
  |_=>exact ac h
 |BitAnd=>
  induction a using PV.casesOn with
  |int x=>
   induction b using PV.casesOn with
   |int y=>obtain ⟨t,rfl⟩:=ra;obtain ⟨u,rfl⟩:=rb;have h:=aj h;subst h;exact and_int ⟨S.tok,af.toks,⟨_,rfl⟩⟩
   |_=>exact ac h
  |_=>exact ac h
 |BitXor=>
  induction a using PV.casesOn with
  |int x=>
   induction b using PV.casesOn with
   |int y=>obtain ⟨t,rfl⟩:=ra;obtain ⟨u,rfl⟩:=rb;have h:=aj h;subst h;exact xor_int ⟨S.tok,af.toks,⟨_,rfl⟩⟩
   |_=>exact ac h
  |_=>exact ac h
 |RShift=>
  induction a using PV.casesOn with
  |int x=>
   induction b using PV.casesOn with
   |int y=>
    obtain ⟨t,rfl⟩:=ra;obtain ⟨u,rfl⟩:=rb;delta bV at h;dsimp only at h;refine ifs h λhok h=>?_;have h:=aj h;subst h;simp only[decide_eq_true_eq] at hok
    split
    ·rename_i hb;exact SI (mB.mpr (by assumption)) hb ⟨S.tok,af.toks,⟨_,rfl⟩⟩
    ·rename_i hb;exact SJ (mB.mpr (by assumption)) hb ⟨S.tok,af.toks,⟨_,rfl⟩⟩
   |_=>exact ac h
  |_=>exact ac h
 |_=>exact ac h
end
mutual
noncomputable def eX:PV->Dat
 |.int i=>.int i
 |.list xs=>.list (lf xs)
 |_=>.none
noncomputable def lf:List PV->List Dat
 |[]=>[]
 |x::xs=>eX x::lf xs
end
theorem mu {n:Nat} {d:PV} {G:Prop} (h:cU n d=true) (a:∀i,d=.int i->G) (b:∀m xs,n=m+1->d=.list xs->(∀x∈xs,cU m x=true)->G):G:=by
 induction n using e8 with
 |zero=>induction d using PV.casesOn with
  |int i=>exact a i rfl
  |_=>exact aZ h
 |succ m=>induction d using PV.casesOn with
  |int i=>exact a i rfl
  |list xs=>exact b m xs rfl rfl (c9.mp h)
  |_=>exact aZ h
theorem JH {W:List Addr} {h:Heap}:∀(ds:List PV) (vs:List Value),(∀d∈ds,∀v,ao W h d v->∃as,Reads h v (rM (eX d)) as)->ax W h ds vs->∃as,ReadsAll h vs (kqdPs (lf ds)) as:=by
 intro ds
 induction ds with
 |nil=>intro vs H r;subst (r:vs=[]);exact⟨_,SK⟩
 |cons d ds ih=>intro vs H r;exact bJ r λv u e h1 h2=>aE (H d (.head _) v h1) λas q=>aE (ih u (λx hx=>H x (.tail _ hx)) h2) λbs p=>⟨_,e▸SL q p⟩
theorem tJ {W:List Addr} {h:Heap} (n:Nat):∀(d:PV) (v:Value),ao W h d v->cU n d=true->∃as,Reads h v (rM (eX d)) as:=by
 have hi:∀i v,ao W h (.int i) v->∃as,Reads h v (rM (eX (.int i))) as:=λi v r=>aE r λt e=>⟨_,e▸Reads.int i t⟩
 induction n with
 |zero=>exact λd v r hk=>mu hk (λi e=>by subst e;exact hi i v r) λm xs e=>nomatch e
 |succ n ih=>intro d v r hk;refine mu hk (λi e=>by subst e;exact hi i v r) λm xs e0 e1 hx=>?_;subst e1;have e0:=kq e0;subst e0;refine gL r λa vs e2_ ζ hl ζ rr=>?_;subst e2_;refine aE hl λk ho=>?_;exact aE (JH xs vs (λd hd v r=>ih d v r (hx d hd)) rr) λas q=>⟨_,reads_list_at ho rfl rfl q⟩
theorem yP:∀{ds:List PV} {x:Dat},x∈lf ds->∃d∈ds,x=eX d
 |[],_,h=>nomatch h
 |d::ds,x,h=>(av.mp (show x∈eX d::lf ds from h)).elim (λq=>⟨d,.head _,q⟩) λh=>ah (yP h) λe he q=>⟨e,.tail _ he,q⟩
theorem wS (n:Nat):∀(d:PV),cU n d=true->kqdOk n (eX d)=true:=by
 induction n with
 |zero=>exact λd h=>mu h (λi e=>by subst e;rfl) λm xs e=>nomatch e
 |succ n ih=>refine λd h=>mu h (λi e=>by subst e;rfl) λm xs e0 e1 hx=>?_;subst e1;have e0:=kq e0;subst e0;exact c9.mpr λx hx'=>ah (yP hx') λe he q=>q▸ih e (hx e he)
theorem EN {a b:Dat} {u v:List Dat} (h:a::u=b::v):a=b/\u=v:=by injection h;exact⟨‹_›,‹_›⟩
theorem Mp {u v:List Dat} (h:P8 u=.list v):u=v:=by injection h
theorem MH {u v:Int} (h:P9 u=.int v):u=v:=by injection h
theorem FR:∀(ds es:List PV),(∀d∈ds,∀e∈es,(qR d e=true↔eX d=eX e))->(jN ds es=true↔lf ds=lf es):=by
 intro ds
 induction ds with
 |nil=>intro es h;induction es using aP with
  |nil=>exact⟨λζ=>rfl,λζ=>rfl⟩
  |cons e es=>exact⟨aZ,λh=>nomatch h⟩
 |cons d ds ih=>intro es h;induction es using aP with
  |nil=>exact⟨aZ,λh=>nomatch h⟩
  |cons e es=>have q1:=h d (.head _) e (.head _);have q2:=ih es λx hx y hy=>h x (.tail _ hx) y (.tail _ hy);exact⟨λh=>dm h λa b=>by refine (?_:eX d::lf ds=eX e::lf es);rw[q1.mp a,q2.mp b],λh=>be (EN h) λa b=>jT.mpr ⟨q1.mpr a,q2.mpr b⟩⟩
theorem MD (n:Nat):∀(k:Nat) (d e:PV),cU n d=true->cU k e=true->(qR d e=true↔eX d=eX e):=by
 have hi:∀k i e,cU k e=true->(qR (.int i) e=true↔eX (.int i)=eX e):=λk i e h=>mu h (λj q=>by subst q;exact⟨λh=>congrArg P9 (bh h),λh=>beq_iff_eq.mpr (MH h)⟩) λm ys ζ q ζ=>by subst q;exact⟨aZ,λh=>nomatch h⟩
 induction n with
 |zero=>exact λk d e h1 h2=>mu h1 (λi q=>by subst q;exact hi k i e h2) λm xs q=>nomatch q
 |succ n ih=>intro k d e h1 h2;refine mu h1 (λi q=>by subst q;exact hi k i e h2) λm xs e0 q hx=>?_;subst q;have e0:=kq e0;subst e0;refine mu h2 (λj q=>by subst q;exact⟨aZ,λh=>nomatch h⟩) λm' ys ζ q hy=>?_;subst q;have q:=FR xs ys λd hd e he=>ih m' d e (hx d hd) (hy e he);exact⟨λh=>congrArg P8 (q.mp h),λh=>q.mpr (Mp h)⟩
theorem A8 {n k:Nat} {d e:PV} (h1:cU n d=true) (h2:cU k e=true):PyData.eqv (rM (eX d)) (rM (eX e))=qR d e:=by have q:=kqd_eqv n (eX d) (eX e) k (wS n d h1) (wS k e h2);have p:=MD n k d e h1 h2;rw[nX,q,p]
theorem sA {d:PV} (h:cU 4 d=true):Qa (rM (eX d))=true:=by have q:=kqd_lay 4 (eX d) (wS 4 d h);unfold Qa;refine aa q.1 ?_;rw[Dn];exact decide_eq_true (al q.2 (by decide))
section
variable {X:Cx} {A:aO} {s:ae} {W W':List Addr}
theorem FY {xs ys:List PV} {va vb:Value} (S:ai X s) (R:aK A 2) (ra:ao W s.heap (.list xs) va) (rb:ao W' s.heap (.list ys) vb) (h1:xs.all (cU 3)=true) (h2:ys.all (cU 3)=true):Ev X A s (lq .Eq va vb) (λv ζ=>v=.bool (jN xs ys)):=by have i1:cU 4 (.list xs)=true:=h1;have i2:cU 4 (.list ys)=true:=h2;refine aE (tJ 4 _ _ ra i1) λas qa=>?_;refine aE (tJ 4 _ _ rb i2) λbs qb=>?_;refine eq_dataH qa qb (sA i1) (sA i2) (by have:=R.u;refine (?_:A.units+64<9900);exact yW this) ⟨S,af.refl,?_⟩;refine aa (A8 i1 i2) ?_;rfl
theorem H6 {xs ys:List PV} {va vb:Value} (S:ai X s) (R:aK A 2) (ra:ao W s.heap (.list xs) va) (rb:ao W' s.heap (.list ys) vb) (h1:xs.all (cU 3)=true) (h2:ys.all (cU 3)=true):Ev X A s (lq .NotEq va vb) (λv ζ=>v=.bool (!jN xs ys)):=by have i1:cU 4 (.list xs)=true:=h1;have i2:cU 4 (.list ys)=true:=h2;refine aE (tJ 4 _ _ ra i1) λas qa=>?_;refine aE (tJ 4 _ _ rb i2) λbs qb=>?_;refine ne_dataH qa qb (sA i1) (sA i2) (by have:=R.u;refine (?_:A.units+64<9900);exact yW this) ⟨S,af.refl,?_⟩;refine aa (A8 i1 i2) ?_;rfl
theorem zV {a b:PV} {va vb:Value} {c:Bool} (S:ai X s) (R:aK A 2) (ra:ao W s.heap a va) (rb:ao W' s.heap b vb) (h:ur a b=some c):Ev X A s (lq .Eq va vb) (λv ζ=>v=.bool c)/\Ev X A s (lq .NotEq va vb) (λv ζ=>v=.bool (!c)):=by
 induction a using PV.casesOn with
 |int=>
  induction b using PV.casesOn with
  |int=>have h:=aj h;subst h;obtain ⟨t,rfl⟩:=ra;obtain ⟨u,rfl⟩:=rb;exact⟨eq_int ⟨S,af.refl,rfl⟩,ne_int ⟨S,af.refl,rfl⟩⟩
  |_=>exact ac h
 |str=>
  induction b using PV.casesOn with
  |str=>have h:=aj h;subst h;obtain ⟨⟨t,rfl⟩,_⟩:=ra;obtain ⟨⟨u,rfl⟩,_⟩:=rb;exact⟨eq_str ⟨S,af.refl,rfl⟩,ne_str ⟨S,af.refl,rfl⟩⟩
  |_=>exact ac h
 |list xs=>
  induction b using PV.casesOn with
  |list ys=>
  have h:(if (xs.all (cU 3)&&ys.all (cU 3))=true then some (jN xs ys) else Option.none)=some c:=h
  by_cases hk:(xs.all (cU 3)&&ys.all (cU 3))=true
  ·replace h:=(if_pos hk)▸h;have h:=aj h;subst h;simp only[bF] at hk;exact⟨FY S R ra rb hk.1 hk.2,H6 S R ra rb hk.1 hk.2⟩
  ·replace h:=(if_neg hk)▸h;exact ac h
  |_=>exact ac h
 |_=>exact ac h
theorem AE {a b:PV} {va vb:Value} {c:Bool} (S:ai X s) (ra:ao W s.heap a va) (rb:ao W' s.heap b vb) (h:ud a b=some c):Ev X A s (lq .Is va vb) (λv ζ=>v=.bool c)/\Ev X A s (lq .IsNot va vb) (λv ζ=>v=.bool (!c)):=by
 have pl:∀{x y:Value} {c},plainIs x y=true->(x==y)=c->Ev X A s (lq .Is x y) (λv ζ=>v=.bool c)/\Ev X A s (lq .IsNot x y) (λv ζ=>v=.bool (!c)):=λhp he=>
  ⟨wpAny_is_plain hp ⟨S,af.refl,aa he rfl⟩,wpAny_isNot_plain hp ⟨S,af.refl,aa he rfl⟩⟩
 induction a using PV.casesOn with
 |none=>
  have ra:va=.none:=ra
  induction b using PV.casesOn with
  |none=>have rb:vb=.none:=rb;have h:=aj h;subst ra rb h;exact pl rfl rfl
  |bool y=>have rb:vb=.bool y:=rb;have h:=aj h;subst ra rb h;exact pl rfl rfl
  |_=>exact ac h
 |bool x=>
  have ra:va=.bool x:=ra
  induction b using PV.casesOn with
  |none=>have rb:vb=.none:=rb;have h:=aj h;subst ra rb h;exact pl rfl rfl
  |bool y=>
   have rb:vb=.bool y:=rb;have h:=aj h;subst ra rb h;refine pl rfl ?_
   induction x using d8<;>induction y using d8<;>rfl
  |_=>exact ac h
 |int x=>
  induction b using PV.casesOn with
  |none=>have rb:vb=.none:=rb;have h:=aj h;obtain ⟨t,rfl⟩:=ra;subst rb h;exact pl rfl rfl
  |_=>exact ac h
 |str x=>
  induction b using PV.casesOn with
  |none=>have rb:vb=.none:=rb;have h:=aj h;obtain ⟨⟨t,rfl⟩,_⟩:=ra;subst rb h;exact pl rfl rfl
  |_=>exact ac h
 |list x=>
  induction b using PV.casesOn with
  |none=>have rb:vb=.none:=rb;have h:=aj h;obtain ⟨l,_,rfl,_⟩:=ra;subst rb h;exact pl rfl rfl
  |_=>exact ac h
 |tup x=>
  induction b using PV.casesOn with
  |none=>have rb:vb=.none:=rb;have h:=aj h;obtain ⟨l,_,rfl,_⟩:=ra;subst rb h;exact pl rfl rfl
  |_=>exact ac h
theorem zy {op:nS} {a b:PV} {va vb:Value} {c:Bool} (S:ai X s) (R:aK A 2) (ra:ao W s.heap a va) (rb:ao W' s.heap b vb) (h:fE op a b=some c):Ev X A s (lq op va vb) (λv ζ=>v=.bool c):=by
 induction op using CmpOp.casesOn with
 |Eq=>exact (zV S R ra rb h).1
 |NotEq=>refine ah (gy.mp (show (ur a b).map (!·)=some c from h)) λc' q e2_=>?_;subst e2_;exact (zV S R ra rb q).2
 |Lt=>
  induction a using PV.casesOn with
  |int x=>
   induction b using PV.casesOn with
   |int y=>obtain ⟨t,rfl⟩:=ra;obtain ⟨u,rfl⟩:=rb;have h:=aj h;subst h;exact lt_int ⟨S,af.refl,rfl⟩
   |_=>exact ac h
  |_=>exact ac h
 |LtE=>
  induction a using PV.casesOn with
  |int x=>
   induction b using PV.casesOn with
   |int y=>obtain ⟨t,rfl⟩:=ra;obtain ⟨u,rfl⟩:=rb;have h:=aj h;subst h;exact le_int ⟨S,af.refl,rfl⟩
   |_=>exact ac h
  |_=>exact ac h
 |Gt=>
  induction a using PV.casesOn with
  |int x=>
   induction b using PV.casesOn with
   |int y=>obtain ⟨t,rfl⟩:=ra;obtain ⟨u,rfl⟩:=rb;have h:=aj h;subst h;exact gt_int ⟨S,af.refl,rfl⟩
   |_=>exact ac h
  |_=>exact ac h
 |GtE=>
  induction a using PV.casesOn with
  |int x=>
   induction b using PV.casesOn with
   |int y=>obtain ⟨t,rfl⟩:=ra;obtain ⟨u,rfl⟩:=rb;have h:=aj h;subst h;exact ge_int ⟨S,af.refl,rfl⟩
   |_=>exact ac h
  |_=>exact ac h
 |Is=>exact (AE S ra rb h).1
 |IsNot=>refine ah (gy.mp (show (ud a b).map (!·)=some c from h)) λc' q e2_=>?_;subst e2_;exact (AE S ra rb q).2
 |In=>
  induction a using PV.casesOn with
  |str x=>
   induction b using PV.casesOn with
   |str y=>obtain ⟨⟨t,rfl⟩,_⟩:=ra;obtain ⟨⟨u,rfl⟩,_⟩:=rb;have h:=aj h;subst h;exact SB.contains ⟨S,af.refl,rfl⟩
   |_=>exact ac h
  |_=>exact ac h
 |NotIn=>
  induction a using PV.casesOn with
  |str x=>
   induction b using PV.casesOn with
   |str y=>obtain ⟨⟨t,rfl⟩,_⟩:=ra;obtain ⟨⟨u,rfl⟩,_⟩:=rb;have h:=aj h;subst h;exact SB.notContains ⟨S,af.refl,rfl⟩
   |_=>exact ac h
  |_=>exact ac h
theorem Ak {h:Heap} {xs:List PV} {vs:List Value} (r:ax W h xs vs):(!vs.toArray.isEmpty)= !xs.isEmpty:=by
 have:=r.length
 induction vs using aP<;>induction xs using aP<;>simp_all
theorem wj {d:PV} {v:Value} {c:Bool} (S:ai X s) (r:ao W s.heap d v) (h:eO d=some c):Ev X A s (truthy v) (λb ζ=>b=c):=by
 have e:sizeLine=16777216:=rfl
 induction d using PV.casesOn with
 |none=>have h:=aj h;subst h;subst (r:_=_);exact truthy_none ⟨S,af.refl,rfl⟩
 |bool x=>have h:=aj h;subst h;subst (r:_=_);exact aS ⟨S,af.refl,rfl⟩
 |int x=>have h:=aj h;subst h;exact aE r λt e=>e▸truthy_int ⟨S,af.refl,rfl⟩
 |str x=>
  have h:=aj h;subst h;refine be r λr hl=>aE r λt e=>?_;subst e;refine SBL.truthy (lj (ej.mpr (by assumption)) (by decide)) ⟨S.tok,af.toks,?_⟩
  by_cases q:x.length=0
  ·refine aa q ?_;rfl
  ·have h1:(x.length != 0)=true:=bne_iff_ne.mpr q;have h2:((x.length:Int) != 0)=true:=bne_iff_ne.mpr (O8 q);exact aa h1 (aa h2 rfl)
 |list xs=>have h:=aj h;subst h;refine gL r λa vs e2_ ζ hl hn rr=>?_;clear r;subst e2_;refine wpAny_truthy_list hl.isList (by simp;exact lj (ej.mpr (by assumption)) (by decide)) ⟨S.tok,af.toks,?_⟩;exact Ak rr
 |tup xs=>have h:=aj h;subst h;refine gL r λa vs e2_ ζ hl hn rr=>?_;clear r;subst e2_;refine truthy_tuple hl (by simp;exact lj (ej.mpr (by assumption)) (by decide)) ⟨S.tok,af.toks,?_⟩;exact Ak rr
end
section
variable {X:Cx} {A:aO} {s:ae} {W:List Addr}
theorem xn {i:Int} {n j:Nat} (h:iD i n=some j):j<n/\((0<=i/\j=i.toNat)\/(i<0/\ -(n:Int)<=i/\j=(i+n).toNat)):=by
 unfold iD at h
 by_cases hi:i<0
 ·simp only[hi,if_true] at h;refine ifs h λq h=>?_;have h_:=aj h;clear h;subst h_;simp only[bF,decide_eq_true_eq] at q;refine⟨Py hi q,.inr ⟨hi,Hh hi q,rfl⟩⟩
 ·simp only[hi,if_false] at h;refine ifs h λq h=>?_;have h_:=aj h;clear h;subst h_;simp only[bF,decide_eq_true_eq] at q;exact⟨KJ hi q,.inl ⟨q.1,rfl⟩⟩
theorem Ki {a k d:PV} {va vk:Value} (S:ai X s) (ra:ao W s.heap a va) (rk:ao W s.heap k vk) (h:fN a k=some d):Ev X A s (x5 va vk) (λv s'=>ao W s'.heap d v):=by
 have e:sizeLine=16777216:=rfl
 induction k using PV.casesOn with
 |int i=>
  induction a using PV.casesOn with
  |list xs=>
  obtain ⟨l,vs,rfl,_,hl,hn,rr⟩:=ra;obtain ⟨t,rfl⟩:=rk;refine ah (Do.mp h) λj hj hd=>?_;refine ah (rr.get hd) λv hv rv=>?_;have hlen:=rr.length;refine be (xn hj) λhjn hc=>?_;rcases hc with ⟨h0,hje⟩|⟨h0,h1,hje⟩
  ·refine wpAny_getItem_list hl.isList h0 (by lia) (x:=v) ?_ ⟨S,af.refl,rv⟩;refine aH hje ?_;simpa using hv
  ·refine wpAny_getItem_list_neg hl.isList h0 (by simp;exact IH hlen h1) (by lia) (x:=v) ?_ ⟨S,af.refl,rv⟩;have:(i+(vs.toArray.size:Nat)).toNat=j:=by refine aa hje ?_;simp[hlen]
   refine aa this ?_;simpa using hv
  |tup xs=>obtain ⟨l,vs,rfl,_,hl,hn,rr⟩:=ra;obtain ⟨t,rfl⟩:=rk;refine ah (Do.mp h) λj hj hd=>?_;refine ah (rr.get hd) λv hv rv=>?_;have hlen:=rr.length;refine be (xn hj) λhjn hc=>?_;refine getItem_tuple hl (by omega) (by omega) (j:=j) (x:=v) (by simpa [hlen] using hj) (by simpa using hv) ⟨S,af.refl,rv⟩
  |str x=>obtain ⟨⟨u,rfl⟩,hx⟩:=ra;obtain ⟨t,rfl⟩:=rk;refine ah (gy.mp h) λc hc e2_=>?_;subst e2_;refine ah (Do.mp hc) λj hj ζ=>?_;refine be (xn hj) λhjn hcc=>?_;refine SM (c:=c) (by simp only[Dk,decide_eq_false_iff_not];omega) hc ⟨S.tok,af.toks,⟨_,rfl⟩,?_⟩;refine (?_:1<=sizeLine);decide
  |_=>exact ac h
 |_=>induction a using PV.casesOn<;>exact ac h
theorem Kh {a d:PV} {va:Value} {sl:Addr} {vl vu vs:Value} {lo hi st:Option Int} (S:ai X s) (w:cy W s.heap) (ra:ao W s.heap a va) (hs:s.heap.IsSliceOf sl vl vu vs) (pl:jV vl lo) (pu:jV vu hi) (ps:jV vs st) (h:eG a lo hi st=some d):Ev X A s (x5 va (.ref sl)) (λv s'=>ao W s'.heap d v):=by
 have e:sizeLine=16777216:=rfl;delta eG at h;refine yZ h λh0 h=>?_;have h0:st≠some 0:=by exact λq=>h0 (beq_iff_eq.mpr q)
 induction a using PV.casesOn with
 |list xs=>
  refine gL ra λl ws e2_ ζ hl hn rr=>?_;clear ra;subst e2_;have hlen:=rr.length;simp only at h;have h_:=aj h;clear h;subst h_;refine wpAny_getItem_list_slice hl.isList hs pl pu ps h0 ⟨S.keep bK,af.keep bK,?_⟩ (hn);have e1:slicePick ws.toArray lo hi st=(((mF (hJ lo hi st xs.length).1 (hJ lo hi st xs.length).2.1 (hJ lo hi st xs.length).2.2)).filterMap (ws[·]?)).toArray:=by unfold slicePick;rw[show ws.toArray.size=xs.length by exact hlen];simp
  have hle:=slicePick_size_le ws.toArray lo hi st;rw[e1] at hle ⊢;exact qe w (rr.pick _) (by simp only[Qb] at hle;exact al (by assumption) (by assumption))
 |str x=>
  obtain ⟨⟨t,rfl⟩,hx⟩:=ra
  induction st using bW with
  |some z=>exact ac h
  |none=>
   have h:some (PV.str (ll x lo hi))=some d:=h;have h_:=aj h;clear h;subst h_;have mk:∀{v:Value} {k:Option Int},jV v k->∃l:Option (Int×df),partValue l=v/\l.map (·.1)=k:=λp=>by
    cases p with
    |none=>exact az none rfl rfl
    |int i t=>exact az (some (i,t)) rfl rfl
   refine ah (mk pl) λl e1 f1=>?_;refine ah (mk pu) λu e2 f2=>?_;refine ah (mk ps) λk e3 f3=>?_;refine bB hs λo ho hc hd=>?_;clear hs;have hs':s.heap.IsSlice sl l u k:=⟨o,ho,hc,by refine aa e1 (aa e2 (aa e3 ?_));exact hd⟩
   have hk:k=none:=by induction k using bW with
    |none=>rfl
    |some z=>simp at f3
   subst hk;subst f1 f2;have hle:=al (Txt.slice_le x (l.map (·.1)) (u.map (·.1))) hx;refine wpAny_getItem_str_slice hs' rfl (post_val_or_str ⟨hle,λt' k=>⟨S.tok,af.toks,⟨t',rfl⟩,hle⟩⟩)
 |_=>exact ac h
end
section
variable {X:Cx} {A:aO} {s:ae} {W V:List Addr}
noncomputable def tC (r:PV) (name:Str):Option String:=match r with
 |.str _=>if name== "split" then some "str.split" else if name== "count" then some "str.count" else if name== "startswith" then some "str.startswith"
   else if name== "endswith" then some "str.endswith" else if name== "join" then some "str.join" else if name== "find" then some "str.find" else none
 |_=>none
theorem zc {r:PV} {vr:Value} {name:Str} {id:String} {pl:bw Bool} {Q:Value×List Value->ae->Prop} {E:Value->ae->Prop} (ra:ao W s.heap r vr) (h:tC r name=some id) (q:Q (.builtin id,[vr]) s):aq (aw X.prog X.w) A (mI vr name pl) Q E s:=by
 unfold tC at h
 induction r using PV.casesOn with
 |str x=>
  obtain ⟨⟨t,rfl⟩,_⟩:=ra;simp only at h
  repeat' split at h
  all_goals (first|cases h|skip)
  all_goals (rename_i hn;first|(have hn:=bh hn;subst hn)|skip)
  ·exact GM.split q
  ·exact GM.count q
  ·exact GM.startswith q
  ·exact GM.endswith q
  ·exact GM.join q
  ·exact GM.find q
 |_=>exact ac h
theorem Gf {xs:List PV}:∀{l:List Str},pr xs=some l->xs=l.map .str:=by
 induction xs with
 |nil=>intro l h;exact aj h▸rfl
 |cons d r ih=>intro l h;induction d using PV.casesOn with
  |str x=>exact ah (gy.mp (show (pr r).map (x:: ·)=some l from h)) λl' h1 e=>e▸congrArg (PV.str x:: ·) (ih h1)
  |_=>exact ac h
theorem zT {xs:List PV}:∀{l:List Int},ji xs=some l->xs=l.map .int:=by
 induction xs with
 |nil=>intro l h;exact aj h▸rfl
 |cons d r ih=>intro l h;induction d using PV.casesOn with
  |int x=>exact ah (gy.mp (show (ji r).map (x:: ·)=some l from h)) λl' h1 e=>e▸congrArg (PV.int x:: ·) (ih h1)
  |_=>exact ac h
theorem zn {h:Heap}:∀{l:List Str} {vs:List Value},ax W h (l.map .str) vs->∃z:List (Str×df),vs=lr z/\z.map (·.1)=l
 |[],vs,r=>az [] r rfl
 |x::l,vs,r=>bJ (show ax W h (.str x::l.map .str) vs from r) λv u e h1 h2=>aE h1.1 λt et=>ah (zn h2) λz e1 hz=>
  az ((x,t)::z) (by subst et;subst e1;exact e) (congrArg (x:: ·) hz)
theorem wg {h:Heap}:∀{z:List (Str×df)},(∀p∈z,p.1.length<=sizeLine)->ax W h ((z.map (·.1)).map .str) (lr z)
 |[],_=>rfl
 |p::z,hz=>⟨_,_,rfl,⟨⟨_,rfl⟩,hz p (.head _)⟩,wg λq hq=>hz q (.tail _ hq)⟩
theorem wu {h:Heap}:∀{l:List Int} {vs:List Value},ax W h (l.map .int) vs->rO vs l
 |[],vs,r=>by subst (r:vs=[]);exact .nil
 |x::l,vs,r=>bJ (show ax W h (.int x::l.map .int) vs from r) λv u e h1 h2=>aE h1 λt et=>by subst et;subst e;exact .cons _ _ (wu h2)
theorem zK (z:List (Str×df)):(lr z).length=z.length:=bx ..
theorem qf {z:List (Str×df)} {l:List Str} {tk:df} (S:ai X s) (w:cy W s.heap) (hz:z.map (·.1)=l) (hl:l.length<=sizeLine) (hp:∀y∈l,y.length<=sizeLine):ai X {s with toks:=tk,heap:=s.heap.push {cls:=.type "list",data:=.seq (lr z).toArray}}/\
  af [] s {s with toks:=tk,heap:=s.heap.push {cls:=.type "list",data:=.seq (lr z).toArray}}/\
  ao W (s.heap.push {cls:=.type "list",data:=.seq (lr z).toArray}) (.list (l.map .str)) (.ref s.heap.objs.size):=by
 subst hz;refine fx (S.keep bK) (af.keep bK) ?_;refine qe w (wg λp hpz=>hp _ (mG hpz)) ?_;rw[zK];exact (bx ..)▸hl
theorem AP:∀{l:List Nat} {a:Nat},a∈l->a<=l.sum
 |b::r,a,h=>by
  rcases av.mp h with q|q
  ·simp;exact zN q
  ·have:=AP q;simp;exact al (by assumption) (dv _ _)
theorem C4 {x y:Str} (hy:1<=y.length):∀p∈Txt.split x y,p.length<=x.length:=by intro p hp;have h:=split_weight x y hy;have h1:p.length<=((Txt.split x y).map (·.length)).sum:=AP (mG hp);have h2:1<=(Txt.split x y).length:=List.length_pos_of_mem hp;exact Jf h h1 h2
theorem K1 {x y:Str} {t u:df} (S:ai X s) (w:cy W s.heap) (hx:x.length<=sizeLine) (hy:(y.length != 0)=true) (hl:bt (x.length+2)=true):Ev X A s (call (.builtin "str.split") [.str x t,.str y u]) (λv s'=>ao W s'.heap (.list ((Txt.split x y).map .str)) v):=by
 have hy0:(y.length==0)=false:=(kz _).mp hy;have hy1:1<=y.length:=Dp (of_decide_eq_false hy0);have hlen:(Txt.split x y).length<=sizeLine:=al (split_le x y) (eH hl);have hpart:∀p∈Txt.split x y,p.length<=sizeLine:=λp hp=>al (C4 hy1 p hp) hx;cases h1:(decide (x.length<y.length)||decide (mJ x<mJ y))
 ·cases hf:(jr x y 0 x.length (x.length+1)).isEmpty
  ·have e:Txt.split x y=x6 x (jr x y 0 x.length (x.length+1)) y.length:=by unfold Txt.split;rw[if_neg (by refine aa h1 ?_;exact iZ),if_neg (by refine aa hf ?_;exact iZ)]
   refine mH pI (nY _ _ _) pJ (rP _ _) (Qc x y t u h1 hy0 hf hx (by refine aH e ?_;exact hlen)) ?_;have:=qf (tk:=s.toks+(x6 x (jr x y 0 x.length (x.length+1)) y.length).length) (z:=Dq s.toks (Txt.split x y)) S w (Dr _ _) hlen hpart;rw[<- Ds,e] at this;refine aa e ?_;exact this
  ·have e:Txt.split x y=[x]:=by unfold Txt.split;rw[if_neg (by refine aa h1 ?_;exact iZ),if_pos hf]
   refine aa e ?_;exact mH pI (nY _ _ _) pJ (rP _ _) (Qd x y t u h1 hy0 hf)
    (qf (tk:=s.toks) (z:=[(x,t)]) S w rfl (by refine (?_:1<=sizeLine);decide) (by simpa using hx))
 ·have e:Txt.split x y=[x]:=by unfold Txt.split;exact aa (if_pos h1) rfl
  refine aa e ?_;exact mH pI (nY _ _ _) pJ (rP _ _) (Qe x y t u h1)
    (qf (tk:=s.toks) (z:=[(x,t)]) S w rfl (by refine (?_:1<=sizeLine);decide) (by simpa using hx))
theorem G9 {x:Str} {t:df} (S:ai X s) (w:cy W s.heap) (hx:x.length<=sizeLine) (h1:bt (uF x (x.length+1)).length=true) (h2:bt (ky x).length=true) (h3:(ky x).all (λy=>bt y.length)=true):Ev X A s (call (.builtin "str.split") [.str x t]) (λv s'=>ao W s'.heap (.list ((ky x).map .str)) v):=by
 have hp:∀p∈ky x,p.length<=sizeLine:=λp hp=>eH (c9.mp h3 p hp);refine mH pI (nY _ _ _) pJ (F.args_str_split_1 _) (meets_str_split_space x t hx (eH h1)) ?_;cases hw:uF x (x.length+1)==[(0,x.length)]
 ·have e:ky x=PySem.wordsOf x:=if_neg (ne_true_of_eq_false hw);simp only[ey,if_false];have:=qf (tk:=s.toks+(uF x (x.length+1)).length) (z:=Dq s.toks (ky x)) S w (Dr _ _) (eH h2) hp;rw[<- Ds,e] at this;refine aa e ?_;exact this
 ·have e:ky x=[x]:=if_pos hw;simp only[if_true];refine aa e ?_;exact qf (tk:=s.toks) (z:=[(x,t)]) S w rfl (by refine (?_:1<=sizeLine);decide) (by simpa using hx)
end
section
variable {X:Cx} {A:aO} {s:ae} {W V:List Addr}
theorem OS (x y:Str) (i j:Int) (t u v q:df):Gives (uI.«str.find» ⟨[.str x t,.str y u,.int i v,.int j q],[]⟩) (.int (match jr x y (lx x.length i) (fg (lx x.length j) x.length) 1 with|k::_=>(k:Int)|[]=> -1)):=by
 refine (?_:Gives (match jr x y (lx x.length i) (fg (lx x.length j) x.length) 1 with|k::_=>retInt k|[]=>(do rule "str.find.not-found";retInt (-1))) _);cases jr x y (lx x.length i) (fg (lx x.length j) x.length) 1 with
 |nil=>exact Gives.rule (.of_eq rfl)
 |cons k r=>exact .of_eq rfl
theorem IB {x y:Str} {t u p q:df} {i j:Int} (S:ai X s) (h1:0<=i) (h3:0<=j) (h4:j<=x.length):Ev X A s (call (.builtin "str.find") [.str x t,.str y u,.int i p,.int j q]) (λv s'=>ao W s'.heap (.int (qM x y i j)) v):=by
 refine Qf F.slot_str_find (nY _ _ _) F.entry_str_find (F.args_str_find_4 _ _ _ _) (OS x y i j t u p q) ?_;have e1:lx x.length i=i.toNat:=by unfold lx;rw[if_neg (mB.mpr (by assumption))];exact NP h1
 have e2:fg (lx x.length j) x.length=j.toNat:=by unfold lx;rw[if_neg (mB.mpr (by assumption))];exact Fg h3 h4
 refine aa e1 (aa e2 ?_);exact fx S.tok af.toks ⟨_,rfl⟩
set_option tactic.hygienic true in
theorem KT {r d:PV} {as:List PV} {vr:Value} {vs:List Value} {name:Str} (S:ai X s) (R:aK A 2) (w:cy W s.heap) (ra:ao V s.heap r vr) (rs:ax V s.heap as vs) (h:cY r name as=some d):∃id,tC r name=some id/\Ev X A s (call (.builtin id) (vr::vs)) (λv s'=>ao W s'.heap d v):=by
 induction r using PV.casesOn with
 |str x=>
  induction as using aP with
  |nil=>delta cY at h;dsimp only at h;have rs:vs=[]:=rs;subst rs;obtain ⟨⟨t,rfl⟩,hx⟩:=ra;refine ifs h λq h=>?_;have h:=aj h;subst h;simp only[bF] at q;have hn:=bh q.1.1.1;exact az ("str.split") (by refine aa hn ?_;rfl) (G9 S w hx q.1.1.2 q.1.2 q.2)
  |cons a0 as=>
   induction a0 using PV.casesOn with
   |str y=>
    induction as using aP with
    |nil=>
     delta cY at h;dsimp only at h;refine bJ rs λv u e2_ r1 e4_=>?_;clear rs;subst e2_;subst e4_;obtain ⟨⟨t,rfl⟩,hx⟩:=ra;obtain ⟨⟨t',rfl⟩,hy⟩:=r1
     split at h
     ·rename_i q;have hn:=bh q;refine ifs h λq2 h=>?_;have h:=aj h;subst h;simp only[bF] at q2;exact az ("str.split") (by refine aa hn ?_;rfl) (K1 S w hx q2.1 q2.2)
     split at h
     ·rename_i q;have h:=aj h;subst h;have hn:=bh q;exact az ("str.count") (by refine aa hn ?_;rfl) (SC.count ⟨S.tok,af.toks,⟨_,rfl⟩⟩)
     split at h
     ·rename_i q;have h:=aj h;subst h;have hn:=bh q;exact az ("str.startswith") (by refine aa hn ?_;rfl) (SC.startswith ⟨S,af.refl,rfl⟩)
     split at h
     ·rename_i q;have h:=aj h;subst h;have hn:=bh q;exact az ("str.endswith") (by refine aa hn ?_;rfl) (SC.endswith ⟨S,af.refl,rfl⟩)
     exact ac h
    |cons a1 as=>
     induction a1 using PV.casesOn with
     |int i=>
      induction as using aP with
      |nil=>exact ac h
      |cons a2 as=>
       induction a2 using PV.casesOn with
       |int j=>
        induction as using aP with
        |nil=>delta cY at h;dsimp only at h;obtain ⟨v,u,rfl,r1,v2,u2,rfl,r2,v3,u3,rfl,r3,rfl⟩:=rs;obtain ⟨⟨t,rfl⟩,hx⟩:=ra;obtain ⟨⟨t',rfl⟩,hy⟩:=r1;obtain ⟨t2,rfl⟩:=r2;obtain ⟨t3,rfl⟩:=r3;refine ifs h λq h=>?_;have h:=aj h;subst h;simp only[bF,decide_eq_true_eq] at q;have hn:=bh q.1.1.1.1;exact az ("str.find") (by refine aa hn ?_;rfl) (IB S q.1.1.1.2 q.1.2 q.2)
        |cons _ _=>exact ac h
       |_=>exact ac h
     |_=>exact ac h
   |list ys=>
    induction as using aP with
    |nil=>
     delta cY at h;dsimp only at h;refine bJ rs λv u e2_ r1 e4_=>?_;clear rs;subst e2_;subst e4_;obtain ⟨⟨t,rfl⟩,hx⟩:=ra;obtain ⟨l,ws,rfl,_,hl,hn1,rr⟩:=r1;refine ifs h λq h=>?_;have hn:=bh q
     set_option smartUnfolding false in refine om h λl' hl' h=>?_
     refine ifs h λq2 h=>?_;have h:=aj h;subst h;simp only[bF] at q2;have e:=Gf hl';subst e;refine ah (zn rr) λz e1_ hz=>?_;subst e1_;exact az ("str.join") (by refine aa hn ?_;rfl) (SC.join hl.isList hz q2.1 λt' k=>⟨S.tok,af.toks,⟨_,rfl⟩,eH q2.2⟩)
    |cons _ _=>exact ac h
   |_=>exact ac h
 |_=>exact ac h
end
theorem ai.of {X s s'} (S:ai X s) (k:∀b o,s.heap.get? b=some o->s'.heap.get? b=some o) (hg:s'.gens=s.gens) (ho:s'.os=s.os):ai X s' where
 x:=S.x
 old:=S.old.step_keeps k
 g:=S.g.keeps k
 b:=S.b.keeps k
 lim:=S.lim.keeps k
 tab:=λq hq=>⟨(S.tab q hq).1.keeps k,(S.tab q hq).2.keeps k⟩
 bare:=by refine aa hg ?_;exact S.bare
 os:=by refine aa ho ?_;exact S.os
theorem af.of {W s s'} (k:∀b o,s.heap.get? b=some o->s'.heap.get? b=some o) (hg:s'.gens=s.gens):af W s s':=
 ⟨Kb.of_keep k,λb o e=>⟨o,k b o e⟩,by rw[hg];exact bf _,λζ ζ=>by rw[hg]⟩
section
variable {X:Cx} {A:aO} {s:ae} {W V:List Addr}
theorem HL (ns:List Int):x7 (λi=>ns.getD i 0) ns.length=ns.sum:=by
 have key:∀(k:Nat),k<=ns.length->x7 (λi=>ns.getD i 0) k=(ns.take k).sum:=by
  intro k
  induction k with
  |zero=>intro _;rfl
  |succ k ih=>intro hk;have e:x7 (λi=>ns.getD i 0) (k+1)=x7 (λi=>ns.getD i 0) k+ns.getD k 0:=rfl;rw[e,ih (nZ (by assumption)),List.take_succ_eq_append_getElem (x8 (by assumption)),List.sum_append];simp[uJ,el (show k<ns.length by exact x8 (by assumption))]
 exact aa (key _ (bf _)) (aa n0 rfl)
theorem AQ:∀{vs:List Value} {ns:List Int} (h:rO vs ns) (i:Nat) (v:Value),vs[i]?=some v->∃t,v=.int (ns.getD i 0) t
 |_,_,.nil,i,v,e=>ac e
 |_,_,.cons n t r,0,v,e=>by simp at e;exact⟨t,by refine aH e ?_;rfl⟩
 |_,_,.cons n t r,i+1,v,e=>by refine aE (AQ r i v (by simpa using e)) λt' h=>?_;exact⟨t',by simpa [uJ] using h⟩
theorem Ft {l:Addr} {vs:List Value} {ns:List Int} (S:ai X s) (R:aK A 1) (hl:s.heap.IsList l vs.toArray) (hi:rO vs ns):Ev X A s (call (.builtin "sum") [.ref l]) (λv ζ=>∃t,v=.int ns.sum t):=by
 have hne:l≠s.heap.objs.size:=λq=>by refine ah hl λo e ζ=>?_;clear hl;replace e:=q▸e;replace e:=eJ▸e;exact ac e
 refine call_sum_walkAnyS (rQ hl ?_);refine⟨_,_,_,_,_,_,_,λi=>ns.getD i 0,rfl,(Walks.list (A:=A.in1) R.hh s.heap.objs.size l hne vs.toArray).toS,?_,?_,?_,?_⟩
 ·exact⟨⟨_,dH _ rfl,rfl,rfl⟩,hl.push _⟩
 ·intro b hb;simp only[av,bz,or_false] at hb;have:(s.heap.push {cls:=.type "list_iterator",data:=.fields #[.ref l,.int 0 0]}).objs.size=s.heap.objs.size+1:=iF ..;refine (?_:b<(s.heap.push {cls:=.type "list_iterator",data:=.fields #[.ref l,.int 0 0]}).objs.size);refine aa this ?_;rcases hb with rfl|rfl
  ·exact i0 _
  ·refine ah hl λo e ζ=>?_;clear hl;exact x9 (fJ e)
 ·intro i v hv;exact AQ hi i v (by simpa using hv)
 ·intro s' t' M
  have k:∀b o,s.heap.get? b=some o->s'.heap.get? b=some o:=λb o e=>M.heap b o (λq=>by
   simp only[av,bz,or_false] at q
   replace e:=q▸e;replace e:=eJ▸e;exact ac e) (cG _ e)
  refine⟨S.of k M.gens M.os,af.of k M.gens,t',?_⟩;refine aH (HL ns) ?_;have:vs.toArray.size=ns.length:=by simpa using hi.length
  exact aa this rfl
theorem EC {l:Addr} {vs:List Value} {y:Int} {ns:List Int} (S:ai X s) (R:aK A 1) (hl:s.heap.IsList l vs.toArray) (hi:rO vs (y::ns)):Ev X A s (call (.builtin "max") [.ref l]) (λv ζ=>∃t,v=.int (ns.foldl ew y) t):=by
 refine aE hi.allInts.items λxs e=>?_;have hns:y::ns=xs.toList.map (·.1):=by (refine aH hi.numsOf ?_;rewrite[<- nums_intItems];exact aH e rfl)
 have hsz:xs.size=ns.length+1:=by have:=congrArg iB hns;simpa using this.symm
 replace hl:=e▸hl;refine max_intList R.hh hl (HX hsz) λv h' tk hv hk=>?_;refine aE (intItems_at hv) λt e1_=>?_;subst e1_;refine be (argBest_gt (mK xs) (xs.size - 1)) λh1 h2=>?_;refine⟨S.keep hk,af.keep hk,t,?_⟩;congr 1;have hmem:∀j,j<=xs.size - 1->mK xs j∈y::ns:=λj hj=>by rw[numAt_eq,<- hns,ju,el (by simp;exact J0 hsz hj)];exact rR _
 have hge:∀a∈y::ns,a<=mK xs (argBest (λi j=>decide (mK xs i>mK xs j)) (xs.size - 1)):=λa ha=>by
  obtain ⟨j,hj,rfl⟩:=Qg.mp ha;have:(y::ns)[j]=mK xs j:=by rewrite[numAt_eq];refine aH hns (aa ju (aa (el hj) ?_));rfl
  refine aa this ?_;exact h2 j (by simp at hj;exact K7 hsz hj)
 have m1:=hmem _ h1;revert m1;revert hge;refine aX (mK xs (argBest (λi j=>decide (mK xs i>mK xs j)) (xs.size - 1))) λM=>?_;intro hge m1;have key:∀(l:List Int) (a:Int),(∀b∈a::l,b<=l.foldl ew a)/\l.foldl ew a∈a::l:=by
  intro l
  induction l with
  |nil=>intro a;simp
  |cons b r ih=>
   intro a;refine be (ih (ew a b)) λq1 q2=>?_;have q3:ew a b<=r.foldl ew (ew a b):=q1 _ (.head _);refine⟨λc hc=>?_,?_⟩
   ·rcases av.mp hc with rfl|hc
    ·exact fL (Qh _ _) q3
    ·rcases av.mp hc with rfl|hc
     ·exact fL (Int.le_max_right _ _) q3
     ·exact q1 _ (.tail _ hc)
   ·simp only[List.foldl_cons];rcases av.mp q2 with q|q
    ·refine aa q ?_
     by_cases hab:a<=b
     ·refine aa (xW hab) ?_;exact .tail _ (.head _)
     ·rw[C7 (GO hab)];exact .head _
    ·exact .tail _ (.tail _ q)
 refine be (key ns y) λq1 q2=>?_;exact Int.le_antisymm (q1 _ m1) (hge _ q2)
noncomputable def tT:List (Str×Value):=[(ag "sum",.builtin "sum"),(ag "len",.builtin "len"),(ag "max",.builtin "max"),(ag "hex",.builtin "hex"),(ag "int",.type "int"),
 (ag "range",.type "range"),(ag "enumerate",.type "enumerate"),(ag "zip",.type "zip")]
noncomputable def fW (f:Str):Option Value:=tT.lookup f
theorem tW {β:Type} {x:Str} {v:β}:∀{l:List (Str×β)},l.lookup x=some v->(x,v)∈l
 |[],h=>nomatch h
 |(y,w)::l,h=>by
  rw[cM] at h;cases hb:x==y with
  |true=>replace h:=hb▸h;refine aa (bh hb) (aa (kr h) ?_);exact .head _
  |false=>replace h:=hb▸h;exact .tail _ (tW h)
noncomputable def Hy:Value->Bool
 |.ref _=>true
 |_=>false
theorem B5 {f:Str} {v:Value} (h:fW f=some v):∀a,v≠.ref a:=λa q=>by
 have h1:∀p∈tT,Hy p.2=false:=by decide
 have h2:=h1 _ (tW h);replace h2:=q▸h2;nomatch h2
end
structure bG (wr:List Addr) (gm:Nat) (s s':ae):Prop where
 kb:Kb wr s.heap s'.heap
 th:∀b o,b∉wr->s.heap.get? b=some o->∃o',s'.heap.get? b=some o'
 gsz:s.gens.size<=s'.gens.size
 gk:∀i,i<gm->s'.gens[i]?=s.gens[i]?
theorem bG.after {W wr gm gm' s0 s s'} (a:jM W gm s0 s) (b:bG wr gm' s s') (hw:∀x∈wr,s0.heap.get? x=none) (hg:gm<=gm'):jM W gm s0 s':=
 have ne:∀x o,s0.heap.get? x=some o->x∉wr:=λx o e q=>by replace e:=(hw x q)▸e;exact ac e
 ⟨λx o hx ht e=>b.kb x o (ne x o e) ht (a.kb x o hx ht e),λx o e=>aE (a.th x o e) λo1 e1=>b.th x o1 (ne x o e) e1,
  al a.gsz b.gsz,λi hi=>(b.gk i (b9 hi hg)).trans (a.gk i hi)⟩
structure ix (X:Cx) (A:aO) (tgt:ab) (it:Value) (xs cs:List PV) (cvs:List Value) (St:Nat->ae->Prop) (fp wr:List Addr) (gm:Nat):Prop where
 sub:∀b∈wr,b∈fp
 live:∀i s,St i s->∀b∈fp,∃o,s.heap.get? b=some o/\cK o=false
 frame:∀i (s s':ae),St i s->s.gens.size<=s'.gens.size->(∀b∈fp,∀o,s.heap.get? b=some o->s'.heap.get? b=some o)->(∀g,g<s.gens.size->s'.gens[g]?=s.gens[g]?)->St i s'
 item:∀i d W s,xs[i]?=some d->St i s->ai X s->cy W s.heap->ax W s.heap cs cvs->(∀b∈wr,b∈W)->
  aq (aw X.prog X.w) A (f8 it) (λr s1=>∃v,r=some v/\aq (aw X.prog X.w) A (ly tgt it v) (λζ s'=>ao W s'.heap d v/\St (i+1) s'/\ai X s'/\bG wr gm s s') (λζ ζ=>False) s1) (λζ ζ=>False) s
 done:∀s,St xs.length s->ai X s->aq (aw X.prog X.w) A (f8 it) (λr s'=>r=none/\ai X s'/\bG wr gm s s') (λζ ζ=>False) s
 again:∀i s (Q:Value->ae->Prop),St i s->Q it s->aq (aw X.prog X.w) A (f9 it) Q (λζ ζ=>False) s
noncomputable def rB (o:ek):Prop:=match o.cls with
 |.type n=>(["enumerate", "zip", "dict_itemiterator", "dict_reverseitemiterator", "odict_iterator", "itertools.zip_longest", "itertools.pairwise"]:List String).contains n=false
 |_=>True
section
variable {X:Cx} {A:aO} {s:ae} {W V:List Addr} {gm:Nat}
set_option backward.match.sparseCases true in
theorem qE {tgt:ab} {a:Addr} {v:Value} {o:ek} {Q:Unit->ae->Prop} {E} (ho:s.heap.get? a=some o) (hp:rB o) (h:Q () s):aq (aw X.prog X.w) A (ly tgt (.ref a) v) Q E s:=by
 have key:aq (aw X.prog X.w) A (do
   let (.ref r,.ref b):=((.ref a:Value),v)|return
   let o <- load r
   match o.cls,o.data with
   |.type n,.fields vs=>
    if ["enumerate", "zip", "dict_itemiterator", "dict_reverseitemiterator", "odict_iterator", "itertools.zip_longest", "itertools.pairwise"].contains n&&vs[0]?==some (hH b) then
     Qi "for.unpacks-the-owned-tuple"
     updateField r 0 .none
   |_,_=>pure ():bw Unit) Q E s:=by
  induction v using nU with
  |ref b=>
   refine ak (wpAny_load ho ?_);obtain ⟨cls,dct,dat,sl⟩:=o
   induction cls using nU with
   |type n=>
    cases dat with
    |fields vs=>have hp:(["enumerate", "zip", "dict_itemiterator", "dict_reverseitemiterator", "odict_iterator", "itertools.zip_longest", "itertools.pairwise"]:List String).contains n=false:=hp;refine (show _ from ?_:aq _ _ (if (["enumerate", "zip", "dict_itemiterator", "dict_reverseitemiterator", "odict_iterator", "itertools.zip_longest", "itertools.pairwise"].contains n&&vs[0]?==some (hH b))=true then _ else _) _ _ _);refine aa hp ?_;exact aS h
    |_=>exact aS h
   |_=>exact aS h
  |_=>exact aS h
 induction tgt using bE with
 |Tuple=>exact key
 |List=>exact key
 |_=>exact aS h
theorem pi {s:ae} {h':Heap} {tk a gm} (k:n4 a s.heap h'):bG [a] gm s {s with heap:=h',toks:=tk}:=
 ⟨λb o hb ζ e=>k b o (λq=>hb (cN.mpr (by assumption))) e,λb o hb e=>⟨o,k b o (λq=>hb (cN.mpr (by assumption))) e⟩,bf _,λζ ζ=>rfl⟩
theorem nt {s:ae} {h':Heap} {tk a gm} (k:iX a s.heap h'):bG [a] gm s {s with heap:=h',toks:=tk}:=pi k.extBut
theorem ai.extZ (S:ai X s) {Z:List Addr} {h':Heap} {tk:df} (ha:∀a∈Z,X.h0.get? a=none) (hc:∀a∈Z,∀o,s.heap.get? a=some o->h8 o) (k:∀b o,b∉Z->s.heap.get? b=some o->h'.get? b=some o):ai X {s with heap:=h',toks:=tk} where
 x:=S.x
 old:=by
  have ne:∀b o,X.h0.get? b=some o->b∉Z:=λb o e q=>by replace e:=(ha b q)▸e;exact ac e
  refine⟨λb o e=>?_,λb o e=>aE (S.old.there b o e) λo' ho'=>⟨o',k b o' (ne b o e) ho'⟩⟩;rcases S.old.old b o e with x|⟨t,hc,vs,more,hv,x⟩|⟨rfl,hc,⟨o',es,n,ho',r⟩,z⟩
  ·exact .inl (k _ _ (ne b o e) x)
  ·exact .inr (.inl ⟨t,hc,vs,more,hv,k _ _ (ne b o e) x⟩)
  ·exact .inr (.inr ⟨rfl,hc,⟨o',es,n,k _ _ (ne _ o e) ho',r⟩,λkey=>by refine aa (Df ((k _ _ (ne _ o e) ho').trans ho'.symm) key) ?_;exact z key⟩)
 g:=jQ S.g λo es ep e r=>⟨o,es,ep,k _ _ (λq=>by refine aE S.x.g λo e=>?_;replace e:=(ha _ q)▸e;exact ac e) e,r⟩
 b:=jQ S.b λo es ep e r=>⟨o,es,ep,k _ _ (λq=>by refine aE S.x.b λo e=>?_;replace e:=(ha _ q)▸e;exact ac e) e,r⟩
 lim:=by obtain ⟨mc,⟨o,es,ep,e,r⟩,r'⟩:=S.lim;exact az mc ⟨o,es,ep,k _ _ (λq=>by {refine aE S.x.st λo e=>?_;replace e:=(ha _ q)▸e;exact ac e}) e,r⟩ r'
 tab:=λq hq=>by
  have hP:q.P∉Z:=λz=>by refine bR (S.x.tb q hq) λc0 ps ζ e=>?_;replace e:=(ha _ z)▸e;exact ac e
  refine⟨?_,?_⟩
  ·obtain ⟨o,vs,file,tf,flags,tg,inF,text,tt,e,hcl,hd,r⟩:=(S.tab q hq).1;exact⟨o,vs,file,tf,flags,tg,inF,text,tt,k _ _ (λz=>(hc _ z o e).elim (λy=>y hcl) λy=>y _ hd) e,hcl,hd,r⟩
  rcases (S.tab q hq).2 with t|⟨c',t,⟨c2,o2,vs,tt,e1,e2,r⟩,o,e,hcl⟩
  ·exact .inl (k _ _ hP t)
  ·cases e1;have eo:o=o2:=by replace e2:=e▸e2;exact kr e2
   have hne:c'∉Z:=λz=>(hc _ z o e).elim (λz=>z hcl) λz=>z _ (eo▸r.1);exact .inr ⟨c',k _ _ hP t,⟨c',o2,vs,tt,rfl,k _ _ hne e2,r⟩,o,k _ _ hne e,hcl⟩
 bare:=S.bare
 os:=S.os
theorem ai.ext (S:ai X s) {a:Addr} {h':Heap} {tk:df} (ha:X.h0.get? a=none) (hc:∀o,s.heap.get? a=some o->h8 o) (k:n4 a s.heap h'):ai X {s with heap:=h',toks:=tk}:=
 S.extZ (Z:=[a]) (λb hb=>by simp at hb;exact hb▸ha) (λb hb o e=>by simp at hb;exact hc o (hb▸e)) λb o hb e=>k b o (λq=>hb (cN.mpr (by assumption))) e
theorem dJ {o:ek} {c:String} (h:o.cls=.type c) (hc:c≠ "code"):h8 o:=.inl λq=>by
 replace q:=h▸q;injection q with q;exact hc q
theorem Ca {I:Addr} {o:ek} {h h':Heap} {d:PV} {v:Value} (e:h.get? I=some o) (hd:∀its n,o.data≠.seq its n) (k:∀b o,b≠I->h.get? b=some o->h'.get? b=some o) (r:ao W h d v):ao W h' d v:=
 ao.kb (V:=[I]) (λb o2 hb ζ q=>k b o2 (λz=>hb (cN.mpr (by assumption))) q) (λb hb=>.inr (.inr λo2 e2=>by
   simp only[av,bz,or_false] at hb
   replace e2:=hb▸e2;replace e2:=e▸e2;have h_:=aj e2;clear e2;subst h_
   exact hd)) (λζ hb=>.inl hb) d v r
theorem N7 (hh:A.handled=none) {I l:Addr} {tgt:ab} {xs:List PV} {vs:List Value} (hI:X.h0.get? I=none) (hne:l≠I) (hlen:vs.length=xs.length):ix X A tgt (.ref I) xs xs vs (λi s=>s.heap.IsListIter I l i/\iL s.heap l vs.toArray) [I,l] [I] gm where
 sub:=λb hb=>by simp at hb;simp[hb]
 live:=λi s st b hb=>by
  simp only[av,bz,or_false] at hb;rcases hb with rfl|rfl
  ·refine bB st.1 λo e hc ζ=>?_;exact az o e (eM hc)
  ·refine aE st.2 λn e=>?_;exact az _ e rfl
 frame:=λi s s' st ζ k ζ=>⟨ah st.1 λo e r=>⟨o,k I (.head _) o e,r⟩,aE st.2 λn e=>⟨n,k l (.tail _ (.head _)) _ e⟩⟩
 item:=λi d W s hd st S ζ r ζ=>by
  refine ah (r.get hd) λv hv rv=>?_;refine Qj st.1 st.2.isList (x:=v) (by simpa using hv) λh' hit' hs'=>⟨v,rfl,?_⟩
  refine bB st.1 λo e hc hdd=>?_;refine bB (id hit') λo' e' hc' hd'=>?_;refine qE e' (by unfold rB;refine aa hc' ?_;rfl) ?_
  exact⟨Ca e (λits n q=>by replace q:=hdd▸q;cases q) hs'.extBut rv,⟨hit',aE st.2 λn q=>⟨n,(hs'.2 l hne).trans q⟩⟩,
   S.same hI (λo2 e2=>by replace e2:=e▸e2;have h_:=aj e2;clear e2;subst h_;exact dJ hc (by decide)) hs',nt hs'⟩
 done:=λs st S=>by refine bB st.1 λo e hc hdd=>?_;exact Qk hh st.1 st.2.isList (by simp[hlen]) λh' k=>⟨rfl,S.ext hI (λo2 e2=>by replace e2:=e▸e2;have h_:=aj e2;clear e2;subst h_;exact dJ hc (by decide)) k,pi k⟩
 again:=λi s Q st q=>wpAny_pyIter_listiter st.1 q
theorem JY (hh:A.handled=none) {I l:Addr} {tgt:ab} {xs:List PV} {vs:List Value} (hI:X.h0.get? I=none) (hne:l≠I) (hlen:vs.length=xs.length):ix X A tgt (.ref I) xs xs vs (λi s=>s.heap.IsTupleIter I l i/\s.heap.IsTuple l vs.toArray) [I,l] [I] gm where
 sub:=λb hb=>by simp at hb;simp[hb]
 live:=λi s st b hb=>by
  simp only[av,bz,or_false] at hb;rcases hb with rfl|rfl
  ·refine bB st.1 λo e hc ζ=>?_;exact az o e (eM hc)
  ·refine bB st.2 λo e hc ζ=>?_;exact az o e (eM hc)
 frame:=λi s s' st ζ k ζ=>⟨ah st.1 λo e r=>⟨o,k I (.head _) o e,r⟩,ah st.2 λn e r=>⟨n,k l (.tail _ (.head _)) _ e,r⟩⟩
 item:=λi d W s hd st S ζ r ζ=>by
  refine ah (r.get hd) λv hv rv=>?_;refine wpAny_pyNext_tuple_item st.1 st.2 (x:=v) (by simpa using hv) λh' hit' hs'=>⟨v,rfl,?_⟩
  refine bB st.1 λo e hc hdd=>?_;refine bB (id hit') λo' e' hc' hd'=>?_;refine qE e' (by unfold rB;refine aa hc' ?_;rfl) ?_
  exact⟨Ca e (λits n q=>by replace q:=hdd▸q;cases q) hs'.extBut rv,⟨hit',ah st.2 λn q r=>⟨n,(hs'.2 l hne).trans q,r⟩⟩,
   S.same hI (λo2 e2=>by replace e2:=e▸e2;have h_:=aj e2;clear e2;subst h_;exact dJ hc (by decide)) hs',nt hs'⟩
 done:=λs st S=>by refine bB st.1 λo e hc hdd=>?_;exact wpAny_pyNext_tuple_end hh st.1 st.2 (by simp[hlen]) λh' k=>⟨rfl,S.ext hI (λo2 e2=>by replace e2:=e▸e2;have h_:=aj e2;clear e2;subst h_;exact dJ hc (by decide)) k,pi k⟩
 again:=λi s Q st q=>wpAny_pyIter_tupleiter st.1 q
theorem Mt (hh:A.handled=none) {I:Addr} {tgt:ab} {a b:Int} (hI:X.h0.get? I=none):ix X A tgt (.ref I) (dU a b) [] [] (λi s=>IsRangeIter s.heap I (a+i) ((b - a).toNat - i) 1) [I] [I] gm where
 sub:=λb hb=>hb
 live:=λi s st b hb=>by simp only[av,bz,or_false] at hb;refine aa hb ?_;exact az _ st rfl
 frame:=λi s s' st ζ k ζ=>k I (.head _) _ st
 item:=λi d W s hd st S ζ r ζ=>by
  have hi:i<(b - a).toNat/\d=.int (a+i):=by
   unfold dU at hd;replace hd:=iG▸hd;refine ah (gy.mp hd) λj hj e2_=>?_;subst e2_
   by_cases hlt:i<(b - a).toNat
   ·replace hj:=(Dt hlt)▸hj;have h_:=aj hj;clear hj;subst h_;exact⟨hlt,rfl⟩
   ·rw[uK (by simpa using hlt)] at hj;exact ac hj
  refine be hi λhi e1_=>?_;subst e1_;refine wpAny_pyNext_range_item st (PJ (by assumption)) λh' hit' hs'=>⟨_,rfl,?_⟩
  refine qE hit' rfl ?_;refine i9 ⟨_,rfl⟩ ?_ (S.same hI (λo2 e2=>by replace e2:=st▸e2;have h_:=aj e2;clear e2;subst h_;exact dJ rfl (by decide)) hs') (nt hs');have e1:a+(i:Int)+1=a+((i+1:Nat):Int):=NC;have e2:(((b - a).toNat:Nat):Int) - (i:Int) - 1=(((b - a).toNat:Nat):Int) - ((i+1:Nat):Int):=Gz;replace hit':=e1▸hit';replace hit':=e2▸hit';exact hit'
 done:=λs st S=>by
  have hl:(dU a b).length=(b - a).toNat:=by simp[dU]
  replace st:=hl▸st;exact wpAny_pyNext_range_end hh st (IY) λh' k=>⟨rfl,S.ext hI (λo2 e2=>by replace e2:=st▸e2;have h_:=aj e2;clear e2;subst h_;exact dJ rfl (by decide)) k,pi k⟩
 again:=λi s Q st q=>wpAny_pyIter_rangeiter st q
theorem zE {x:Str} {i:Nat} {d:PV} (h:(eK x)[i]?=some d):∃c,x.cps[i]?=some c/\d=.str ⟨#[c]⟩:=by unfold eK eY at h;replace h:=fj▸h;replace h:=iG▸h;refine ah (gy.mp h) λc hc e2_=>?_;subst e2_;exact az c (by simpa using hc) rfl
theorem Ar (x:Str):(eK x).length=x.cps.size:=by simp[eK,eY]
theorem LK (hh:A.handled=none) {I:Addr} {tgt:ab} {x:Str} {t:df} (hI:X.h0.get? I=none):ix X A tgt (.ref I) (eK x) [] [] (λi s=>s.heap.IsStrIter I (ga x) x t i) [I] [I] gm where
 sub:=λb hb=>hb
 live:=λi s st b hb=>by simp only[av,bz,or_false] at hb;refine bB st λo e hc ζ=>?_;clear st;refine aa hb ?_;exact az o e (eM hc)
 frame:=λi s s' st ζ k ζ=>ah st λo e r=>⟨o,k I (.head _) o e,r⟩
 item:=λi d W s hd st S ζ r ζ=>by
  refine ah (zE hd) λc hc e2_=>?_;subst e2_;have fin:∀h',h'.IsStrIter I (ga x) x t (i+1)->iX I s.heap h'->∃v,some (Ql ⟨#[c]⟩ s.toks)=some v/\
    aq (aw X.prog X.w) A (ly tgt (.ref I) v) (λζ s'=>ao W s'.heap (.str ⟨#[c]⟩) v/\s'.heap.IsStrIter I (ga x) x t (i+1)/\ai X s'/\bG [I] gm s s') (λζ ζ=>False) {s with heap:=h',toks:=s.toks+1}:=by
   intro h' hit' hs';refine bB st λo e hcl hdd=>?_;clear st;refine bB (id hit') λo' e' hc' hd'=>?_;refine az _ rfl (qE e' ?_ ?_)
   ·unfold rB;refine aa hc' ?_;refine (?_:List.contains _ (ga x)=false);unfold ga
    split<;>decide+kernel
   ·refine i9 ⟨⟨_,rfl⟩,by refine (?_:1<=sizeLine);decide⟩ hit' (S.same hI (λo2 e2=>by replace e2:=e▸e2;have h_:=aj e2;clear e2;subst h_;exact dJ hcl (by unfold ga;split<;>decide)) hs') (nt hs')
  cases ha:x.cps.all (·<128)
  ·have he:ga x= "str_iterator" :=by simp[ga,ha]
   replace st:=he▸st;exact wpAny_pyNext_wide_item st hc λh' hit' hs'=>fin h' (by refine aa he ?_;exact hit') hs'
  ·have he:ga x= "str_ascii_iterator" :=if_pos (by assumption);replace st:=he▸st;exact wpAny_pyNext_ascii_item st hc λh' hit' hs'=>fin h' (by refine aa he ?_;exact hit') hs'
 done:=λs st S=>by
  refine bB (id st) λo e hcl hdd=>?_;rw[Ar] at st;have hn:h8 o:=dJ hcl (by unfold ga;split<;>decide);have fin:∀h',n4 I s.heap h'->(none:Option Value)=none/\ai X {s with heap:=h'}/\bG [I] gm s {s with heap:=h'}:=λh' k=>
   ⟨rfl,S.ext hI (λo2 e2=>by replace e2:=e▸e2;have h_:=aj e2;clear e2;subst h_;exact hn) k,pi k⟩
  unfold ga at st;cases ha:x.cps.all (·<128)
  ·simp only[ha,ey,if_false] at st;exact wpAny_pyNext_wide_end hh st (by simp) fin
  ·simp only[ha,if_true] at st;exact wpAny_pyNext_ascii_end hh st (by simp) fin
 again:=λi s Q st q=>by
  unfold ga at st;cases ha:x.cps.all (·<128)
  ·simp only[ha,ey,if_false] at st;exact wpAny_pyIter_striter_wide st q
  ·simp only[ha,if_true] at st;exact wpAny_pyIter_striter_ascii st q
theorem wq:∀{xs:List PV} {k i:Nat} {d:PV},(du k xs)[i]?=some d->∃e,xs[i]?=some e/\d=.tup [.int ((k+i:Nat):Int),e]
 |[],k,i,d,h=>ac h
 |x::xs,k,0,d,h=>az x rfl (aj (show some (PV.tup [.int k,x])=some d from h)).symm
 |x::xs,k,i+1,d,h=>ah (wq (show (du (k+1) xs)[i]?=some d from h)) λe h1 h2=>az e h1 (h2.trans (congrArg (λz:Nat=>PV.tup [.int z,e]) Pm))
theorem ug:∀(xs:List PV) (k:Nat),(du k xs).length=xs.length
 |[],_=>rfl
 |x::xs,k=>congrArg pD (ug xs (k+1))
theorem xK {e it:Addr} {ts:List ab} {tn:Nat} {tp:Pos} {xs cs:List PV} {cvs:List Value} {St:Nat->Heap->Prop} {P:Nat->Value->Prop} {fp:List Addr} (D:Draws X.prog X.w A.in1 it fp xs.length P St) (hit:it∈fp) (hI:X.h0.get? it=none) (hE:X.h0.get? e=none) (hne:e≠it) (hef:e∉fp) (hlive:∀i h,St i h->(∃o,h.get? it=some o/\h8 o/\cK o=false/\∀its n,o.data≠.seq its n)/\∀b∈fp,∃o,h.get? b=some o/\cK o=false) (hP:∀i d W h v,xs[i]?=some d->ax W h cs cvs->P i v->ao W h d v):ix X A (.Tuple ts tn tp) (.ref e) (du 0 xs) cs cvs (λi s=>(∃old,pK s.heap e it (i:Int) old)/\St i s.heap) (e::fp) [e,it] gm where
 sub:=λb hb=>by
  simp only[av,bz,or_false] at hb;rcases hb with rfl|rfl
  ·exact .head _
  ·exact .tail _ hit
 live:=λi s st b hb=>by
  obtain ⟨⟨old,h1⟩,h2⟩:=st;rcases av.mp hb with rfl|hb
  ·exact az _ h1 rfl
  ·exact (hlive i _ h2).2 b hb
 frame:=λi s s' st ζ k ζ=>by obtain ⟨⟨old,h1⟩,h2⟩:=st;exact⟨⟨old,k e (.head _) _ h1⟩,D.frame i _ _ h2 λb hb=>k b (.tail _ hb)⟩
 item:=λi d W s hd st S w r hw=>by
  obtain ⟨⟨old,h1⟩,h2⟩:=st;refine ah (wq hd) λc hc e2_=>?_;subst e2_;have hi:i<xs.length:=by
   by_cases q:i<xs.length
   ·exact q
   ·rw[uK (rK (by assumption))] at hc;exact ac hc
  refine wpAny_pyNext_enum_itemD D h1 h2 hi hne hef λx h' tk px he st' ht hsz hk=>⟨_,rfl,?_⟩
  obtain ⟨⟨oi,ei,ni,ti,di⟩,_⟩:=hlive i _ h2;have hx:=hP i c W s.heap x hc r px;refine wpAny_letOwnedTupleGo_enum he λh'' he' hs''=>?_;have k2:∀b o,b∉[e,it]->s.heap.get? b=some o->h''.get? b=some o:=λb o hb q=>by simp only[av,bz,or_false,not_or] at hb;exact (hs''.2 b hb.1).trans (hk b o hb.1 hb.2 q)
  have hsn:s.heap.objs.size≠e:=λq=>by have h1':s.heap.get? e=some _:=h1;replace h1':=(eh q)▸h1';replace h1':=eJ▸h1';exact ac h1'
  have rep:∀{d v},ao W s.heap d v->ao W h'' d v:=λ{d v} r=>ao.kb (V:=[e,it]) (λb o hb ζ q=>k2 b o hb q) (λb hb=>.inr (.inr λo q=>by
   simp only[av,bz,or_false] at hb;rcases hb with rfl|rfl
   ·replace q:=h1▸q;have h_:=aj q;clear q;subst h_;intro its n z;cases z
   ·replace q:=ei▸q;have h_:=aj q;clear q;subst h_;exact di)) (λb hb=>.inl hb) d v r
  refine⟨?_,⟨⟨x,?_⟩,D.frame (i+1) _ _ st' λb hb o q=>(hs''.2 b (λz=>hef (z▸hb))).trans q⟩,
   S.extZ (Z:=[e,it]) (λb hb=>?_) (λb hb o q=>?_) k2,⟨λb o hb ζ q=>k2 b o hb q,λb o hb q=>⟨o,k2 b o hb q⟩,bf _,λζ ζ=>rfl⟩⟩
  ·skip;refine⟨s.heap.objs.size,[.int (i:Nat) tk,x],rfl,w.new,⟨_,(hs''.2 _ hsn).trans ht,rfl,_,rfl⟩,by refine (?_:2<=sizeLine);decide,.int (i:Nat) tk,[x],rfl,⟨tk,by rw[e9]⟩,x,[],rfl,rep hx,rfl⟩
  ·have:((i+1:Nat):Int)=(i:Int)+1:=Int.natCast_succ _;refine aa this ?_;exact he'
  ·simp only[av,bz,or_false] at hb;rcases hb with rfl|rfl
   ·exact hE
   ·exact hI
  ·simp only[av,bz,or_false] at hb;rcases hb with rfl|rfl
   ·replace q:=h1▸q;have h_:=aj q;clear q;subst h_;exact dJ rfl (by decide)
   ·replace q:=ei▸q;have h_:=aj q;clear q;subst h_;exact ni
 done:=λs st S=>by
  rw[ug] at st;obtain ⟨⟨old,h1⟩,h2⟩:=st;obtain ⟨⟨oi,ei,ni,ti,di⟩,_⟩:=hlive _ _ h2;refine wpAny_pyNext_enum_endD D h1 h2 λh' k=>⟨rfl,S.ext hI (λo2 e2=>by replace e2:=ei▸e2;have h_:=aj e2;clear e2;subst h_;exact ni) k,?_⟩
  have:=pi (s:=s) (tk:=s.toks) (gm:=gm) k;exact⟨this.kb.mono (λb hb=>by simp at hb;simp[hb]),λb o hb q=>this.th b o (λz=>hb (by simp at z;simp[z])) q,this.gsz,this.gk⟩
 again:=λi s Q st q=>uL st.1.choose_spec q
end
open AutoSeq1 (wpAny_loadPart')
section
variable {prog:Program} {w:iC} {A:aO} {E:Value->ae->Prop} {s:ae}
theorem JZ {it t:Addr} {i:Nat} {items} {x:Value} {Q:Value->ae->Prop} (hit:s.heap.IsTupleIter it t i) (ht:s.heap.IsTuple t items) (hx:items[i]?=some x) (hQ:∀h',h'.IsTupleIter it t (i+1)->iX it s.heap h'->Q x {s with heap:=h'}):
  aq (aw prog w) A (n7 (.ref it)) Q E s:=by
 refine bB (id hit) λo ho hc hd=>?_;obtain ⟨ol,hol,_,nl,hdl⟩:=ht;unfold n7
 refine ak (uM (name:=ag "__next__") hit.typeIs yb
  (uN yb hit.typeIs Qm ?_ (Qn _)))
 refine (?_:aq _ _ (mL (.ref it) 0>>=_) _ _ s);refine ak (jW ho hd (x:=.ref t) rfl ?_);refine (?_:aq _ _ (if (n8 t==Value.none)=true then _ else _) _ _ s);rw[if_neg (show ¬ ((n8 t==Value.none)=true) from iZ)];refine (?_:aq _ _ (mL (.ref it) 1>>=_) _ _ s);refine ak (jW ho hd (x:=.int i 0) rfl ?_);refine (?_:aq _ _ (seqItems? (.ref t)>>=_) _ _ s);refine ak (n9 hol hdl ?_);simp only[gb,hx];refine ak (Qo ho hd (i0 _) (aS ⟨x,rfl,aS (hQ _ ?_ (yc ..))⟩))
 exact⟨_,Du _ ho (Obj.isFreed_of_fields (Qp hd _)),(Obj.cls_mapFields ..).trans hc,by
  rw[Qp hd];rfl⟩
theorem LX {it t:Addr} {i:Nat} {items} {Q:Value->ae->Prop} (hh:A.handled=none) (hit:s.heap.IsTupleIter it t i) (ht:s.heap.IsTuple t items) (hx:items[i]?=none) (hE:∀h' e,n4 it s.heap h'->(∃o,h'.get? e=some o/\o.cls=.type "StopIteration")->E (.ref e) {s with heap:=h'}):
  aq (aw prog w) A (n7 (.ref it)) Q E s:=by
 refine bB (id hit) λo ho hc hd=>?_;obtain ⟨ol,hol,_,nl,hdl⟩:=ht;unfold n7
 refine ak (uM (name:=ag "__next__") hit.typeIs yb
  (uN yb hit.typeIs Qm ?_ (Qn _)))
 refine (?_:aq _ _ (mL (.ref it) 0>>=_) _ _ s);refine ak (jW ho hd (x:=.ref t) rfl ?_);refine (?_:aq _ _ (if (n8 t==Value.none)=true then _ else _) _ _ s);rw[if_neg (show ¬ ((n8 t==Value.none)=true) from iZ)];refine (?_:aq _ _ (mL (.ref it) 1>>=_) _ _ s);refine ak (jW ho hd (x:=.int i 0) rfl ?_);refine (?_:aq _ _ (seqItems? (.ref t)>>=_) _ _ s);refine ak (n9 hol hdl ?_);simp only[gb,hx];refine ak (uO (ak (Qo ho hd (mD _) ?_)));refine (?_:aq _ _ (yd (.type "StopIteration") []>>=_) _ _ _);refine ak ?_;simp only[yd,newTuple];refine ak (pL ?_ (by size_fits));refine ak (m:=ye _ _) (Dv (a:=Value.none) (by first|rfl|(simp only[ye];rfl)) ?_);refine pL ?_ (by size_fits);refine ak (Qq ?_)
 first|refine aa (show A.in1.handled=none from hh) ?_|rw[hh]
 refine ak (aS (Qr ?_));exact hE _ _ (((yc ..).extBut.push _).push _) ⟨_,dH _ rfl,rfl⟩
theorem Gk (hh:A.handled=none) (it l:Addr) (hne:l≠it) (items:Array Value):Draws prog w A it [it,l] items.size (λi v=>items[i]?=some v) (λi h=>h.IsTupleIter it l i/\h.IsTuple l items) where
 live:=λζ ζ st=>ah st.1 λo ho ζ=>⟨o,ho⟩
 frame:=λζ ζ ζ st hk=>⟨ah st.1 λo e r=>⟨o,hk it (.head _) o e,r⟩,ah st.2 λo e r=>⟨o,hk l (.tail _ (.head _)) o e,r⟩⟩
 item:=λi s Q E hi st hQ=>by refine JZ st.1 st.2 (x:=items[i]) (by simp[hi]) λh' hit' hs'=>?_;exact hQ _ h' s.toks (by simp[hi]) ⟨hit',ah st.2 λo e r=>⟨o,(hs'.2 l hne).trans e,r⟩⟩ hs'
 done:=λs Q E st hE=>LX hh st.1 st.2 (by simp) hE
set_option maxHeartbeats 1000000 in
theorem EV {prog:Program} {w:iC} {A:aO} {cls:Value} {s:ae} {Q:Bool->ae->Prop} {E} (h:∀b,Q b s):aq (aw prog w) A (Qs cls) Q E s:=by unfold Qs;exact ak (wpAny_stack_any λst=>aS (h _))
theorem Ku (l:Addr) (items:Array Value) (n:Nat) (dct:Option Addr) (sl:Array (Option Value)):Meets (uI.«enumerate.__new__» ⟨[.type "enumerate",.ref l],[]⟩) (λζ R s=>s.heap.get? l=some {cls:=.type "tuple",dict:=dct,data:=.seq items n,slots:=sl}/\
   R (.ok (.ret (.ref (s.heap.push {cls:=.type "tuple_iterator",data:=.fields #[.ref l,.int 0 0]}).objs.size)))
    {s with heap:=(s.heap.push {cls:=.type "tuple_iterator",data:=.fields #[.ref l,.int 0 0]}).push {cls:=.type "enumerate",data:=.fields #[.none,.bool false,.ref s.heap.objs.size,hH 0,.none,.none]}}):=
 .of_wp λprog w A R s h=>by
  obtain ⟨hp,g,d,tk,os⟩:=s;refine be h λhl h=>?_;have hsub:=sub_enumerate;have hL:Dd (yf ⟨hp,g,d,tk,os⟩) l items:=⟨_,hl,rfl,n,rfl⟩
  wp_walk using ya hl,EV
  intro b
  induction b using d8
  ·wp_walk using ya hl,Dx hL
   exact az _ rfl h
  ·wp_walk using ya hl,Dx hL
   exact az _ rfl h
theorem K0 {l:Addr} {items:Array Value} {Q:Value->ae->Prop} (hL:s.heap.IsTuple l items) (h:∀h',pK h' (s.heap.objs.size+1) s.heap.objs.size 0 .none->h'.IsTupleIter s.heap.objs.size l 0->
   (∀b o,s.heap.get? b=some o->h'.get? b=some o)->Q (.ref (s.heap.objs.size+1)) {s with heap:=h'}):aq (aw prog w) A (call (.type "enumerate") [.ref l]) Q E s:=by
 obtain ⟨⟨c,dct,dt,sl⟩,hl,hc,n,hd⟩:=hL;replace hc:c=.type "tuple" :=hc;replace hd:dt=.seq items n:=hd;subst hc hd;refine Qt F.called_enumerate (by decide) (F.typeCall_enumerate_1 _) (F.newCall_enumerate_1 _) (λobj=>F.args_object_init_2 obj _) F.entry_enumerate_new
  (Ku l items n dct sl) ⟨hl,?_⟩
 have hz:(s.heap.push {cls:=.type "tuple_iterator",data:=.fields #[.ref l,.int 0 0]}).objs.size=s.heap.objs.size+1:=iF ..;refine (?_:_/\_);refine aa hz ?_
 have he:pK ((s.heap.push {cls:=.type "tuple_iterator",data:=.fields #[.ref l,.int 0 0]}).push
   {cls:=.type "enumerate",data:=.fields #[.none,.bool false,.ref s.heap.objs.size,hH 0,.none,.none]}) (s.heap.objs.size+1) s.heap.objs.size 0 .none:=by
  have:=dH (s.heap.push {cls:=.type "tuple_iterator",data:=.fields #[.ref l,.int 0 0]})
   (o:={cls:=.type "enumerate",data:=.fields #[.none,.bool false,.ref s.heap.objs.size,hH 0,.none,.none]}) rfl
  replace this:=hz▸this;exact this
 exact⟨⟨_,he,rfl⟩,h _ he ⟨_,cG _ (dH _ rfl),rfl,rfl⟩ λb o x=>cG _ (cG _ x)⟩
end
section
variable {X:Cx} {A:aO} {s:ae} {gm:Nat}
theorem Bb {W h} {xs:List PV} {vs:List Value} {i:Nat} {d:PV} {v:Value} (hd:xs[i]?=some d) (r:ax W h xs vs) (hv:vs.toArray[i]?=some v):ao W h d v:=by
 refine ah (r.get hd) λu hu ru=>?_;have:u=v:=by simp only[Qu] at hv;replace hv:=hu▸hv;exact kr hv
 exact this▸ru
theorem FH (hh:A.handled=none) {e it l:Addr} {ts:List ab} {tn:Nat} {tp:Pos} {xs:List PV} {vs:List Value} (hI:X.h0.get? it=none) (hE:X.h0.get? e=none) (h1:e≠it) (h2:e≠l) (h3:l≠it) (hlen:vs.length=xs.length):ix X A (.Tuple ts tn tp) (.ref e) (du 0 xs) xs vs (λi s=>(∃old,pK s.heap e it (i:Int) old)/\(s.heap.IsListIter it l i/\s.heap.IsList l vs.toArray)) [e,it,l] [e,it] gm:=by
 have D:=Draws.list (prog:=X.prog) (w:=X.w) (A:=A.in1) hh it l h3 vs.toArray;replace D:=(show vs.toArray.size=xs.length by exact hlen)▸D;refine xK D (.head _) hI hE h1 (by simp[h1,h2]) (λi h st=>?_) λi d W h v hd r hv=>Bb hd r hv;obtain ⟨⟨o,q,hc,hd⟩,⟨o2,q2,hc2,hd2⟩⟩:=st;refine⟨⟨o,q,dJ hc (by decide),eM hc,λits n z=>by replace z:=hd▸z;cases z⟩,λb hb=>?_⟩;simp only[av,bz,or_false] at hb;rcases hb with rfl|rfl
 ·exact az o q (eM hc)
 ·exact az o2 q2 (eM hc2)
theorem K2 (hh:A.handled=none) {e it l:Addr} {ts:List ab} {tn:Nat} {tp:Pos} {xs:List PV} {vs:List Value} (hI:X.h0.get? it=none) (hE:X.h0.get? e=none) (h1:e≠it) (h2:e≠l) (h3:l≠it) (hlen:vs.length=xs.length):ix X A (.Tuple ts tn tp) (.ref e) (du 0 xs) xs vs (λi s=>(∃old,pK s.heap e it (i:Int) old)/\(s.heap.IsTupleIter it l i/\s.heap.IsTuple l vs.toArray)) [e,it,l] [e,it] gm:=by
 have D:=Gk (prog:=X.prog) (w:=X.w) (A:=A.in1) hh it l h3 vs.toArray;replace D:=(show vs.toArray.size=xs.length by exact hlen)▸D;refine xK D (.head _) hI hE h1 (by simp[h1,h2]) (λi h st=>?_) λi d W h v hd r hv=>Bb hd r hv;obtain ⟨⟨o,q,hc,hd⟩,⟨o2,q2,hc2,hd2⟩⟩:=st;refine⟨⟨o,q,dJ hc (by decide),eM hc,λits n z=>by replace z:=hd▸z;cases z⟩,λb hb=>?_⟩;simp only[av,bz,or_false] at hb;rcases hb with rfl|rfl
 ·exact az o q (eM hc)
 ·exact az o2 q2 (eM hc2)
theorem Au (hh:A.handled=none) {e it:Addr} {ts:List ab} {tn:Nat} {tp:Pos} {x:Str} {t:df} (hI:X.h0.get? it=none) (hE:X.h0.get? e=none) (h1:e≠it):ix X A (.Tuple ts tn tp) (.ref e) (du 0 (eK x)) [] [] (λi s=>(∃old,pK s.heap e it (i:Int) old)/\s.heap.IsStrIter it (ga x) x t i) [e,it] [e,it] gm:=by
 have D:Draws X.prog X.w A.in1 it [it] (eK x).length (λi v=>∃c u,x.cps[i]?=some c/\v=.str ⟨#[c]⟩ u) (λi h=>h.IsStrIter it (ga x) x t i):=by
  rw[Ar];cases ha:x.cps.all (·<128)
  ·have he:ga x= "str_iterator" :=by simp[ga,ha]
   refine aa he ?_;exact Draws.strWide (A:=A.in1) hh it x t
  ·have he:ga x= "str_ascii_iterator" :=if_pos (by assumption);refine aa he ?_;exact Draws.strAscii (A:=A.in1) hh it x t
 refine xK D (.head _) hI hE h1 (by simp[h1]) (λi h st=>?_) λi d W h v hd r hv=>?_
 ·refine bB st λo q hc hd=>?_;clear st;refine⟨⟨o,q,dJ hc (by unfold ga;split<;>decide),eM hc,λits n z=>by replace z:=hd▸z;cases z⟩,λb hb=>?_⟩;simp only[av,bz,or_false] at hb;refine aa hb ?_;exact az o q (eM hc)
 ·refine bR hv λc u hc e3_=>?_;clear hv;subst e3_;refine ah (zE hd) λc' hc' e2_=>?_;subst e2_;replace hc':=hc▸hc';have h_:=aj hc';clear hc';subst h_;exact⟨⟨_,rfl⟩,by refine (?_:1<=sizeLine);decide⟩
theorem Co:∀{xs ys:List PV} {i:Nat} {d:PV},(fT xs ys)[i]?=some d->∃x y,xs[i]?=some x/\ys[i]?=some y/\d=.tup [x,y]
 |[],_,_,_,h=>ac h
 |_::_,[],_,_,h=>ac h
 |x::xs,y::ys,0,d,h=>gF x y rfl rfl (aj (show some (PV.tup [x,y])=some d from h)).symm
 |x::xs,y::ys,i+1,d,h=>Co (xs:=xs) (ys:=ys) (i:=i) h
theorem AI:∀(xs ys:List PV),(fT xs ys).length=fg xs.length ys.length
 |[],_=>by rfl
 |_::_,[]=>by rfl
 |x::xs,y::ys=>(congrArg pD (AI xs ys)).trans (Nat.succ_min_succ _ _).symm
theorem sD {W h}:∀{xs ys:List PV} {us vs:List Value},us.length=xs.length->ax W h (xs++ys) (us++vs)->ax W h xs us/\ax W h ys vs
 |[],ys,[],vs,_,r=>⟨rfl,r⟩
 |[],_,_::_,_,e,_=>pM e
 |_::_,_,[],_,e,_=>pM e
 |x::xs,ys,u::us,vs,e,r=>by refine bJ r λv q e1 h1 h2=>?_;clear r;cases e1;refine be (sD (kq e) h2) λk1 k2=>?_;exact⟨⟨_,_,rfl,h1,k1⟩,k2⟩
structure yT (h:Heap) (z TI TO i1 i2 l1 l2:Addr) (us vs:List Value) (i:Nat):Prop where
 z:hM h z TI TO .none
 TI:IsPair h TI (.ref i1) (.ref i2)
 TO:∃a b,IsPair h TO a b
 i1:h.IsListIter i1 l1 i
 i2:h.IsListIter i2 l2 i
 l1:iL h l1 us.toArray
 l2:iL h l2 vs.toArray
theorem Cu {h:Heap} {z TI TO i1 i2 l1 l2:Addr} {us vs:List Value} {i:Nat} (st:yT h z TI TO i1 i2 l1 l2 us vs i):∀b∈[z,TO,i1,i2],∀o,h.get? b=some o->h8 o:=
 fm_ (λo q=>aj (st.z.symm.trans q)▸dJ rfl (by decide))<|fm_ (λo q=>jJ st.TO λa b e=>aj (e.symm.trans q)▸dJ rfl (by decide))<|
 fm_ (λo q=>bB st.i1 λo1 e c ζ=>aj (e.symm.trans q)▸dJ c (by decide))<|fm_ (λo q=>bB st.i2 λo1 e c ζ=>aj (e.symm.trans q)▸dJ c (by decide)) j3
theorem Ez (hh:A.handled=none) {z TI TO i1 i2 l1 l2:Addr} {ts:List ab} {tn:Nat} {tp:Pos} {xs ys:List PV} {us vs:List Value} (D:ZipApart z TI TO i1 i2 l1 l2) (f1:X.h0.get? z=none) (f2:X.h0.get? TO=none) (f3:X.h0.get? i1=none) (f4:X.h0.get? i2=none) (hx:us.length=xs.length) (hy:vs.length=ys.length):ix X A (.Tuple ts tn tp) (.ref z) (fT xs ys) (xs++ys) (us++vs) (λi s=>yT s.heap z TI TO i1 i2 l1 l2 us vs (fg i (fT xs ys).length)) [z,TI,TO,i1,i2,l1,l2] [z,TO,i1,i2] gm where
 sub:=fm_ (.head _)<|fm_ (.tail _ (.tail _ (.head _)))<|fm_ (.tail _ (.tail _ (.tail _ (.head _))))<|fm_ (.tail _ (.tail _ (.tail _ (.tail _ (.head _))))) j3
 live:=λi s st=>fm_ ⟨_,st.z,rfl⟩<|fm_ ⟨_,st.TI,rfl⟩<|fm_ (jJ st.TO λa b e=>⟨_,e,rfl⟩)<|fm_ (bB st.i1 λo e hc ζ=>⟨o,e,eM hc⟩)<|fm_ (bB st.i2 λo e hc ζ=>⟨o,e,eM hc⟩)<|
  fm_ (aE st.l1 λn e=>⟨_,e,rfl⟩)<|fm_ (aE st.l2 λn e=>⟨_,e,rfl⟩) j3
 frame:=λi s s' st ζ k ζ=>
  ⟨k z (.head _) _ st.z,k TI (.tail _ (.head _)) _ st.TI,jJ st.TO λa b e=>⟨a,b,k TO (.tail _ (.tail _ (.head _))) _ e⟩,ah st.i1 λo e r=>⟨o,k i1 (.tail _ (.tail _ (.tail _ (.head _)))) _ e,r⟩,
   ah st.i2 λo e r=>⟨o,k i2 (.tail _ (.tail _ (.tail _ (.tail _ (.head _))))) _ e,r⟩,aE st.l1 λn e=>⟨n,k l1 (by simp) _ e⟩,aE st.l2 λn e=>⟨n,k l2 (by simp) _ e⟩⟩
 item:=λi d W s hd st S w r hw=>by
  have hi:i<(fT xs ys).length:=by
   by_cases q:i<(fT xs ys).length
   ·exact q
   ·rw[uK (rK (by assumption))] at hd;exact ac hd
  rw[lh (dE (by assumption))] at st;refine bJ (Co hd) λa b ha hb e4_=>?_;subst e4_;refine be (sD hx r) λr1 r2=>?_;refine ah (r1.get ha) λu hu ru=>?_;refine ah (r2.get hb) λv hv rv=>?_;refine jJ st.TO λa0 b0 hTO=>?_;refine bB (id st.i1) λo1 e1 c1 d1=>?_;refine bB (id st.i2) λo2 e2 c2 d2=>?_;refine wpAny_pyNext_zip_item D st.z st.TI hTO st.i1 st.i2 st.l1.isList st.l2.isList (x:=u) (y:=v) (by simpa using hu) (by simpa using hv)
   λh' k1 k2 k3 k4 k5 k6 k7=>⟨_,rfl,Qv k1 λh'' z1 hs=>?_⟩
  have ne:∀{b o},s.heap.get? b=some o->s.heap.objs.size≠b:=λe q=>by (replace e:=(eh q)▸e;replace e:=eJ▸e);exact ac e
  have keep:∀c o,c∉[z,TO,i1,i2]->s.heap.get? c=some o->h''.get? c=some o:=λc o hc e=>by have a1:=me hc;have a2:=me a1.2;have a3:=me a2.2;exact (hs.2 c a1.1).trans (k7 c o a1.1 a2.1 a3.1 (me a3.2).1 e)
  have rep:∀{d v},ao W s.heap d v->ao W h'' d v:=λ{d v} r=>ao.kb (V:=[z,TO,i1,i2]) (λb o hb ζ q=>keep b o hb q) (λb hb=>.inl (hw b hb)) (λb hb=>.inl hb) d v r;have hn:fg (i+1) (fT xs ys).length=i+1:=lh (Qw (by assumption));refine i9 ?_ ?_ (S.extZ (Z:=[z,TO,i1,i2]) (fm_ f1<|fm_ f2<|fm_ f3<|fm_ f4 j3) (Cu st) keep) ⟨λb o hb ζ q=>keep b o hb q,λb o hb q=>⟨o,keep b o hb q⟩,bf _,λζ ζ=>rfl⟩
  ·skip;refine⟨s.heap.objs.size,[u,v],rfl,w.new,⟨_,(hs.2 _ (ne st.z)).trans k5,rfl,_,rfl⟩,by refine (?_:2<=sizeLine);decide,u,[v],rfl,rep ru,v,[],rfl,rep rv,rfl⟩
  ·refine aa hn ?_;have q1:∀{c o},c≠z->h'.get? c=some o->h''.get? c=some o:=λhc e=>(hs.2 _ hc).trans e;have old:∀{c o},c∉[z,TO,i1,i2]->s.heap.get? c=some o->h''.get? c=some o:=λ{c o} hc e=>keep c o hc e
   refine⟨z1,old (ni_ D.TIz<|ni_ D.TITO<|ni_ D.TIi1<|ni_ D.TIi2 wM) st.TI,⟨_,_,q1 D.TOz k2⟩,ah k3 λo e r=>⟨o,q1 D.i1z e,r⟩,ah k4 λo e r=>⟨o,q1 D.i2z e,r⟩,
    aE st.l1 λn e=>⟨n,old (ni_ D.l1z<|ni_ D.l1TO<|ni_ D.l1i1<|ni_ D.l1i2 wM) e⟩,aE st.l2 λn e=>⟨n,old (ni_ D.l2z<|ni_ D.l2TO<|ni_ D.l2i1<|ni_ D.l2i2 wM) e⟩⟩
 done:=λs st S=>by
  have hn:fg (fT xs ys).length (fT xs ys).length=fg xs.length ys.length:=by rw[Nat.min_self,AI]
  replace st:=hn▸st;refine jJ st.TO λa0 b0 hTO=>?_;refine bB (id st.i1) λo1 e1 c1 d1=>?_;refine bB (id st.i2) λo2 e2 c2 d2=>?_;refine wpAny_pyNext_zip_end hh D st.z st.TI hTO st.i1 st.i2 st.l1.isList st.l2.isList ?_ λh' k=>?_
  ·by_cases q:xs.length<=ys.length
   ·left;simp;exact Im hx q
   ·right;simp;exact Kg hy q
  ·have keep:∀c o,c∉[z,TO,i1,i2]->s.heap.get? c=some o->h'.get? c=some o:=λc o hc e=>by have a1:=me hc;have a2:=me a1.2;have a3:=me a2.2;exact k c o a1.1 a2.1 a3.1 (me a3.2).1 e
   exact fx rfl (S.extZ (Z:=[z,TO,i1,i2]) (fm_ f1<|fm_ f2<|fm_ f3<|fm_ f4 j3) (Cu st) keep) ⟨λb o hb ζ q=>keep b o hb q,λb o hb q=>⟨o,keep b o hb q⟩,bf _,λζ ζ=>rfl⟩
 again:=λi s Q st q=>yg st.z q
end
noncomputable abbrev eg (h:Heap) (T:Addr) (a b c:Value):Prop:=h.get? T=some {cls:=.type "tuple",data:=.seq #[a,b,c]}
structure oZ (z TI TO i1 i2 i3 l1 l2 l3:Addr):Prop where
 nd:[z,TI,TO,i1,i2,i3].Nodup
 l1:l1∉[z,TO,i1,i2,i3]
 l2:l2∉[z,TO,i1,i2,i3]
 l3:l3∉[z,TO,i1,i2,i3]
section
variable {prog:Program} {w:iC} {A:aO} {E:Value->ae->Prop} {s:ae}
theorem xH {T:Addr} {a b c x:Value} {k:Nat} {Q:Unit->ae->Prop} (hT:eg s.heap T a b c) (h:∀h',h'.get? T=some {cls:=.type "tuple",data:=.seq ((#[a,b,c]:Array Value).setIfInBounds k x)}->iX T s.heap h'->Q () {s with heap:=h'}):
  aq (aw prog w) A (updateSeq T (·.setIfInBounds k x)) Q E s:=by
 refine wpAny_updateSeq hT rfl (h _ ?_ (yc ..));rw[Du _ hT rfl];simp[uP]
set_option maxHeartbeats 2000000 in
theorem Of {z TI TO i1 i2 i3 l1 l2 l3:Addr} {k:Nat} {xs ys zs:Array Value} {x y v a b c:Value} {Q:Value->ae->Prop} (D:oZ z TI TO i1 i2 i3 l1 l2 l3) (hz:hM s.heap z TI TO .none) (hTI:eg s.heap TI (.ref i1) (.ref i2) (.ref i3)) (hTO:eg s.heap TO a b c) (h1:s.heap.IsListIter i1 l1 k) (h2:s.heap.IsListIter i2 l2 k) (h3:s.heap.IsListIter i3 l3 k) (hl1:s.heap.IsList l1 xs) (hl2:s.heap.IsList l2 ys) (hl3:s.heap.IsList l3 zs) (hx:xs[k]?=some x) (hy:ys[k]?=some y) (hv:zs[k]?=some v) (hQ:∀h',hM h' z TI TO (hH s.heap.objs.size)->eg h' TO x y v->h'.IsListIter i1 l1 (k+1)->h'.IsListIter i2 l2 (k+1)->h'.IsListIter i3 l3 (k+1)->eg h' s.heap.objs.size x y v->
   (∀c o,c∉[z,TO,i1,i2,i3]->s.heap.get? c=some o->h'.get? c=some o)->Q (.ref s.heap.objs.size) {s with heap:=h'}):aq (aw prog w) A (uI.«zip.__next__» ⟨[.ref z],[]⟩) (λfin s'=>∃v,fin=.done (.ret v)/\Q v s') E s:=by
 have hN:=D.nd;simp only[pN,av,not_or,bz,not_false_eq_true,and_true,uQ] at hN;obtain ⟨⟨zTI,zTO,z1,z2,z3⟩,⟨TITO,TI1,TI2,TI3⟩,⟨TO1,TO2,TO3⟩,⟨n12,n13⟩,n23⟩:=hN;have hL1:=D.l1;have hL2:=D.l2;have hL3:=D.l3;simp only[av,not_or,bz,not_false_eq_true,and_true] at hL1 hL2 hL3;obtain ⟨a1,a2,a3,a4,a5⟩:=hL1;obtain ⟨b1,b2,b3,b4,b5⟩:=hL2;obtain ⟨c1,c2,c3,c4,c5⟩:=hL3;show aq _ _ (mL (.ref z) 2>>=_) _ _ _;refine ak (jW hz rfl (x:=.bool false) rfl ?_);show aq _ _ (mL (.ref z) 3>>=_) _ _ _;refine ak (jW hz rfl (x:=.ref TI) rfl ?_);refine ak (n9 hTI rfl ?_);show aq _ _ (yh (.ref z)>>=_) _ _ _;refine ak ?_;unfold yh;refine ak (jW hz rfl (x:=.none) rfl (aS ?_));simp only[if_true];refine ak (uO ?_);refine ak (jW hz rfl (x:=.ref TO) rfl ?_);refine ak (uR hz (by simp) λh₁ hz₁ hs₁=>?_);replace hz₁:hM h₁ z TI TO .ellipsis:=hz₁;refine ak ?_;simp only[Qx,Qy,rS,uS];refine ak (ak (yi ?_));show aq _ _ (n7 (.ref i1)>>=_) _ _ _;refine ak (Dy (h1.extBut hs₁.extBut (cC z1)) (hl1.extBut hs₁.extBut a1) hx λh₂ h1₂ hs₂=>aS ?_);have hTO₂:eg h₂ TO a b c:=hs₂.extBut _ _ TO1 (hs₁.extBut _ _ (cC zTO) hTO);refine ak (n9 hTO₂ rfl ?_);refine ak (xH hTO₂ λh₃ hTO₃ hs₃=>?_);replace hTO₃:eg h₃ TO x b c:=hTO₃;refine ak (Dz (aS ?_));refine ak (ak (yi ?_));show aq _ _ (n7 (.ref i2)>>=_) _ _ _
 refine ak (Dy (((h2.extBut hs₁.extBut (cC z2)).extBut hs₂.extBut (cC n12)).extBut hs₃.extBut (cC TO2))
  (((hl2.extBut hs₁.extBut b1).extBut hs₂.extBut b3).extBut hs₃.extBut b2) hy λh₄ h2₄ hs₄=>aS ?_)
 have hTO₄:eg h₄ TO x b c:=hs₄.extBut _ _ TO2 hTO₃;refine ak (n9 hTO₄ rfl ?_);refine ak (xH hTO₄ λh₅ hTO₅ hs₅=>?_);replace hTO₅:eg h₅ TO x y c:=hTO₅;refine ak (Dz (aS ?_));refine ak (ak (yi ?_));show aq _ _ (n7 (.ref i3)>>=_) _ _ _
 refine ak (Dy (((((h3.extBut hs₁.extBut (cC z3)).extBut hs₂.extBut (cC n13)).extBut hs₃.extBut (cC TO3)).extBut hs₄.extBut (cC n23)).extBut hs₅.extBut (cC TO3))
  (((((hl3.extBut hs₁.extBut c1).extBut hs₂.extBut c3).extBut hs₃.extBut c2).extBut hs₄.extBut c4).extBut hs₅.extBut c2) hv λh₆ h3₆ hs₆=>aS ?_)
 have hTO₆:eg h₆ TO x y c:=hs₆.extBut _ _ TO3 hTO₅;refine ak (n9 hTO₆ rfl ?_);refine ak (xH hTO₆ λh₇ hTO₇ hs₇=>?_);replace hTO₇:eg h₇ TO x y v:=hTO₇;refine ak (Dz (aS (aS ?_)));refine ak (n9 hTO₇ rfl ?_);refine ak (wpAny_newTuple ?_);have hsz:h₇.objs.size=s.heap.objs.size:=by rw[hs₇.1,hs₆.1,hs₅.1,hs₄.1,hs₃.1,hs₂.1,hs₁.1]
 have hz₇:hM h₇ z TI TO .ellipsis:=hs₇.extBut _ _ zTO (hs₆.extBut _ _ z3 (hs₅.extBut _ _ zTO (hs₄.extBut _ _ z2 (hs₃.extBut _ _ zTO (hs₂.extBut _ _ z1 hz₁)))));have hk₇:∀c o,c∉[z,TO,i1,i2,i3]->s.heap.get? c=some o->h₇.get? c=some o:=λc o hc e=>by simp only[av,not_or,bz,not_false_eq_true,and_true] at hc;obtain ⟨d1,d2,d3,d4,d5⟩:=hc;exact hs₇.extBut _ _ d2 (hs₆.extBut _ _ d5 (hs₅.extBut _ _ d2 (hs₄.extBut _ _ d4 (hs₃.extBut _ _ d2 (hs₂.extBut _ _ d3 (hs₁.extBut _ _ d1 e))))))
 have h1₇:h₇.IsListIter i1 l1 (k+1):=((((h1₂.extBut hs₃.extBut (cC TO1)).extBut hs₄.extBut n12).extBut hs₅.extBut (cC TO1)).extBut hs₆.extBut n13).extBut hs₇.extBut (cC TO1);have h2₇:h₇.IsListIter i2 l2 (k+1):=((h2₄.extBut hs₅.extBut (cC TO2)).extBut hs₆.extBut n23).extBut hs₇.extBut (cC TO2);have h3₇:h₇.IsListIter i3 l3 (k+1):=h3₆.extBut hs₇.extBut (cC TO3);have hzlt:z<h₇.objs.size:=fJ hz₇;show aq _ _ (Qz (.ref z) (.ref h₇.objs.size)>>=_) _ _ _;refine ak ?_;unfold Qz;have hz₈:hM (h₇.push {cls:=.type "tuple",data:=.seq #[x,y,v]}) z TI TO .ellipsis:=cG _ hz₇;refine ak (uR hz₈ (by simp) λh₉ hz₉ hs₉=>?_);replace hz₉:hM h₉ z TI TO (hH h₇.objs.size):=hz₉;refine uR hz₉ (by simp) λh₀ hz₀ hs₀=>?_;replace hz₀:hM h₀ z TI TO (hH h₇.objs.size):=hz₀;have up:∀c o,c≠z->h₇.get? c=some o->h₀.get? c=some o:=λc o c1 e=>hs₀.extBut _ _ c1 (hs₉.extBut _ _ c1 (cG _ e));have hT₀:eg h₀ h₇.objs.size x y v:=hs₀.extBut _ _ (kA hzlt) (hs₉.extBut _ _ (kA hzlt) (dH _ rfl));rw[hsz] at hz₀ hT₀;refine aS ⟨_,rfl,?_⟩;show Q (.ref h₇.objs.size) _;rw[hsz];exact hQ h₀ hz₀ (up _ _ (cC zTO) hTO₇) (h1₇.at λo e=>up _ o (cC z1) e) (h2₇.at λo e=>up _ o (cC z2) e) (h3₇.at λo e=>up _ o (cC z3) e) hT₀
  λc o hc e=>up c o (λq=>hc (by simp[q])) (hk₇ c o hc e)
theorem Ow {z TI TO i1 i2 i3 l1 l2 l3:Addr} {k:Nat} {xs:Array Value} {a b c:Value} {Q:Fin->ae->Prop} (hh:A.handled=none) (D:oZ z TI TO i1 i2 i3 l1 l2 l3) (hz:hM s.heap z TI TO .none) (hTI:eg s.heap TI (.ref i1) (.ref i2) (.ref i3)) (hTO:eg s.heap TO a b c) (h1:s.heap.IsListIter i1 l1 k) (hl1:s.heap.IsList l1 xs) (hx:xs[k]?=none) (hE:∀h' e,(∀c o,c∉[z,TO,i1,i2,i3]->s.heap.get? c=some o->h'.get? c=some o)->(∃o,h'.get? e=some o/\o.cls=.type "StopIteration")->E (.ref e) {s with heap:=h'}):
  aq (aw prog w) A (uI.«zip.__next__» ⟨[.ref z],[]⟩) Q E s:=by
 have hN:=D.nd;simp only[pN,av,not_or,bz,not_false_eq_true,and_true,uQ] at hN;obtain ⟨⟨zTI,zTO,z1,z2,z3⟩,_⟩:=hN;have hL1:=D.l1;simp only[av,not_or,bz,not_false_eq_true,and_true] at hL1;obtain ⟨a1,a2,a3,a4,a5⟩:=hL1;show aq _ _ (mL (.ref z) 2>>=_) _ _ _;refine ak (jW hz rfl (x:=.bool false) rfl ?_);show aq _ _ (mL (.ref z) 3>>=_) _ _ _;refine ak (jW hz rfl (x:=.ref TI) rfl ?_);refine ak (n9 hTI rfl ?_);show aq _ _ (yh (.ref z)>>=_) _ _ _;refine ak ?_;unfold yh;refine ak (jW hz rfl (x:=.none) rfl (aS ?_));simp only[if_true];refine ak (uO ?_);refine ak (jW hz rfl (x:=.ref TO) rfl ?_);refine ak (uR hz (by simp) λh₁ hz₁ hs₁=>?_);replace hz₁:hM h₁ z TI TO .ellipsis:=hz₁;refine ak ?_;simp only[Qx,Qy,rS,uS];refine ak (ak (yi ?_));show aq _ _ (n7 (.ref i1)>>=_) _ _ _;refine ak (wpAny_nextOf_list_end hh (h1.extBut hs₁.extBut (cC z1)) (hl1.extBut hs₁.extBut a1) hx λh₂ e hs₂ he=>?_);obtain ⟨oe,hoe,hce⟩:=he;have hz₂:hM h₂ z TI TO .ellipsis:=hs₂ _ _ z1 hz₁;have hez:e≠z:=λx=>by subst x;rw[hz₂] at hoe;cases hoe;simp at hce
 refine uR hz₂ (by simp) λh₃ ζ hs₃=>hE h₃ e (λc o hc x=>?_) ⟨oe,hs₃.extBut _ _ hez hoe,hce⟩;simp only[av,not_or,bz,not_false_eq_true,and_true] at hc;exact hs₃.extBut _ _ hc.1 (hs₂ _ _ hc.2.2.1 (hs₁.extBut _ _ hc.1 x))
end
theorem CI:∀{xs ys zs:List PV} {i:Nat} {d:PV},(gn xs ys zs)[i]?=some d->∃x y z,xs[i]?=some x/\ys[i]?=some y/\zs[i]?=some z/\d=.tup [x,y,z]
 |[],_,_,_,_,h=>by simp[gn] at h
 |_::_,[],_,_,_,h=>by simp[gn] at h
 |_::_,_::_,[],_,_,h=>by simp[gn] at h
 |x::xs,y::ys,z::zs,0,d,h=>by simp[gn] at h;exact⟨x,y,z,rfl,rfl,rfl,h.symm⟩
 |x::xs,y::ys,z::zs,i+1,d,h=>by simp only[gn,List.getElem?_cons_succ] at h;obtain ⟨a,b,c,h1,h2,h3,h4⟩:=CI h;exact⟨a,b,c,by simpa using h1,by simpa using h2,by simpa using h3,h4⟩
theorem y1:∀(xs ys zs:List PV),ys.length=xs.length->zs.length=xs.length->(gn xs ys zs).length=xs.length
 |[],_,_,_,_=>by simp[gn]
 |_::_,[],_,h,_=>by simp at h
 |_::_,_::_,[],_,h=>by simp at h
 |x::xs,y::ys,z::zs,h1,h2=>by simp[gn,y1 xs ys zs (by simpa using h1) (by simpa using h2)]
section
variable {prog:Program} {w:iC} {A:aO} {E:Value->ae->Prop} {s:ae}
theorem Pe {z TI TO i1 i2 i3 l1 l2 l3:Addr} {k:Nat} {xs ys zs:Array Value} {x y v a b c:Value} {Q:Option Value->ae->Prop} (D:oZ z TI TO i1 i2 i3 l1 l2 l3) (hz:hM s.heap z TI TO .none) (hTI:eg s.heap TI (.ref i1) (.ref i2) (.ref i3)) (hTO:eg s.heap TO a b c) (h1:s.heap.IsListIter i1 l1 k) (h2:s.heap.IsListIter i2 l2 k) (h3:s.heap.IsListIter i3 l3 k) (hl1:s.heap.IsList l1 xs) (hl2:s.heap.IsList l2 ys) (hl3:s.heap.IsList l3 zs) (hx:xs[k]?=some x) (hy:ys[k]?=some y) (hv:zs[k]?=some v) (hQ:∀h',hM h' z TI TO (hH s.heap.objs.size)->eg h' TO x y v->h'.IsListIter i1 l1 (k+1)->h'.IsListIter i2 l2 (k+1)->h'.IsListIter i3 l3 (k+1)->eg h' s.heap.objs.size x y v->
   (∀c o,c∉[z,TO,i1,i2,i3]->s.heap.get? c=some o->h'.get? c=some o)->Q (some (.ref s.heap.objs.size)) {s with heap:=h'}):aq (aw prog w) A (f8 (.ref z)) Q E s:=by
 have hT:s.TypeIs (.ref z) "zip" :=⟨_,hz,rfl⟩
 unfold f8
 exact ak (DA (uM (name:=ag "__next__") hT yj
  (uN yj hT QA
   (Of D hz hTI hTO h1 h2 h3 hl1 hl2 hl3 hx hy hv λh' a1 a2 a3 a4 a5 a6 a7=>aS (hQ h' a1 a2 a3 a4 a5 a6 a7)) (QB _))))
theorem NK {z TI TO i1 i2 i3 l1 l2 l3:Addr} {k:Nat} {xs:Array Value} {a b c:Value} {Q:Option Value->ae->Prop} (hh:A.handled=none) (D:oZ z TI TO i1 i2 i3 l1 l2 l3) (hz:hM s.heap z TI TO .none) (hTI:eg s.heap TI (.ref i1) (.ref i2) (.ref i3)) (hTO:eg s.heap TO a b c) (h1:s.heap.IsListIter i1 l1 k) (hl1:s.heap.IsList l1 xs) (hx:xs[k]?=none) (hQ:∀h',(∀c o,c∉[z,TO,i1,i2,i3]->s.heap.get? c=some o->h'.get? c=some o)->Q none {s with heap:=h'}):
  aq (aw prog w) A (f8 (.ref z)) Q E s:=by
 have hT:s.TypeIs (.ref z) "zip" :=⟨_,hz,rfl⟩
 unfold f8
 refine ak (DA (uM (name:=ag "__next__") hT yj
  (uN yj hT QA (Ow hh D hz hTI hTO h1 hl1 hx λh' e hk he=>?_) (QB _))))
 obtain ⟨o,ho,hc⟩:=he;refine ak (QC (T:= "StopIteration") (b:=true) ⟨o,ho,hc⟩ QD ?_);exact aS (hQ _ hk)
structure KG (h:Heap) (z TI TO i1 i2 i3 l1 l2 l3:Addr) (us vs ws:List Value) (i:Nat):Prop where
 z:hM h z TI TO .none
 TI:eg h TI (.ref i1) (.ref i2) (.ref i3)
 TO:∃a b c,eg h TO a b c
 i1:h.IsListIter i1 l1 i
 i2:h.IsListIter i2 l2 i
 i3:h.IsListIter i3 l3 i
 l1:iL h l1 us.toArray
 l2:iL h l2 vs.toArray
 l3:iL h l3 ws.toArray
end
section
variable {X:Cx} {A:aO} {s:ae} {W V:List Addr} {gm:Nat}
set_option maxHeartbeats 1000000 in
theorem Mc (hh:A.handled=none) {z TI TO i1 i2 i3 l1 l2 l3:Addr} {ts:List ab} {tn:Nat} {tp:Pos} {xs ys zs:List PV} {us vs ws:List Value} (D:oZ z TI TO i1 i2 i3 l1 l2 l3) (f1:X.h0.get? z=none) (f2:X.h0.get? TO=none) (f3:X.h0.get? i1=none) (f4:X.h0.get? i2=none) (f5:X.h0.get? i3=none) (hx:us.length=xs.length) (hy:vs.length=ys.length) (hw:ws.length=zs.length) (hxy:ys.length=xs.length) (hxz:zs.length=xs.length):ix X A (.Tuple ts tn tp) (.ref z) (gn xs ys zs) (xs++(ys++zs)) (us++(vs++ws)) (λi s=>KG s.heap z TI TO i1 i2 i3 l1 l2 l3 us vs ws i) [z,TI,TO,i1,i2,i3,l1,l2,l3] [z,TO,i1,i2,i3] gm:=by
 have hN:=D.nd;simp only[pN,av,not_or,bz,not_false_eq_true,and_true,uQ] at hN;obtain ⟨⟨zTI,zTO,z1,z2,z3⟩,⟨TITO,TI1,TI2,TI3⟩,⟨TO1,TO2,TO3⟩,⟨n12,n13⟩,n23⟩:=hN;exact
 {sub:=λb hb=>by
   simp only[av,bz,or_false] at hb ⊢;rcases hb with h|h|h|h|h<;>simp[h]
  live:=λi s st b hb=>by
   simp only[av,bz,or_false] at hb;rcases hb with rfl|rfl|rfl|rfl|rfl|rfl|rfl|rfl|rfl
   ·exact⟨_,st.z,rfl⟩
   ·exact⟨_,st.TI,rfl⟩
   ·obtain ⟨a,b,c,e⟩:=st.TO;exact⟨_,e,rfl⟩
   ·obtain ⟨o,e,hc,_⟩:=st.i1;exact⟨o,e,eM hc⟩
   ·obtain ⟨o,e,hc,_⟩:=st.i2;exact⟨o,e,eM hc⟩
   ·obtain ⟨o,e,hc,_⟩:=st.i3;exact⟨o,e,eM hc⟩
   ·obtain ⟨n,e⟩:=st.l1;exact⟨_,e,rfl⟩
   ·obtain ⟨n,e⟩:=st.l2;exact⟨_,e,rfl⟩
   ·obtain ⟨n,e⟩:=st.l3;exact⟨_,e,rfl⟩
  frame:=λi s s' st ζ k ζ=>
   ⟨k z (by simp) _ st.z,k TI (by simp) _ st.TI,let ⟨a,b,c,e⟩:=st.TO;⟨a,b,c,k TO (by simp) _ e⟩,let ⟨o,e,r⟩:=st.i1;⟨o,k i1 (by simp) _ e,r⟩,
    let ⟨o,e,r⟩:=st.i2;⟨o,k i2 (by simp) _ e,r⟩,let ⟨o,e,r⟩:=st.i3;⟨o,k i3 (by simp) _ e,r⟩,let ⟨n,e⟩:=st.l1;⟨n,k l1 (by simp) _ e⟩,let ⟨n,e⟩:=st.l2;⟨n,k l2 (by simp) _ e⟩,let ⟨n,e⟩:=st.l3;⟨n,k l3 (by simp) _ e⟩⟩
  item:=λi d W s hd st S w r hwW=>by
   obtain ⟨a,b,c,ha,hb,hc,rfl⟩:=CI hd;obtain ⟨r1,r23⟩:=sD hx r;obtain ⟨r2,r3⟩:=sD hy r23;obtain ⟨u,hu,ru⟩:=r1.get ha;obtain ⟨v,hv,rv⟩:=r2.get hb;obtain ⟨q,hq,rq⟩:=r3.get hc;obtain ⟨a0,b0,c0,hTO⟩:=st.TO;obtain ⟨o1,e1,cc1,d1⟩:=id st.i1;obtain ⟨o2,e2,cc2,d2⟩:=id st.i2;obtain ⟨o3,e3,cc3,d3⟩:=id st.i3;refine Pe D st.z st.TI hTO st.i1 st.i2 st.i3 st.l1.isList st.l2.isList st.l3.isList (x:=u) (y:=v) (v:=q) (by simpa using hu) (by simpa using hv) (by simpa using hq)
    λh' k1 k2 k3 k4 k5 k6 k7=>⟨_,rfl,Qv k1 λh'' zz hs=>?_⟩
   have ne:∀{b o},s.heap.get? b=some o->s.heap.objs.size≠b:=λe q=>by rw[<- q,eJ] at e;cases e
   have keep:∀c o,c∉[z,TO,i1,i2,i3]->s.heap.get? c=some o->h''.get? c=some o:=λc o hc e=>(hs.2 c (λq=>hc (by simp[q]))).trans (k7 c o hc e);have rep:∀{d v},ao W s.heap d v->ao W h'' d v:=λ{d v} r=>ao.kb (V:=[z,TO,i1,i2,i3]) (λb o hb ζ q=>keep b o hb q) (λb hb=>.inl (hwW b hb)) (λb hb=>.inl hb) d v r;refine⟨?_,?_,S.extZ (Z:=[z,TO,i1,i2,i3]) (λb hb=>?_) (λb hb o q=>?_) keep,⟨λb o hb ζ q=>keep b o hb q,λb o hb q=>⟨o,keep b o hb q⟩,bf _,λζ ζ=>rfl⟩⟩
   ·simp only[ao];refine⟨s.heap.objs.size,[u,v,q],rfl,w.new,⟨_,(hs.2 _ (ne st.z)).trans k6,rfl,_,rfl⟩,by show 3<=sizeLine;decide,u,[v,q],rfl,rep ru,v,[q],rfl,rep rv,q,[],rfl,rep rq,rfl⟩
   ·have q1:∀{c o},c≠z->h'.get? c=some o->h''.get? c=some o:=λhc e=>(hs.2 _ hc).trans e
    refine⟨zz,keep _ _ (by simp[cC zTI,TITO,TI1,TI2,TI3]) st.TI,⟨_,_,_,q1 (cC zTO) k2⟩,let ⟨o,e,r⟩:=k3;⟨o,q1 (cC z1) e,r⟩,let ⟨o,e,r⟩:=k4;⟨o,q1 (cC z2) e,r⟩,let ⟨o,e,r⟩:=k5;⟨o,q1 (cC z3) e,r⟩,
     let ⟨n,e⟩:=st.l1;⟨n,keep _ _ D.l1 e⟩,let ⟨n,e⟩:=st.l2;⟨n,keep _ _ D.l2 e⟩,let ⟨n,e⟩:=st.l3;⟨n,keep _ _ D.l3 e⟩⟩
   ·simp only[av,bz,or_false] at hb;rcases hb with rfl|rfl|rfl|rfl|rfl<;>assumption
   ·simp only[av,bz,or_false] at hb;rcases hb with rfl|rfl|rfl|rfl|rfl
    ·have:=st.z;rw[this] at q;cases q;exact dJ rfl (by decide)
    ·rw[hTO] at q;cases q;exact dJ rfl (by decide)
    ·rw[e1] at q;cases q;exact dJ cc1 (by decide)
    ·rw[e2] at q;cases q;exact dJ cc2 (by decide)
    ·rw[e3] at q;cases q;exact dJ cc3 (by decide)
  done:=λs st S=>by
   rw[y1 xs ys zs hxy hxz] at st;obtain ⟨a0,b0,c0,hTO⟩:=st.TO;obtain ⟨o1,e1,cc1,d1⟩:=id st.i1;obtain ⟨o2,e2,cc2,d2⟩:=id st.i2;obtain ⟨o3,e3,cc3,d3⟩:=id st.i3;refine NK hh D st.z st.TI hTO st.i1 st.l1.isList (by simp;omega) λh' keep=>?_;refine⟨rfl,S.extZ (Z:=[z,TO,i1,i2,i3]) (λb hb=>?_) (λb hb o q=>?_) keep,⟨λb o hb ζ q=>keep b o hb q,λb o hb q=>⟨o,keep b o hb q⟩,bf _,λζ ζ=>rfl⟩⟩
   ·simp only[av,bz,or_false] at hb;rcases hb with rfl|rfl|rfl|rfl|rfl<;>assumption
   ·simp only[av,bz,or_false] at hb;rcases hb with rfl|rfl|rfl|rfl|rfl
    ·have:=st.z;rw[this] at q;cases q;exact dJ rfl (by decide)
    ·rw[hTO] at q;cases q;exact dJ rfl (by decide)
    ·rw[e1] at q;cases q;exact dJ cc1 (by decide)
    ·rw[e2] at q;cases q;exact dJ cc2 (by decide)
    ·rw[e3] at q;cases q;exact dJ cc3 (by decide)
  again:=λi s Q st q=>yg st.z q}
end
theorem NW (a b c:Value):checkTypeCall "zip" ⟨[a,b,c],[]⟩=pure ():=by kernel_rfl
theorem Gb (a b c:Value):checkBuiltinCall "zip.__new__" ⟨[.type "zip",a,b,c],[]⟩=pure ():=by kernel_rfl
theorem K9 (a b c d:Value):argsOk "object.__init__" ⟨[a,b,c,d],[]⟩:=by unfold argsOk;rw[signature?_of (id:= "object.__init__") (n:=['_','_','t','i','n','i','_','_']) (o:=['t','c','e','j','b','o']) (by kernel_rfl) SN];kernel_rfl
noncomputable abbrev tO (h:Heap) (l1:Addr):Heap:=h.push {cls:=.type "list_iterator",data:=.fields #[.ref l1,.int 0 0]}
noncomputable abbrev tq (h:Heap) (l1 l2:Addr):Heap:=(tO h l1).push {cls:=.type "list_iterator",data:=.fields #[.ref l2,.int 0 0]}
noncomputable abbrev sO (h:Heap) (l1 l2 l3:Addr):Heap:=(tq h l1 l2).push {cls:=.type "list_iterator",data:=.fields #[.ref l3,.int 0 0]}
noncomputable abbrev ux (h:Heap) (l1 l2 l3:Addr):Heap:=(sO h l1 l2 l3).push {cls:=.type "tuple",data:=.seq #[.ref h.objs.size,.ref (tO h l1).objs.size,.ref (tq h l1 l2).objs.size]}
noncomputable abbrev sE (h:Heap) (l1 l2 l3:Addr):Heap:=(ux h l1 l2 l3).push {cls:=.type "tuple",data:=.seq #[.none,.none,.none]}
noncomputable abbrev nj (h:Heap) (l1 l2 l3:Addr):Heap:=(sE h l1 l2 l3).push {cls:=.type "zip",data:=.fields #[.none,.bool false,.bool false,.ref (sO h l1 l2 l3).objs.size,.ref (ux h l1 l2 l3).objs.size]}
set_option maxHeartbeats 4000000 in
theorem O9 (l1 l2 l3:Addr) (xs ys zs:Array Value):Meets (uI.«zip.__new__» ⟨[.type "zip",.ref l1,.ref l2,.ref l3],[]⟩) (λζ R s=>s.heap.IsList l1 xs/\s.heap.IsList l2 ys/\s.heap.IsList l3 zs/\
   R (.ok (.ret (.ref (sE s.heap l1 l2 l3).objs.size))) {s with heap:=nj s.heap l1 l2 l3}):=
 .of_wp λprog w A R s h=>by
  obtain ⟨hp,g,d,tk,os⟩:=s;obtain ⟨hl1,hl2,hl3,h⟩:=h;have hsub:=sub_zip;have hL1:DB (yf ⟨hp,g,d,tk,os⟩) l1 xs:=hl1;have hL2:DB (yf ⟨hp.push {cls:=.type "list_iterator",data:=.fields #[.ref l1,.int 0 0]},g,d,tk,os⟩) l2 ys:=DC hl2 _;have hL3:DB (yf ⟨(hp.push {cls:=.type "list_iterator",data:=.fields #[.ref l1,.int 0 0]}).push {cls:=.type "list_iterator",data:=.fields #[.ref l2,.int 0 0]},g,d,tk,os⟩) l3 zs:=DC (DC hl3 _) _
  wp_walk using rQ hL1,rQ hL2,rQ hL3
  exact⟨_,rfl,h⟩
section
variable {prog:Program} {w:iC} {A:aO} {E:Value->ae->Prop} {s:ae}
theorem ND {l1 l2 l3:Addr} {xs ys zs:Array Value} {Q:Value->ae->Prop} (hl1:s.heap.IsList l1 xs) (hl2:s.heap.IsList l2 ys) (hl3:s.heap.IsList l3 zs) (h:∀h',hM h' (s.heap.objs.size+5) (s.heap.objs.size+3) (s.heap.objs.size+4) .none->eg h' (s.heap.objs.size+3) (.ref s.heap.objs.size) (.ref (s.heap.objs.size+1)) (.ref (s.heap.objs.size+2))->
   eg h' (s.heap.objs.size+4) .none .none .none->h'.IsListIter s.heap.objs.size l1 0->h'.IsListIter (s.heap.objs.size+1) l2 0->h'.IsListIter (s.heap.objs.size+2) l3 0->
   (∀c o,s.heap.get? c=some o->h'.get? c=some o)->Q (.ref (s.heap.objs.size+5)) {s with heap:=h'}):aq (aw prog w) A (call (.type "zip") [.ref l1,.ref l2,.ref l3]) Q E s:=by
 refine Qt F.called_zip (by decide) (NW _ _ _) (Gb _ _ _) (λobj=>K9 obj _ _ _) F.entry_zip_new
  (O9 l1 l2 l3 xs ys zs) ⟨hl1,hl2,hl3,?_⟩
 have q1:(tO s.heap l1).objs.size=s.heap.objs.size+1:=iF ..;have q2:(tq s.heap l1 l2).objs.size=s.heap.objs.size+2:=by rw[iF,q1]
 have q3:(sO s.heap l1 l2 l3).objs.size=s.heap.objs.size+3:=by rw[iF,q2]
 have q4:(ux s.heap l1 l2 l3).objs.size=s.heap.objs.size+4:=by rw[iF,q3]
 have q5:(sE s.heap l1 l2 l3).objs.size=s.heap.objs.size+5:=by rw[iF,q4]
 have g6:(nj s.heap l1 l2 l3).get? (sE s.heap l1 l2 l3).objs.size=some _:=dH _ rfl;have g5:(nj s.heap l1 l2 l3).get? (ux s.heap l1 l2 l3).objs.size=some _:=cG _ (dH _ rfl);have g4:(nj s.heap l1 l2 l3).get? (sO s.heap l1 l2 l3).objs.size=some _:=cG _ (cG _ (dH _ rfl));have g3:(nj s.heap l1 l2 l3).get? (tq s.heap l1 l2).objs.size=some _:=cG _ (cG _ (cG _ (dH _ rfl)));have g2:(nj s.heap l1 l2 l3).get? (tO s.heap l1).objs.size=some _:=cG _ (cG _ (cG _ (cG _ (dH _ rfl))));have g1:(nj s.heap l1 l2 l3).get? s.heap.objs.size=some _:=cG _ (cG _ (cG _ (cG _ (cG _ (dH _ rfl)))));show _/\_;rw[q3,q4,q5] at g6;rw[q1,q2,q3] at g4;rw[q4] at g5;rw[q1] at g2;rw[q2] at g3;rw[q5]
 exact⟨⟨_,g6,rfl⟩,h _ g6 g4 g5 ⟨_,g1,rfl,rfl⟩ ⟨_,g2,rfl,rfl⟩ ⟨_,g3,rfl,rfl⟩ λc o x=>
  cG _ (cG _ (cG _ (cG _ (cG _ (cG _ x)))))⟩
end
structure mv (X:Cx) (A:aO) (it:Value) (xs:List PV) (St:Nat->List Addr->List Addr->ae->Prop) (gm:Nat):Prop where
 sub:∀i fp wr s,St i fp wr s->∀b∈wr,b∈fp
 live:∀i fp wr s,St i fp wr s->∀b∈fp,∃o,s.heap.get? b=some o/\cK o=false
 nseq:∀i fp wr s,St i fp wr s->∀b∈wr,∀o,s.heap.get? b=some o->∀its n,o.data≠.seq its n
 frame:∀i fp wr (s s':ae),St i fp wr s->s.gens.size<=s'.gens.size->(∀b∈fp,∀o,s.heap.get? b=some o->s'.heap.get? b=some o)->(∀g,g<s.gens.size->s'.gens[g]?=s.gens[g]?)->St i fp wr s'
 item:∀i d fp wr W s,xs[i]?=some d->St i fp wr s->ai X s->cy W s.heap->(∀b∈fp,b∉W)->
  aq (aw X.prog X.w) A (f8 it) (λr s'=>∃v fp' wr',r=some v/\ao W s'.heap d v/\St (i+1) fp' wr' s'/\ai X s'/\bG wr gm s s'/\(∀b∈fp',b∈fp\/s.heap.get? b=none)/\∀b∈wr',b∈wr\/s.heap.get? b=none) (λζ ζ=>False) s
 done:∀fp wr s,St xs.length fp wr s->ai X s->aq (aw X.prog X.w) A (f8 it) (λr s'=>r=none/\ai X s'/\bG wr gm s s') (λζ ζ=>False) s
 plain:∀i fp wr s tgt v (Q:Unit->ae->Prop),St i fp wr s->Q () s->aq (aw X.prog X.w) A (ly tgt it v) Q (λζ ζ=>False) s
structure bq (X:Cx) (O:Orc) (k:Nat):Prop where
 bi:∀f v,fW f=some v->X.mg f=none/\X.mb f=some v
 fn:∀f as d,O.fn f as=some d->fW f=none/\cw f=true/\∃fa,X.mg f=some (.ref fa)/\(∃o fd,X.h0.get? fa=some o/\o.cls=.type "function" /\o.data=.func fd)/\
  ∀A s W vs,aK A k->ai X s->cy W s.heap->ax W s.heap as vs->Ev X A s (call (.ref fa) vs) (λv s'=>ao W s'.heap d v)
 dget:∀x as d,O.dget x as=some d->cw x=true/\∃da,X.mg x=some (.ref da)/\
  (∀A s pl (Q:Value×List Value->ae->Prop) E,ai X s->Q (.builtin "dict.get",[.ref da]) s->aq (aw X.prog X.w) A (mI (.ref da) "get" pl) Q E s)/\
  ∀A s W vs,aK A 2->ai X s->cy W s.heap->ax W s.heap as vs->Ev X A s (call (.builtin "dict.get") (.ref da::vs)) (λv s'=>ao W s'.heap d v)
 gen:∀f as xs,O.gen f as=some xs->fW f=none/\cw f=true/\∃fa,X.mg f=some (.ref fa)/\(∃o fd,X.h0.get? fa=some o/\o.cls=.type "function" /\o.data=.func fd)/\
  ∀A s W vs,aK A k->ai X s->cy W s.heap->ax W s.heap as vs->Ev X A s (call (.ref fa) vs) (λx s1=>Ev X A s1 (f9 x) (λit s2=>
   ∃St fp wr,mv X A it xs St s.gens.size/\St 0 fp wr s2/\∀b∈fp,s.heap.get? b=none))
 gc:∀x d,O.gc x=some d->cw x=true/\∃v,X.mg x=some v/\∀W h,ao W h d v
section
variable {X:Cx} {A:aO} {s:ae} {env:Env} {sc:Scope} {σ:Sg} {own:List (Str×Addr)} {P:List Addr} {O:Orc} {k:Nat}
theorem am.win (V:am X sc env σ own P s.heap):cy (P++ay own) s.heap:=λb hb=>by
 rcases bo.mp hb with q|q
 ·exact V.pin b q
 ·obtain ⟨⟨x,a⟩,hm,rfl⟩:=dG.mp q;obtain ⟨_,its,n,e⟩:=V.ownF x a hm;exact az _ e rfl
noncomputable def Gc (X:Cx) (A:aO) (sc:Scope) (env:Env) (σ:Sg) (own:List (Str×Addr)) (P:List Addr) (W:List Addr) (e:ab) (d:PV):Prop:=
 ∀s,ai X s->am X sc env σ own P s.heap->Ev X A s (aG e env) (λv s'=>ao W s'.heap d v)
theorem l8 {α β:Type} {f:α->Option β} {x:α} {xs:List α} {ys:List β} (h:aY f (x::xs)=some ys):∃y r,f x=some y/\aY f xs=some r/\ys=y::r:=by
 revert h;refine (?_:(match f x with|none=>none|some y=>(match aY f xs with|none=>none|some r=>some (y::r)))=some ys->_);refine aX (f x) λo=>aX (aY f xs) λp=>?_
 induction o using bW with
 |none=>exact ac
 |some y=>induction p using bW with
  |none=>exact ac
  |some r=>exact λh=>gF y r rfl rfl (aj h).symm
noncomputable def dT:ab->Bool
 |.Starred .. =>false
 |_=>true
theorem qj {e:ab} {r:List ab} (h:dT e=true):bY (e::r) env=(false,aG e env)::bY r env:=by
 induction e using bE<;>first|rfl|exact aZ h
theorem qq {pos:Pos} {t:bw Value} {r}:bZ pos ((false,t)::r)=(false,t)::bZ pos r:=rfl
theorem vJ {W:List Addr} {pos:Pos} {f:ab->Option PV}:∀(es:List ab) (ds:List PV),(∀e∈es,∀d,f e=some d->dT e=true/\Gc X A sc env σ own P W e d)->aY f es=some ds->∀s,ai X s->am X sc env σ own P s.heap->Ev X A s (ez (bZ pos (bY es env))) (λvs s'=>ax W s'.heap ds vs):=by
 intro es
 induction es with
 |nil=>intro ds _ h s S V;have h_:=aj h;clear h;subst h_;exact Ev.pure S rfl
 |cons e r ih=>
  intro ds hf h s S V;refine bJ (l8 h) λd ds' hd hr e4_=>?_;subst e4_;refine be (hf e (.head _) d hd) λhn he=>?_;refine aa (qj hn) (aa qq ?_)
  show Ev X A s (do
   let v <- aG e env
   let here <- (pure [v]:bw (List Value))
   return here++(<- holding here (ez (bZ pos (bY r env))))) _
  refine Ev.bind (he s S V) λv s1 S1 k1 rv=>?_;refine Ev.bind (P:=λl s'=>l=[v]/\s'=s1) (Ev.pure S1 ⟨rfl,rfl⟩) λl s2 S2 k2 h_0=>be h_0 λe1 e2=>?_;subst e1 e2;refine Ev.bind (Ev.holding (ih ds' (λx hx=>hf x (.tail _ hx)) hr s2 S2 (V.keep k1.kb))) λvs s3 S3 k3 rvs=>?_;exact Ev.pure S3 ⟨v,vs,rfl,rv.keep k3.kb,rvs⟩
theorem vL {pos:Pos}:∀(es:List ab),(∀e∈es,dT e=true)->(bZ pos (bY es env)).any (·.1)=false
 |[],_=>rfl
 |e::r,h=>by rewrite[qj (h e (.head _))];refine aa qq ?_;simp only[pO,DD];exact vL r λx hx=>h x (.tail _ hx)
theorem sF {f:Value} {es:List ab} {pos:Pos} {Q:List Value->ae->Prop} (hn:∀e∈es,dT e=true) (h:Ev X A s (ez (bZ pos (bY es env))) Q):Ev X A s (DE f true (bZ pos (bY es env)) []) (λa s'=>a.kw=[]/\Q a.pos s'):=by
 induction es using aP with
 |nil=>refine (?_:Ev X A s (DE f true [] []) _);unfold DE;have h:Ev X A s (ez []) Q:=h;refine (?_:Ev X A s (ez []>>=_) _);exact ak (aA h (λvs s' h'=>fi (ak (aS (ak (aS (aS ⟨h'.1,h'.2.1,rfl,h'.2.2⟩)))))) λζ ζ x=>x)
 |cons e r=>rw[qj (hn e (.head _)),qq] at h ⊢;exact evalArgs_plain (aA h (λvs s' h'=>⟨h'.1,h'.2.1,rfl,h'.2.2⟩) λζ ζ x=>x)
theorem FT {t:bw Value} {Q:Value->ae->Prop} (h:Ev X A s t Q):Ev X A s (t>>=λr=>holding [r] point>>=λζ=>pure r) Q:=
 ak (aA h (λζ ζ hr=>ak (fi (x3 (aS hr)))) λζ ζ x=>x)
theorem vQ {f:Value} {first:List Value} {es:List ab} {pos pos':Pos} {Q:List Value->ae->Prop} {Q':Value->ae->Prop} (hf:∀a,f≠.ref a) (hn:∀e∈es,dT e=true) (h:Ev X A s (ez (bZ pos (bY es env))) Q) (hc:∀vs s',ai X s'->af [] s s'->Q vs s'->Ev X A s' (call f (first++vs)) Q'):Ev X A s (iH pos' f first (bZ pos (bY es env)) []) Q':=by
 unfold iH;refine Ev.bind (Ev.holding (sF hn h)) λa s1 S1 k1 h_1=>be h_1 λha hq=>?_;refine Ev.bind (P:=λζ s'=>s'=s1) (Ev.at S1 rfl) λζ s2 S2 ζ e=>?_;subst e;have hany:=vL (env:=env) (pos:=pos) es hn;have hk:keeperOf f=pure QE:=by
  induction f using nU with
  |ref a=>exact absurd rfl (hf a)
  |_=>rfl
 refine aa hk ?_;refine aa hany ?_;refine ak (aS ?_);have:=hc a.pos s2 S2 k1 hq;refine aa ha ?_;exact FT this
theorem Cj {fa:Addr} {o:ek} {fd:gz} {first:List Value} {es:List ab} {pos pos':Pos} {Q:List Value->ae->Prop} {Q':Value->ae->Prop} (ho:X.h0.get? fa=some o) (hcl:o.cls=.type "function") (hd:o.data=.func fd) (hn:∀e∈es,dT e=true) (h:Ev X A s (ez (bZ pos (bY es env))) Q) (hc:∀vs s',ai X s'->af [] s s'->Q vs s'->Ev X A s' (call (.ref fa) (first++vs)) Q'):Ev X A s (iH pos' (.ref fa) first (bZ pos (bY es env)) []) Q':=by refine QG (o:=o) (fd:=fd) (aA (sF hn h) (λa s1 h1=>?_) λζ ζ f=>f);refine gq h1 λS1 k1 ha hq=>?_;clear h1;refine⟨⟨S1.old.get_of_cls ho (by refine aa hcl ?_;nofun),hd⟩,?_⟩;refine aa ha ?_;exact aA (hc a.pos s1 S1 k1 hq) (λζ ζ h_2=>aI h_2 λq1 q2 q3=>⟨q1,k1.trans q2,q3⟩) λζ ζ f=>f
theorem oV {x:Str} {pos:Pos} {v:Value} (S:ai X s) (V:am X sc env σ own P s.heap) (hg:bS sc x=true) (hn:cw x=true) (h:X.mg x=some v\/(X.mg x=none/\X.mb x=some v)):Ev X A s (aG (.Name x pos) env) (λu s'=>u=v/\s'=s):=by
 refine Name_function_global V.kind (V.gl x hg) ?_ (by
  unfold cw at hn;simp only[bF,bne_iff_ne,ne_eq] at hn
  exact decide_eq_false hn.1)
 rcases h with h|⟨h1,h2⟩
 ·exact loadGlobal_global (V.glob▸S.g) h ⟨S,af.refl,rfl,rfl⟩
 ·exact loadGlobal_builtin (V.glob▸S.g) h1 (V.bi▸S.b) h2 ⟨S,af.refl,rfl,rfl⟩
end
section
variable {X:Cx} {A:aO} {s:ae} {env:Env} {sc:Scope} {σ:Sg} {own:List (Str×Addr)} {P:List Addr} {O:Orc} {k:Nat} {W V:List Addr}
set_option tactic.hygienic true in
theorem EH {f:Str} {as:List PV} {vs:List Value} {d:PV} (S:ai X s) (R:aK A 2) (w:cy W s.heap) (r:ax V s.heap as vs) (h:dr O f as=some d):(∃bv,fW f=some bv/\Ev X A s (call bv vs) (λv s'=>ao W s'.heap d v))\/O.fn f as=some d:=by
 have R1:aK A 1:=R.mono (mD _);have e0:sizeLine=16777216:=rfl
 induction as using aP with
 |nil=>exact .inr h
 |cons a0 as=>
  induction a0 using PV.casesOn with
  |list xs=>
   induction as using aP with
   |cons _ _=>exact .inr h
   |nil=>
    delta dr at h;dsimp only at h;refine bJ r λv u e2_ r1 e4_=>?_;clear r;subst e2_;subst e4_;refine gL r1 λl ws e2_ ζ hl hn rr=>?_;clear r1;subst e2_
    split at h
    ·rename_i q;have q:=bh q;subst q;refine ah (gy.mp h) λns h1 e2_=>?_;subst e2_;have e:=zT h1;subst e;exact .inl ⟨_,rfl,(Ft S R1 hl.isList (wu rr)).mono λv s' ζ ζ h=>h⟩
    split at h
    ·rename_i q;have q:=bh q;subst q;have h:=aj h;subst h;refine .inl ⟨_,rfl,call_len_list hl.isList (by simp;exact lj (ej.mpr (by assumption)) (by decide)) ⟨S.tok,af.toks,⟨s.toks+1,?_⟩⟩⟩;simp[rr.length]
    split at h
    ·rename_i q;have q:=bh q;subst q
     split at h
     ·rename_i y l' h1;have h:=aj h;subst h;have e:=zT h1;subst e;exact .inl ⟨_,rfl,(EC S R1 hl.isList (wu (l:=y::l') rr)).mono λv s' ζ ζ h=>h⟩
     ·exact ac h
    ·exact .inr h
  |str x=>
   induction as using aP with
   |cons _ _=>exact .inr h
   |nil=>
    delta dr at h;dsimp only at h;refine bJ r λv u e2_ r1 e4_=>?_;clear r;subst e2_;subst e4_;obtain ⟨⟨t,rfl⟩,hx⟩:=r1
    split at h
    ·rename_i q;have q:=bh q;subst q;have h:=aj h;subst h;exact .inl ⟨_,rfl,SBL.len (lj (ej.mpr (by assumption)) (by decide)) ⟨S.tok,af.toks,⟨_,rfl⟩⟩⟩
    ·exact .inr h
  |bool b=>
   induction as using aP with
   |cons _ _=>exact .inr h
   |nil=>
    delta dr at h;dsimp only at h;refine bJ r λv u e2_ r1 e4_=>?_;clear r;subst e2_;subst e4_;have r1:v=.bool b:=r1;subst r1
    split at h
    ·rename_i q;have q:=bh q;subst q;have h:=aj h;subst h;exact .inl ⟨_,rfl,call_int_bool ⟨S.tok,af.toks,⟨_,rfl⟩⟩⟩
    ·exact .inr h
  |int i=>
   induction as using aP with
   |nil=>
    delta dr at h;dsimp only at h;refine bJ r λv u e2_ r1 e4_=>?_;clear r;subst e2_;subst e4_;refine aE r1 λt e1_=>?_;clear r1;subst e1_
    split at h
    ·rename_i q;have q:=bh q;subst q
     split at h
     ·rename_i hl;have h:=aj h;subst h;exact .inl ⟨_,rfl,P.hex_of_int ⟨S.tok,af.toks,⟨_,rfl⟩,eH hl⟩ (eH hl)⟩
     ·exact ac h
    ·exact .inr h
   |cons a1 as=>exact .inr h
  |_=>exact .inr h
theorem ry {f:Str} {x:Str} (hb:fW f=none) (hx:(fW x).isSome=true):(f==x)=false:=by
 cases q:f==x with
 |false=>rfl
 |true=>have:=bh q;subst this;replace hx:=hb▸hx;exact aZ hx
theorem Lk {f:Str} {as:List PV} {d:PV} (hb:fW f=none) (h:dr O f as=some d):O.fn f as=some d:=by
 have n1:=ry (x:= "sum") hb (by decide+kernel);have n2:=ry (x:= "len") hb (by decide+kernel);have n3:=ry (x:= "max") hb (by decide+kernel);have n5:=ry (x:= "int") hb (by decide+kernel);have n6:=ry (x:= "hex") hb (by decide+kernel)
 induction as using aP with
 |nil=>exact h
 |cons a0 as=>
  induction a0 using PV.casesOn with
  |list xs=>
   induction as using aP with
   |cons _ _=>exact h
   |nil=>delta dr at h;dsimp only at h;replace h:=n1▸h;replace h:=n2▸h;replace h:=n3▸h;exact h
  |str x=>
   induction as using aP with
   |cons _ _=>exact h
   |nil=>delta dr at h;dsimp only at h;replace h:=n2▸h;exact h
  |bool b=>
   induction as using aP with
   |cons _ _=>exact h
   |nil=>delta dr at h;dsimp only at h;replace h:=n5▸h;exact h
  |int i=>
   induction as using aP with
   |nil=>delta dr at h;dsimp only at h;replace h:=n6▸h;exact h
   |cons a1 as=>exact h
  |_=>exact h
theorem zD {f:Str} {fp pos:Pos} {es:List ab} {as:List PV} {d:PV} (OK:bq X O k) (S:ai X s) (V':am X sc env σ own P s.heap) (R:aK A (k+2)) (hg:bS sc f=true) (w:cy W s.heap) (hn:∀e∈es,dT e=true) (hO:V=W\/d.flat=true) (he:∀s',ai X s'->af [] s s'->Ev X A s' (ez (bZ pos (bY es env))) (λvs s'=>ax V s'.heap as vs)) (wV:cy V s.heap) (hbn:∀f v,fW f=some v->cw f=true) (h:dr O f as=some d):Ev X A s (aG (.Call (.Name f fp) es [] pos) env) (λv s'=>ao W s'.heap d v):=by
 refine (?_:Ev X A s (aG (.Name f fp) env>>=λg=>iH pos g [] (bZ pos (bY es env)) []) _);have fin:∀{g:Value},(∀a,g≠.ref a)->fW f=some g->(∀vs s',ai X s'->af [] s s'->ax V s'.heap as vs->Ev X A s' (call g vs) (λv s'=>ao W s'.heap d v))->
   Ev X A s (aG (.Name f fp) env>>=λg=>iH pos g [] (bZ pos (bY es env)) []) (λv s'=>ao W s'.heap d v):=by
  intro g hg' hb hc;refine Ev.bind (oV S V' hg (hbn f g hb) (.inr (OK.bi f g hb))) λg' s1 S1 k1 h_0=>be h_0 λe1 e2=>?_;subst e1 e2;exact vQ hg' hn (he s1 S1 k1) λvs s' S' k' r'=>hc vs s' S' (k1.trans k') r'
 cases hb:fW f with
 |some g=>
  have hg':=B5 hb;refine fin hg' hb λvs s' S' k' r'=>?_;rcases EH (W:=W) S' (R.mono (dv _ _)) (w.step k') r' h with ⟨bv,h1,h2⟩|h2
  ·replace h1:=hb▸h1;have h_:=aj h1;clear h1;subst h_;exact h2
  ·have:=(OK.fn f as d h2).1;replace this:=hb▸this;cases this
 |none=>
  have h2:O.fn f as=some d:=Lk hb h;obtain ⟨_,hnm,fa,hm,⟨o,fd,ho,hcl,hd⟩,hc⟩:=OK.fn f as d h2;refine Ev.bind (oV S V' hg hnm (.inl hm)) λg' s1 S1 k1 h_1=>be h_1 λe1 e2=>?_;subst e1 e2;refine Cj ho hcl hd hn (he s1 S1 k1) λvs s' S' k' r'=>?_;refine (hc A s' V vs (R.mono (fI _ _)) S' (wV.step (k1.trans k')) r').mono λv s2 ζ k2 rv=>?_;rcases hO with hO|hO
  ·exact hO▸rv
  ·exact rv.flat hO
end
noncomputable def lc (X:Cx) (A:aO) (tgt:ab) (sc:Scope) (env:Env) (own:List (Str×Addr)) (W:List Addr) (s:ae) (xs:List PV) (it:Value) (s2:ae):Prop:=
 ∃cs cvs St fp wr,ix X A tgt it xs cs cvs St fp wr s.gens.size/\St 0 s2/\ax (wr++W) s2.heap cs cvs/\(∀b∈wr,s.heap.get? b=none)/\(∀b∈fp,b∉W/\b∉aV sc env own)
section
variable {X:Cx} {A:aO} {s s1:ae} {env:Env} {sc:Scope} {σ:Sg} {own:List (Str×Addr)} {P:List Addr} {O:Orc} {k:Nat} {W V:List Addr} {tgt:ab}
theorem am.wenv_in (V:am X sc env σ own P s.heap):∀b∈aV sc env own,∃o,s.heap.get? b=some o/\cK o=false:=λb hb=>by
 unfold aV at hb;rcases av.mp hb with rfl|hb
 ·obtain ⟨m,o,_,_,e,hd,_⟩:=V.ns;exact az o e (fy λvs z=>by replace z:=hd▸z;cases z)
 ·rcases bo.mp hb with hb|hb
  ·refine ah (er hb) λx hm ζ=>?_;refine bR (V.cells x _ hm) λv o e hd=>?_;exact az o e (fy λvs z=>by replace z:=hd▸z;cases z)
  ·obtain ⟨⟨x,a⟩,hm,rfl⟩:=dG.mp hb;obtain ⟨_,its,n,e⟩:=V.ownF x a hm;exact az _ e rfl
theorem am.new_out (V:am X sc env σ own P s.heap) {a:Addr} (h:s.heap.get? a=none):a∉P++ay own/\a∉aV sc env own:=by refine⟨λq=>by (refine ah (V.win a q) λo e ζ=>?_;replace e:=h▸e;exact ac e),λq=>?_⟩;refine ah (V.wenv_in a q) λo e ζ=>?_;replace e:=h▸e;exact ac e
theorem am.seq_out (V:am X sc env σ own P s.heap) {a:Addr} {o:ek} {its n} (e:s.heap.get? a=some o) (hd:o.data=.seq its n) (ha:a∉P++ay own):a∉P++ay own/\a∉aV sc env own:=by
 refine⟨ha,λq=>?_⟩;unfold aV at q;rcases av.mp q with rfl|q
 ·obtain ⟨m,o',_,_,e',hd',_⟩:=V.ns;replace e':=e▸e';have h_:=aj e';clear e';subst h_;replace hd':=hd▸hd';cases hd'
 ·rcases bo.mp q with q|q
  ·refine ah (er q) λx hm ζ=>?_;refine bR (V.cells x _ hm) λv o' e' hd'=>?_;replace e':=e▸e';have h_:=aj e';clear e';subst h_;replace hd':=hd▸hd';cases hd'
  ·exact ha (bO _ q)
theorem l6 {W':List Addr} {h h':Heap} {ds vs} (r:ax W h ds vs) (k:∀b o,h.get? b=some o->h'.get? b=some o) (hn:∀b∈W',h.get? b=none):ax (W'++W) h' ds vs:=
 ax.kb (V:=[]) (Kb.of_keep k) (λζ q=>nomatch q) (λb hb=>(bo.mp hb).elim (λq=>.inr (hn b q)) .inl) ds vs r
theorem Hf {d:PV} {x:Value} {xs:List PV} (S:ai X s1) (R:aK A 1) (V:am X sc env σ own P s1.heap) (kk:af [] s s1) (r:ao (P++ay own) s1.heap d x) (h:oO d=some xs):Ev X A s1 (f9 x) (λit s2=>lc X A tgt sc env own (P++ay own) s xs it s2):=by
 have hn:=eJ (h:=s1.heap)
 induction d using PV.casesOn with
 |list ys=>
  have h_:=aj h;clear h;subst h_;refine gL r λl vs e2_ hl1 hl hlen rr=>?_;clear r;subst e2_;have hne:l≠s1.heap.objs.size:=λq=>by refine aE hl λn e=>?_;clear hl;replace e:=q▸e;replace e:=hn▸e;exact ac e
  refine rQ hl.isList ⟨S.keep bK,af.keep bK,?_⟩;refine⟨_,vs,_,_,_,N7 R.hh S.new hne rr.length,⟨⟨_,dH _ rfl,rfl,rfl⟩,aE hl λn e=>⟨n,bK _ _ e⟩⟩,l6 rr bK (λb hb=>?_),λb hb=>?_,λb hb=>?_⟩
  ·simp at hb;exact hb▸hn
  ·simp at hb;exact hb▸kk.none hn
  ·simp only[av,bz,or_false] at hb;rcases hb with rfl|rfl
   ·exact V.new_out hn
   ·refine aE hl λn e=>?_;clear hl;exact V.seq_out e rfl hl1
 |tup ys=>
  have h_:=aj h;clear h;subst h_;refine gL r λl vs e2_ hl1 hl hlen rr=>?_;clear r;subst e2_;have hne:l≠s1.heap.objs.size:=λq=>by refine ah hl λn e ζ=>?_;clear hl;replace e:=q▸e;replace e:=hn▸e;exact ac e
  refine Dx hl ⟨S.keep bK,af.keep bK,?_⟩;refine⟨_,vs,_,_,_,JY R.hh S.new hne rr.length,⟨⟨_,dH _ rfl,rfl,rfl⟩,ah hl λn e r=>⟨n,bK _ _ e,r⟩⟩,l6 rr bK (λb hb=>?_),λb hb=>?_,λb hb=>?_⟩
  ·simp at hb;exact hb▸hn
  ·simp at hb;exact hb▸kk.none hn
  ·simp only[av,bz,or_false] at hb;rcases hb with rfl|rfl
   ·exact V.new_out hn
   ·obtain ⟨o,e,hc,n,hd⟩:=hl;exact V.seq_out e hd hl1
 |str ys=>
  have h_:=aj h;clear h;subst h_;obtain ⟨⟨t,rfl⟩,hlen⟩:=r;refine wpAny_pyIter_strU ⟨S.keep bK,af.keep bK,?_⟩;refine⟨[],[],_,_,_,LK R.hh S.new,⟨_,dH _ rfl,rfl,rfl⟩,rfl,λb hb=>?_,λb hb=>?_⟩
  ·simp at hb;exact hb▸kk.none hn
  ·simp at hb;exact hb▸V.new_out hn
 |_=>exact ac h
theorem Jg {r:Addr} {a b:Int} {t u v:df} (S:ai X s1) (R:aK A 1) (V:am X sc env σ own P s1.heap) (kk:af [] s s1) (hr:IsRange s1.heap r a b 1 t u v) (h1:a<=1000000) (h2: -1000000<=a) (h3:b<=1000000) (h4: -1000000<=b):Ev X A s1 (f9 (.ref r)) (λit s2=>lc X A tgt sc env own (P++ay own) s (dU a b) it s2):=by
 have hn:=eJ (h:=s1.heap);refine wpAny_pyIter_range hr (small_one (by lia) (lj (by assumption) (by decide)) (by lia) (lj (by assumption) (by decide))) ⟨S.keep bK,af.keep bK,?_⟩;refine⟨[],[],_,_,_,Mt R.hh S.new,?_,rfl,λc hb=>?_,λc hb=>?_⟩
 ·refine (?_:(s1.heap.push _).get? s1.heap.objs.size=_);refine aa (dH _ rfl) ?_;rw[rangeSize_nat];simp
 ·simp at hb;exact hb▸kk.none hn
 ·simp at hb;exact hb▸V.new_out hn
theorem Jq {n:Int} {t:df} (S:ai X s):Ev X A s (call (.type "range") [.int n t]) (λx s1=>∃r t u v,x=.ref r/\IsRange s1.heap r 0 n 1 t u v):=
 call_range_1 ⟨S.keep bK,af.keep bK,_,_,_,_,rfl,dH _ rfl⟩
theorem E7 {d:PV} {x:Value} {xs:List PV} {ts:List ab} {tn:Nat} {tp:Pos} (S:ai X s1) (R:aK A 1) (V:am X sc env σ own P s1.heap) (kk:af [] s s1) (r:ao (P++ay own) s1.heap d x) (h:oO d=some xs):Ev X A s1 (call (.type "enumerate") [x]) (λy s2=>Ev X A s2 (f9 y) (λit s3=>lc X A (.Tuple ts tn tp) sc env own (P++ay own) s (du 0 xs) it s3)):=by
 have hn:=eJ (h:=s1.heap);have hn1:s1.heap.get? (s1.heap.objs.size+1)=none:=by
  cases e:s1.heap.get? (s1.heap.objs.size+1) with
  |none=>rfl
  |some o=>exact absurd (fJ e) (QH (i0 _))
 have hs:∀b∈[s1.heap.objs.size+1,s1.heap.objs.size],s1.heap.get? b=none:=λb hb=>by
  simp only[av,bz,or_false] at hb;rcases hb with rfl|rfl
  ·exact hn1
  ·exact hn
 have h1:s1.heap.objs.size+1≠s1.heap.objs.size:=QI _
 induction d using PV.casesOn with
 |list ys=>
  have h_:=aj h;clear h;subst h_;refine gL r λl vs e2_ hl1 hl hlen rr=>?_;clear r;subst e2_;have e2:s1.heap.objs.size+1≠l:=λq=>by refine aE hl λn e=>?_;clear hl;replace e:=(eh q)▸e;replace e:=hn1▸e;exact ac e
  have e3:l≠s1.heap.objs.size:=λq=>by refine aE hl λn e=>?_;clear hl;replace e:=q▸e;replace e:=hn▸e;exact ac e
  refine call_enumerate_list hl.isList λh' he hi ζ hk=>⟨S.keep hk,af.keep hk,uL he ⟨S.keep hk,af.refl,?_⟩⟩
  refine⟨_,vs,_,_,_,FH R.hh (S.fresh hn) (S.fresh hn1) h1 e2 e3 rr.length,⟨⟨_,he⟩,hi,aE hl λn q=>⟨_,hk _ _ q,rfl,n,rfl⟩⟩,l6 rr hk hs,λb hb=>kk.none (hs b hb),λb hb=>?_⟩;simp only[av,bz,or_false] at hb;rcases hb with rfl|rfl|rfl
  ·exact V.new_out hn1
  ·exact V.new_out hn
  ·refine aE hl λn e=>?_;clear hl;exact V.seq_out e rfl hl1
 |tup ys=>
  have h_:=aj h;clear h;subst h_;refine gL r λl vs e2_ hl1 hl hlen rr=>?_;clear r;subst e2_;have e2:s1.heap.objs.size+1≠l:=λq=>by refine ah hl λn e ζ=>?_;clear hl;replace e:=(eh q)▸e;replace e:=hn1▸e;exact ac e
  have e3:l≠s1.heap.objs.size:=λq=>by refine ah hl λn e ζ=>?_;clear hl;replace e:=q▸e;replace e:=hn▸e;exact ac e
  refine K0 hl λh' he hi hk=>⟨S.keep hk,af.keep hk,uL he ⟨S.keep hk,af.refl,?_⟩⟩
  refine⟨_,vs,_,_,_,K2 R.hh (S.fresh hn) (S.fresh hn1) h1 e2 e3 rr.length,⟨⟨_,he⟩,hi,ah hl λn q r=>⟨_,hk _ _ q,r⟩⟩,l6 rr hk hs,λb hb=>kk.none (hs b hb),λb hb=>?_⟩;simp only[av,bz,or_false] at hb;rcases hb with rfl|rfl|rfl
  ·exact V.new_out hn1
  ·exact V.new_out hn
  ·obtain ⟨o,e,hc,n,hd⟩:=hl;exact V.seq_out e hd hl1
 |str ys=>
  have h_:=aj h;clear h;subst h_;obtain ⟨⟨t,rfl⟩,hlen⟩:=r;refine QJ λh' he hi ζ hk=>⟨S.keep hk,af.keep hk,uL he ⟨S.keep hk,af.refl,?_⟩⟩
  refine⟨[],[],_,_,_,Au R.hh (S.fresh hn) (S.fresh hn1) h1,⟨⟨_,he⟩,hi⟩,rfl,λb hb=>kk.none (hs b hb),λb hb=>V.new_out (hs b hb)⟩
 |_=>exact ac h
theorem On {x y:Value} {xs ys:List PV} {ts:List ab} {tn:Nat} {tp:Pos} (S:ai X s1) (R:aK A 1) (V:am X sc env σ own P s1.heap) (kk:af [] s s1) (r1:ao (P++ay own) s1.heap (.list xs) x) (r2:ao (P++ay own) s1.heap (.list ys) y):Ev X A s1 (call (.type "zip") [x,y]) (λz s2=>Ev X A s2 (f9 z) (λit s3=>lc X A (.Tuple ts tn tp) sc env own (P++ay own) s (fT xs ys) it s3)):=by
 have hnew:∀j,s1.heap.get? (s1.heap.objs.size+j)=none:=λj=>by
  cases e:s1.heap.get? (s1.heap.objs.size+j) with
  |none=>rfl
  |some o=>exact absurd (fJ e) (pP (fI _ _))
 refine gL r1 λl1 us e2_ a1 hl1 n1 q1=>?_;clear r1;subst e2_;refine gL r2 λl2 vs e2_ a2 hl2 n2 q2=>?_;clear r2;subst e2_;have ne:∀{l:Addr} {o:ek} {j:Nat},s1.heap.get? l=some o->l≠s1.heap.objs.size+j:=λe q=>by rw[q,hnew] at e;exact ac e
 refine aE hl1 λm1 e1=>?_;clear hl1;refine aE hl2 λm2 e2=>?_;clear hl2;have hs:∀b∈[s1.heap.objs.size+4,s1.heap.objs.size+3,s1.heap.objs.size+0,s1.heap.objs.size+1],s1.heap.get? b=none:=λb hb=>by
  simp only[av,bz,or_false] at hb;rcases hb with rfl|rfl|rfl|rfl<;>exact hnew _
 refine call_zip_2 ⟨_,e1,rfl,_,rfl⟩ ⟨_,e2,rfl,_,rfl⟩ λh' z1 z2 z3 z4 z5 ζ hk=>⟨S.keep hk,af.keep hk,yg z1 ⟨S.keep hk,af.refl,?_⟩⟩
 have D:ZipApart (s1.heap.objs.size+4) (s1.heap.objs.size+2) (s1.heap.objs.size+3) (s1.heap.objs.size+0) (s1.heap.objs.size+1) l1 l2:=by
  constructor<;>first|exact ne e1|exact ne e2|(intro q;have:=Nat.add_left_cancel q;lia)
 refine⟨xs++ys,us++vs,_,_,_,Ez R.hh D (S.fresh (hnew 4)) (S.fresh (hnew 3)) (S.fresh (hnew 0)) (S.fresh (hnew 1)) q1.length q2.length,?_,l6 (q1.append q2) hk hs,λb hb=>kk.none (hs b hb),λb hb=>?_⟩
 ·have:fg 0 (fT xs ys).length=0:=Nat.zero_min _;refine aa this ?_;exact⟨z1,z2,⟨_,_,z3⟩,z4,z5,⟨m1,hk _ _ e1⟩,⟨m2,hk _ _ e2⟩⟩
 ·simp only[av,bz,or_false] at hb;rcases hb with rfl|rfl|rfl|rfl|rfl|rfl|rfl
  ·exact V.new_out (hnew 4)
  ·exact V.new_out (hnew 2)
  ·exact V.new_out (hnew 3)
  ·exact V.new_out (hnew 0)
  ·exact V.new_out (hnew 1)
  ·exact V.seq_out e1 rfl a1
  ·exact V.seq_out e2 rfl a2
theorem Ik {x y v:Value} {xs ys zs:List PV} {ts:List ab} {tn:Nat} {tp:Pos} (S:ai X s1) (R:aK A 1) (V:am X sc env σ own P s1.heap) (kk:af [] s s1) (hxy:ys.length=xs.length) (hxz:zs.length=xs.length) (r1:ao (P++ay own) s1.heap (.list xs) x) (r2:ao (P++ay own) s1.heap (.list ys) y) (r3:ao (P++ay own) s1.heap (.list zs) v):Ev X A s1 (call (.type "zip") [x,y,v]) (λz s2=>Ev X A s2 (f9 z) (λit s3=>lc X A (.Tuple ts tn tp) sc env own (P++ay own) s (gn xs ys zs) it s3)):=by
 have hnew:∀j,s1.heap.get? (s1.heap.objs.size+j)=none:=λj=>by
  cases e:s1.heap.get? (s1.heap.objs.size+j) with
  |none=>rfl
  |some o=>exact absurd (fJ e) (pP (fI _ _))
 obtain ⟨l1,us,rfl,a1,hl1,n1,q1⟩:=r1;obtain ⟨l2,vs,rfl,a2,hl2,n2,q2⟩:=r2;obtain ⟨l3,ws,rfl,a3,hl3,n3,q3⟩:=r3;have ne:∀{l:Addr} {o:ek} {j:Nat},s1.heap.get? l=some o->l≠s1.heap.objs.size+j:=λe q=>by rw[q,hnew] at e;exact ac e
 refine aE hl1 λm1 e1=>?_;clear hl1;refine aE hl2 λm2 e2=>?_;clear hl2;refine aE hl3 λm3 e3=>?_;clear hl3;have hs:∀b∈[s1.heap.objs.size+5,s1.heap.objs.size+4,s1.heap.objs.size+0,s1.heap.objs.size+1,s1.heap.objs.size+2],s1.heap.get? b=none:=λb hb=>by
  simp only[av,bz,or_false] at hb;rcases hb with rfl|rfl|rfl|rfl|rfl<;>exact hnew _
 have lout:∀{l:Addr} {o:ek},s1.heap.get? l=some o->l∉[s1.heap.objs.size+5,s1.heap.objs.size+4,s1.heap.objs.size+0,s1.heap.objs.size+1,s1.heap.objs.size+2]:=λe q=>by have:=hs _ q;replace this:=e▸this;cases this
 refine ND ⟨_,e1,rfl,_,rfl⟩ ⟨_,e2,rfl,_,rfl⟩ ⟨_,e3,rfl,_,rfl⟩ λh' z1 z2 z3 z4 z5 z6 hk=>⟨S.keep hk,af.keep hk,yg z1 ⟨S.keep hk,af.refl,?_⟩⟩
 have D:oZ (s1.heap.objs.size+5) (s1.heap.objs.size+3) (s1.heap.objs.size+4) (s1.heap.objs.size+0) (s1.heap.objs.size+1) (s1.heap.objs.size+2) l1 l2 l3:=
  ⟨by simp,lout e1,lout e2,lout e3⟩
 refine⟨xs++(ys++zs),us++(vs++ws),_,_,_,Mc R.hh D (S.fresh (hnew 5)) (S.fresh (hnew 4)) (S.fresh (hnew 0)) (S.fresh (hnew 1)) (S.fresh (hnew 2)) q1.length q2.length q3.length hxy hxz,
  ⟨z1,z2,⟨_,_,_,z3⟩,z4,z5,z6,⟨m1,hk _ _ e1⟩,⟨m2,hk _ _ e2⟩,⟨m3,hk _ _ e3⟩⟩,l6 (q1.append (q2.append q3)) hk hs,λb hb=>kk.none (hs b hb),λb hb=>?_⟩
 simp only[av,bz,or_false] at hb;rcases hb with rfl|rfl|rfl|rfl|rfl|rfl|rfl|rfl|rfl
 ·exact V.new_out (hnew 5)
 ·exact V.new_out (hnew 3)
 ·exact V.new_out (hnew 4)
 ·exact V.new_out (hnew 0)
 ·exact V.new_out (hnew 1)
 ·exact V.new_out (hnew 2)
 ·exact V.seq_out e1 rfl a1
 ·exact V.seq_out e2 rfl a2
 ·exact V.seq_out e3 rfl a3
end
section
variable {X:Cx} {A:aO} {s s':ae} {env:Env} {sc:Scope} {σ:Sg} {own own':List (Str×Addr)} {P:List Addr}
theorem am.wseq (V:am X sc env σ own P s.heap):∀b∈aV sc env own,b∈P++ay own\/s.heap.get? b=none\/∀o,s.heap.get? b=some o->∀its n,o.data≠.seq its n:=by
 intro b hb;unfold aV at hb;rcases av.mp hb with rfl|hb
 ·obtain ⟨m,o,_,_,e,hd,_⟩:=V.ns;exact .inr (.inr λo' e' its n q=>by replace e':=e▸e';have h_:=aj e';clear e';subst h_;replace q:=hd▸q;cases q)
 ·rcases bo.mp hb with hb|hb
  ·refine ah (er hb) λx hm ζ=>?_;refine bR (V.cells x _ hm) λv o e hd=>?_;exact .inr (.inr λo' e' its n q=>by replace e':=e▸e';have h_:=aj e';clear e';subst h_;replace q:=hd▸q;cases q)
  ·exact .inl (bO _ hb)
theorem E8 (h:dD own own' s):∀b∈P++ay own',b∈P++ay own\/s.heap.get? b=none:=λb hb=>
 (bo.mp hb).elim (λq=>.inl (bI _ q)) λq=>(h b q).imp (λz=>bO _ z) id
theorem ax.stp {d v} (r:ax (P++ay own) s.heap d v) (V:am X sc env σ own P s.heap) (k:af (aV sc env own) s s') (h:dD own own' s):ax (P++ay own') s'.heap d v:=
 ax.kb k.kb V.wseq (E8 h) d v r
theorem zg {it t:Addr} {items:Array Value} (hne:t≠it):∀(n i:Nat) (s:ae) (Q:List Value->ae->Prop),s.heap.IsListIter it t i->s.heap.IsList t items->i+n<=items.size->(∀h',h'.IsListIter it t (i+n)->iX it s.heap h'->Q ((items.toList.drop i).take n) {s with heap:=h'})->aq (aw X.prog X.w) A (draw (.ref it) n) Q (λζ ζ=>False) s
 |0,i,s,Q,hit,_,_,hQ=>by refine (?_:aq _ _ (pure []) Q _ s);exact aS (by simpa using hQ s.heap hit (SO ..))
 |n+1,i,s,Q,hit,ht,hle,hQ=>by
  have hlt:i<items.size:=Mx hle;refine (?_:aq _ _ (f8 (.ref it)>>=_) Q _ s);refine ak (Qj hit ht (x:=items[i]) (by simp[hlt]) λh₁ hit₁ hs₁=>?_);refine ak (fi (zg hne n (i+1) _ _ hit₁ (ht.extBut hs₁.extBut hne) (J4 hle) λh₂ hit₂ hs₂=>aS ?_));have hd:items.toList.drop i=items[i]::items.toList.drop (i+1):=by simp[lz,hlt]
  have:=hQ h₂ (by rw[show i+(n+1)=i+1+n by exact Il];exact hit₂) (hs₁.trans hs₂);replace this:=hd▸this;replace this:=List.take_succ_cons▸this;exact this
theorem JK {t:Addr} {items:Array Value} {Q:List Value->ae->Prop} (hh:A.handled=none) (ht:s.heap.IsList t items) (hQ:∀h',n4 s.heap.objs.size s.heap h'->Q items.toList {s with heap:=h'}):aq (aw X.prog X.w) A (DF (.ref t) items.size none) Q (λζ ζ=>False) s:=by
 have hlt:t≠s.heap.objs.size:=by refine ah ht λo ho ζ=>?_;clear ht;exact ku (fJ ho)
 have kk:∀b o,s.heap.get? b=some o->(s.heap.push {cls:=.type "list_iterator",data:=.fields #[.ref t,.int 0 0]}).get? b=some o:=λb o e=>cG _ e;unfold DF;refine ak ?_;unfold notIterableAtAll;refine ak (QK ht.typeIs slot_list_iter.lookup ?_);refine aS ?_;simp only[ey,if_false];refine ak (fi (rQ ht ?_));have ht0:(s.heap.push {cls:=.type "list_iterator",data:=.fields #[.ref t,.int 0 0]}).IsList t items:=ah ht λo e r=>⟨o,kk _ _ e,r⟩
 refine ak (fi (zg hlt items.size 0 _ _ ⟨_,dH _ rfl,rfl,rfl⟩ ht0 (Gi) λh₁ hit₁ hs₁=>?_));have hall:PW items.size (List.drop 0 items.toList)=items.toList:=by refine aa uT ?_;exact uU (by simp)
 refine aa hall ?_;rw[if_neg (by simp)];have ht₁:h₁.IsList t items:=ht0.extBut hs₁.extBut hlt;refine ak (fi (Qk hh hit₁ ht₁ (by simp) λh₂ he₂=>?_));simp only[yk,ey,if_false];refine aS (hQ h₂ λb o hb e=>he₂ b o hb (hs₁.extBut b o hb (kk _ _ e)))
noncomputable def wZ (X:Cx) (sc:Scope) (env:Env) (own:List (Str×Addr)) (P:List Addr) (s:ae) (σ':Sg) (s':ae):Prop:=
 ∃own',ai X s'/\af (aV sc env own) s s'/\(∀p∈own',p∈own)/\am X sc env σ' own' P s'.heap
theorem m4 (h:∀p∈own',p∈own):dD own own' s:=λb hb=>by refine ah (dG.mp hb) λp hp e2_=>?_;subst e2_;exact .inl (mG (h p hp))
theorem wC {t:ab} {r:List ab} (h:dT t=true):gO (t::r) env=(false,jv t env)::gO r env:=by
 induction t using bE<;>first|rfl|exact aZ h
theorem Ae {fr n} {t:ab} {d:PV} {σ':Sg} (h:bu fr sc n σ t d=some σ'):dT t=true:=by
 induction n using e8 with
 |zero=>exact ac h
 |succ n=>induction t using bE<;>first|rfl|exact ac h
theorem BW {f:Sg->ab->PV->Option Sg}:∀{σ ts xs σ'},gA f σ ts xs=some σ'->ts.length=xs.length
 |_,[],[],_,_=>rfl
 |_,[],_::_,_,h=>ac h
 |_,_::_,[],_,h=>ac h
 |σ,t::ts,x::xs,σ',h=>by
  have h:(match f σ t x with|some σ'=>gA f σ' ts xs|none=>none)=some σ':=h
  set_option smartUnfolding false in refine om h λζ ζ h=>?_
  exact congrArg pD (BW h)
theorem ub {fr n}:∀{σ ts xs σ'},gA (bu fr sc n) σ ts xs=some σ'->∀t∈ts,dT t=true
 |_,[],_,_,_=>λζ q=>nomatch q
 |_,_::_,[],_,h=>ac h
 |σ,t::ts,x::xs,σ',h=>by
  have h:(match bu fr sc n σ t x with|some σ'=>gA (bu fr sc n) σ' ts xs|none=>none)=some σ':=h
  set_option smartUnfolding false in refine om h λζ h1 h=>?_
  intro t' ht';rcases av.mp ht' with rfl|q
  ·exact Ae h1
  ·exact ub h t' q
theorem vU {ts:List ab} (h:∀t∈ts,dT t=true):(gO ts env).length=ts.length/\(gO ts env).findIdx? (·.1)=none:=by
 induction ts with
 |nil=>exact⟨rfl,rfl⟩
 |cons t r ih=>rw[wC (h t (.head _))];refine be (ih λt q=>h t (.tail _ q)) λh1 h2=>?_;refine⟨by simp[h1],?_⟩;refine aa QL ?_;simp[h2]
noncomputable def v9 (X:Cx) (A:aO) (sc:Scope) (env:Env) (P:List Addr) (f:Sg->ab->PV->Option Sg):Prop:=
 ∀(σ:Sg) (t:ab) (d:PV) (σ':Sg) (s:ae) (own:List (Str×Addr)) (v:Value),f σ t d=some σ'->ai X s->am X sc env σ own P s.heap->
  ao (P++ay own) s.heap d v->aq (aw X.prog X.w) A (jv t env v) (λζ s'=>wZ X sc env own P s σ' s') (λζ ζ=>False) s
theorem AV {fr:Bool} {n:Nat} (H:v9 X A sc env P (bu fr sc n)):∀(ts:List ab) (xs:List PV) (σ:Sg) (σ':Sg) (s:ae) (own:List (Str×Addr)) (vs:List Value),gA (bu fr sc n) σ ts xs=some σ'->ai X s->am X sc env σ own P s.heap->ax (P++ay own) s.heap xs vs->aq (aw X.prog X.w) A (pQ ((gO ts env).map (·.2)) vs) (λζ s'=>wZ X sc env own P s σ' s') (λζ ζ=>False) s
 |[],[],σ,σ',s,own,vs,h,S,V,r=>by have h:=kr h;have r:vs=[]:=r;subst h r;exact aS ⟨own,S,af.refl,λζ q=>q,V⟩
 |[],_::_,_,_,_,_,_,h,_,_,_=>nomatch h
 |_::_,[],_,_,_,_,_,h,_,_,_=>nomatch h
 |t::ts,x::xs,σ,σ',s,own,vs,h,S,V,r=>by
  have h:(match bu fr sc n σ t x with|some σ'=>gA (bu fr sc n) σ' ts xs|none=>none)=some σ':=h;cases h1:bu fr sc n σ t x with
  |none=>replace h:=h1▸h;nomatch h
  |some σ1=>
   replace h:=h1▸h;refine bJ r λv vs e2_ r1 r2=>?_;clear r;subst e2_;refine aa (wC (Ae h1)) ?_
   exact ak (fi (aA (H σ t x σ1 s own v h1 S V r1) (λζ s1 h_0=>dS h_0 λown1 S1 k1 ho1 V1=>
    aA (AV H ts xs σ1 σ' s1 own1 vs h S1 V1 (r2.stp V k1 (m4 ho1))) (λζ s2 h_1=>dS h_1 λown2 S2 k2 ho2 V2=>⟨own2,S2,k1.trans_own (m4 ho1) k2,λp hp=>ho1 p (ho2 p hp),V2⟩) λζ ζ f=>f) λζ ζ f=>f))
theorem Aj {fr:Bool} {n:Nat} (H:v9 X A sc env P (bu fr sc n)) {ts:List ab} {xs:List PV} {σ σ':Sg} {s:ae} {own:List (Str×Addr)} {vs:List Value} {h':Heap} (h:gA (bu fr sc n) σ ts xs=some σ') (S:ai X s) (V:am X sc env σ own P s.heap) (r:ax (P++ay own) s.heap xs vs) (k1:∀b o,s.heap.get? b=some o->h'.get? b=some o):aq (aw X.prog X.w) A (pQ ((gO ts env).map (·.2)) vs) (λζ s'=>wZ X sc env own P s σ' s') (λζ ζ=>False) {s with heap:=h'}:=
 aA (AV H ts xs σ σ' {s with heap:=h'} own vs h (S.keep (tk:=s.toks) k1) (V.keep (Kb.of_keep k1)) (r.keep (Kb.of_keep k1))) (λζ ζ h_2=>dS h_2 λown2 S2 k2 ho V2=>⟨own2,S2,(af.keep (tk:=s.toks) k1).trans k2,ho,V2⟩) λζ ζ f=>f
theorem B4 {fr:Bool} {n:Nat} {ts:List ab} {xs:List PV} {σ σ':Sg} {W:List Addr} {h0:Heap} {vs:List Value} (h:gA (bu fr sc n) σ ts xs=some σ') (r:ax W h0 xs vs):(gO ts env).length=vs.toArray.size:=
 (vU (ub h)).1.trans ((BW h).trans r.length.symm)
theorem nH {fr:Bool} (hh:A.handled=none):∀(n:Nat),v9 X A sc env P (bu fr sc n)
 |0=>λζ ζ ζ ζ ζ ζ ζ h ζ ζ ζ=>nomatch h
 |n+1=>λσ t d σ' s own v h S V r=>by
  have H:=nH (fr:=fr) hh n
  induction t using bE with
  |Name x p=>
   have h:(if (bb sc x&&(!fr||(σ.lookup x).isNone))=true then some (put σ x (.sh d)) else none)=some σ':=h
   by_cases hx:(bb sc x&&(!fr||(σ.lookup x).isNone))=true
   ·replace h:=(if_pos hx)▸h;have h:=kr h;subst h;exact DG (oz S V ((bF ..).mp hx).1 r λs' S' k V'=>⟨_,S',k,λp hp=>(cP hp).1,V'⟩)
   ·replace h:=(if_neg hx)▸h;exact ac h
  |Tuple ts tn tp=>
   induction d using PV.casesOn with
   |tup xs=>refine gL r λa vs e2_ ha ht hlen rl=>?_;clear r;subst e2_;exact QM hh ht (B4 h rl) (vU (ub h)).2 λh' hk=>Aj H h S V rl λb o e=>hk b o (ku (fJ e)) e
   |list xs=>refine gL r λa vs e2_ ha ht hlen rl=>?_;clear r;subst e2_;rw[arm_assign_Tuple];refine ak (eb ?_);unfold unpack;rw[B4 h rl,(vU (ub h)).2];exact ak (fi (JK hh ht.isList λh' hk=>Aj H h S V rl λb o e=>hk b o (ku (fJ e)) e))
   |_=>exact ac h
  |_=>exact ac h
end
noncomputable def gi (X:Cx) (A:aO) (O:Orc) (n:Nat):Prop:=∀sc σ env own P e d s,pe O n sc σ e=some d->ai X s->am X sc env σ own P s.heap->Ev X A s (aG e env) (λv s'=>ao (P++ay own) s'.heap d v)
noncomputable def iQ (X:Cx) (A:aO) (O:Orc) (n:Nat):Prop:=∀sc σ env own P e d s,pa O n sc σ e=some d->ai X s->am X sc env σ own P s.heap->Ev X A s (aG e env) (λv s'=>ao [] s'.heap d v/\(cE σ e=false->ao (P++ay own) s'.heap d v))
noncomputable def jj (X:Cx) (A:aO) (O:Orc) (n:Nat):Prop:=∀sc σ env own P e c s,pT O n sc σ e=some c->ai X s->am X sc env σ own P s.heap->Ev X A s (isTrue e env (aG e env)) (λb ζ=>b=c)
noncomputable def w4 (X:Cx) (A:aO) (O:Orc) (n:Nat):Prop:=∀sc σ env own P e c s,i8 O n sc σ e=some c->ai X s->am X sc env σ own P s.heap->Ev X A s (yl e env) (λv ζ=>jV v c)
noncomputable def kX (X:Cx) (A:aO) (O:Orc) (n:Nat):Prop:=∀sc σ env own P tgt e xs s,cr O n sc σ (dM tgt) e=some xs->ai X s->am X sc env σ own P s.heap->
 (∀x,pR e env x=pure x)/\Ev X A s (aG e env) (λx s1=>Ev X A s1 (f9 x) (λit s2=>lc X A tgt sc env own (P++ay own) s xs it s2))
theorem tv {O n sc σ} {e:ab} {d} (h:pe O n sc σ e=some d):dT e=true:=by
 induction n using e8 with
 |zero=>exact ac h
 |succ n=>induction e using bE<;>first|rfl|exact ac h
theorem xE {O n sc σ} {e:ab} {d} (h:pa O n sc σ e=some d):dT e=true:=by
 induction n using e8 with
 |zero=>exact ac h
 |succ n=>
  induction e using bE<;>first|rfl|skip
  skip;exact tv h
section
variable {X:Cx} {A:aO} {s:ae} {env:Env} {sc:Scope} {σ:Sg} {own:List (Str×Addr)} {P:List Addr} {O:Orc} {k n:Nat} {W:List Addr}
theorem JX {d:PV} {v:Value} {h:Heap} {c:Option Int} (r:ao W h d v) (hp:sX (some d)=some c):jV v c:=by
 induction d using PV.casesOn with
 |none=>have hp:=aj hp;subst hp;subst (r:_=_);exact .none
 |int i=>
  have hp:(if (decide (-2^62<i)&&decide (i<2^62))=true then some (some i) else none)=some c:=hp
  by_cases hc:(decide (-2^62<i)&&decide (i<2^62))=true
  ·replace hp:=(if_pos hc)▸hp;have hp:=aj hp;subst hp;obtain ⟨t,rfl⟩:=r;exact .int i t
  ·replace hp:=(if_neg hc)▸hp;exact ac hp
 |_=>exact ac hp
theorem oW (V:am X sc env σ own P s.heap) {x:Str} (h:bj sc x=true):cw x=true:=by
 cases e:sc.names.lookup x with
 |none=>delta bj at h;replace h:=e▸h;exact aZ h
 |some k=>exact V.nm x k e
theorem Hw {x:Str} {pos:Pos} {d:PV} (S:ai X s) (V:am X sc env σ own P s.heap) (hx:bj sc x=true) (h:gS σ x=some d):Ev X A s (aG (.Name x pos) env) (λv s'=>ao (P++ay own) s'.heap d v):=by exact ah (V.vars x d (zw h)) λv hv r=>iM V hv (oW V hx) ⟨S,af.refl,r⟩
theorem qH {W:List Addr}:∀b,b∈([]:List Addr)->b∈W:=λζ q=>nomatch q
theorem sS {x:Str} {pos:Pos} {d:PV} (S:ai X s) (V:am X sc env σ own P s.heap) (hx:bj sc x=true) (h:iu σ x=some d):Ev X A s (aG (.Name x pos) env) (λv s'=>ao [] s'.heap d v/\(cE σ (.Name x pos)=false->ao (P++ay own) s'.heap d v)):=by
 refine Ia h (λe=>?_) λxs e h_=>?_
 ·refine ah (V.vars x d e) λv hv r=>?_;exact iM V hv (oW V hx) ⟨S,af.refl,r.sub qH,λζ=>r⟩
 ·subst h_;refine fw (V.owns x xs e) λa vs n h1 h2 h3 h4 h5=>?_;refine iM V h2 (oW V hx) ⟨S,af.refl,?_,λq=>?_⟩
  ·skip;exact j4 a vs rfl (λq=>nomatch q) ⟨n,h3⟩ h4 (h5.sub qH)
  ·have q:(match σ.lookup x with|some (.own _)=>true|_=>false)=false:=q;replace q:=e▸q;exact dz q
theorem LN {d:PV} {v:Value} {h:Heap} {s:ae} (hs:s.heap=h) (r:ao W h d v) (hd:(∃xs,d=.list xs)\/(∃xs,d=.tup xs)\/∃x,d=.str x):∃T id,typeLookup (.type T) "__getitem__" =pure (some (.builtin id))/\s.TypeIs v T:=by
 subst hs;rcases hd with ⟨xs,rfl⟩|⟨xs,rfl⟩|⟨x,rfl⟩
 ·refine wf r λa vs e2_ ζ hl ζ=>?_;clear r;subst e2_;exact gE ("list") _ SP.lookup hl.isList.typeIs
 ·refine wf r λa vs e2_ ζ hl ζ=>?_;clear r;subst e2_;exact gE ("tuple") _ SQ.lookup hl.typeIs
 ·obtain ⟨⟨t,rfl⟩,_⟩:=r;exact gE ("str") _ SR.lookup rfl
theorem Jw {a k d:PV} (h:fN a k=some d):(∃xs,a=.list xs)\/(∃xs,a=.tup xs)\/∃x,a=.str x:=by
 induction a using PV.casesOn with
 |list xs=>exact .inl ⟨_,rfl⟩
 |tup xs=>exact .inr (.inl ⟨_,rfl⟩)
 |str x=>exact .inr (.inr ⟨_,rfl⟩)
 |_=>exact ac h
theorem Pc {a d:PV} {lo hi st} (h:eG a lo hi st=some d):(∃xs,a=.list xs)\/(∃xs,a=.tup xs)\/∃x,a=.str x:=by
 delta eG at h;refine yZ h λζ h=>?_
 induction a using PV.casesOn with
 |list xs=>exact .inl ⟨_,rfl⟩
 |str xs=>exact .inr (.inr ⟨_,rfl⟩)
 |tup xs=>exact .inr (.inl ⟨_,rfl⟩)
 |_=>exact ac h
theorem Ce {value slice:ab} {pos:Pos} {o i:Value} {d d':PV} {V:List Addr} (S:ai X s) (ro:ao V s.heap d' o) (hk:(∃xs,d'=.list xs)\/(∃xs,d'=.tup xs)\/∃x,d'=.str x) (h:Ev X A s (x5 o i) (λv s'=>ao W s'.heap d v)):Ev X A s (do
   ea pos
   let r <- QN slice (<- getitemInPython o) o i
   letTemporaryGo value o r
   pure r) (λv s'=>ao W s'.heap d v):=by
 refine bR (LN rfl ro hk) λT id hl hT=>?_;refine ak (eb (ak ?_));refine aa (getitemInPython_of_ne hT.not_modules) ?_;refine ak (QK hT hl (aS (ak ?_)));have fin:∀l,Ev X A s (uG l (x5 o i)) (λv s'=>ao W s'.heap d v):=λl=>wR h;have key:Ev X A s (QN slice false o i) (λv s'=>ao W s'.heap d v):=by
  induction slice using bE with
  |Slice a b c p=>induction c using bW<;>exact fin _
  |_=>exact fin _
 exact aA key (λv s' h_0=>aI h_0 λh1 h2 h3=>ak (wpAny_letTemporaryGo (aS ⟨h1,h2,h3⟩))) λζ ζ f=>f
end
section
variable {X:Cx} {A:aO} {s:ae} {env:Env} {sc:Scope} {σ:Sg} {own:List (Str×Addr)} {P:List Addr} {O:Orc} {k n:Nat} {W:List Addr}
theorem Mf {c:Const} {kd:Nat} {pos:Pos} {d:PV} (S:ai X s) (h:xO c=some d):Ev X A s (aG (.Constant c kd pos) env) (λv s'=>ao W s'.heap d v):=by
 induction c using Const.casesOn with
 |none=>have h:=aj h;subst h;exact wpAny_Constant_none ⟨S,af.refl,rfl⟩
 |bool=>have h:=aj h;subst h;exact wpAny_Constant_bool ⟨S,af.refl,rfl⟩
 |int=>have h:=aj h;subst h;exact wpAny_Constant_int ⟨S.tok,af.toks,⟨_,rfl⟩⟩
 |str x=>
  have h:(if bt x.length=true then some (PV.str x) else none)=some d:=h
  by_cases hl:bt x.length=true
  ·replace h:=(if_pos hl)▸h;have h:=aj h;subst h;exact wpAny_Constant_str ⟨S.tok,af.toks,⟨_,rfl⟩,eH hl⟩
  ·replace h:=(if_neg hl)▸h;exact ac h
 |_=>exact ac h
theorem pn {l r:ab} {op:mz} {pos:Pos} {a b d:PV} (R:aK A 1) (S:ai X s) (V:am X sc env σ own P s.heap) (h1:Ev X A s (aG l env) (λv s'=>ao (P++ay own) s'.heap a v)) (h2:∀s',ai X s'->af [] s s'->Ev X A s' (aG r env) (λv s'=>ao (P++ay own) s'.heap b v)) (h:bV op a b=some d):Ev X A s (aG (.BinOp l op r pos) env) (λv s'=>ao (P++ay own) s'.heap d v):=by refine QP (aA h1 (λva s1 h_0=>aI h_0 λS1 k1 r1=>?_) λζ ζ f=>f);refine aA (h2 s1 S1 k1) (λvb s2 h_1=>aI h_1 λS2 k2 r2=>?_) λζ ζ f=>f;refine aA (E1 S2 R ((V.keep k1.kb).keep k2.kb).win (r1.keep k2.kb) r2 h) (λv s3 h_2=>aI h_2 λS3 k3 r3=>⟨S3,(k1.trans k2).trans k3,r3⟩) λζ ζ f=>f
theorem IX {x:ab} {pos:Pos} {i:Int} (h1:Ev X A s (aG x env) (λv s'=>ao W s'.heap (.int i) v)):Ev X A s (aG (.UnaryOp .USub x pos) env) (λv s'=>ao W s'.heap (.int (-i)) v):=by refine wpAny_UnaryOp (aA h1 (λva s1 h_3=>aI h_3 λS1 k1 r1=>?_) λζ ζ f=>f);refine aE r1 λt e1_=>?_;clear r1;subst e1_;exact SS ⟨S1.tok,k1.trans af.toks,⟨_,rfl⟩⟩
theorem OQ {op:BoolOp} {f:ab->Option PV} {e e':ab} {es:List ab} {d:PV} (h:jK f op (e::e'::es)=some d):∃d1 c,f e=some d1/\eO d1=some c/\(bif c==(op==.Or) then some d1 else jK f op (e'::es))=some d:=by
 have h:(match f e with|none=>none|some d1=>(match (generalizing:=false) op,eO d1 with|.And,some false=>some d1|.Or,some true=>some d1|_,some _=>jK f op (e'::es)|_,none=>none))=some d:=h
 set_option smartUnfolding false in refine om h λd1 h1 h=>?_
 revert h;refine (?_:(match (generalizing:=false) op,eO d1 with|.And,some false=>some d1|.Or,some true=>some d1|_,some _=>jK f op (e'::es)|_,none=>none)=some d->_);refine cn (eO d1) λt ht=>?_
 induction t using bW with
 |none=>cases op<;>exact ac
 |some c=>exact λh=>⟨d1,c,h1,ht,by cases op<;>induction c using d8<;>exact h⟩
theorem GJ {op:BoolOp} {f:ab->Option Bool} {e:ab} {es:List ab} {d:Bool} (h:m9 f op (e::es)=some d):∃c,f e=some c/\(bif c==(op==.Or) then some c else m9 f op es)=some d:=by
 revert h;refine (?_:(match (generalizing:=false) op,f e with|.And,some false=>some false|.Or,some true=>some true|_,some _=>m9 f op es|_,none=>none)=some d->_);refine cn (f e) λt ht=>?_
 induction t using bW with
 |none=>cases op<;>exact ac
 |some c=>exact λh=>⟨c,rfl,by cases op<;>induction c using d8<;>exact h⟩
set_option backward.match.sparseCases true in
theorem AT {op:BoolOp} {pos:Pos} {f:ab->Option PV} (hf:∀e d s,f e=some d->ai X s->am X sc env σ own P s.heap->Ev X A s (aG e env) (λv s'=>ao (P++ay own) s'.heap d v)):∀(es:List ab) (d:PV) (s:ae),jK f op es=some d->ai X s->am X sc env σ own P s.heap->Ev X A s (uV pos op (rT es env)) (λv s'=>ao (P++ay own) s'.heap d v)
 |[],d,s,h,S,V=>ac h
 |[e],d,s,h,S,V=>hf e d s h S V
 |e::e'::es,d,s,h,S,V=>by
  refine bJ (OQ h) λd1 c h1 hc h=>?_
  ·show Ev X A s (do
    let v <- aG e env
    ea pos
    let t <- holding [v] (truthy v)
    match op,t with
    |.And,false|.Or,true=>pure v
    |_,_=>uV pos op (rT (e'::es) env)) _
   refine Ev.bind (hf e d1 s h1 S V) λv s1 S1 k1 r1=>?_;refine Ev.bind (Ev.at (P:=λζ s'=>s'=s1) S1 rfl) λζ s2 S2 k2 e2=>?_;subst e2;have V2:=V.keep k1.kb
   have go:∀c,eO d1=some c->(∀s3,ai X s3->af [] s2 s3->Ev X A s3 (match op,c with
    |.And,false|.Or,true=>pure v
    |_,_=>uV pos op (rT (e'::es) env)) (λv s'=>ao (P++ay own) s'.heap d v))->Ev X A s2 (do
    let t <- holding [v] (truthy v)
    match op,t with
    |.And,false|.Or,true=>pure v
    |_,_=>uV pos op (rT (e'::es) env)) (λv s'=>ao (P++ay own) s'.heap d v):=by
    intro c hc hk;refine Ev.bind (Ev.holding (wj S2 r1 hc)) λt s3 S3 k3 e3=>?_;subst e3;exact hk s3 S3 k3
   have more:jK f op (e'::es)=some d->∀s3,ai X s3->af [] s2 s3->Ev X A s3 (uV pos op (rT (e'::es) env)) (λv s'=>ao (P++ay own) s'.heap d v):=
    λh s3 S3 k3=>AT hf (e'::es) d s3 h S3 (V2.keep k3.kb)
   ·refine go c hc λs3 S3 k3=>?_;cases op<;>induction c using d8
    ·have h:=aj h;subst h;exact Ev.pure S3 (r1.keep k3.kb)
    ·exact more h s3 S3 k3
    ·exact more h s3 S3 k3
    ·have h:=aj h;subst h;exact Ev.pure S3 (r1.keep k3.kb)
set_option backward.match.sparseCases true in
theorem xa {op:BoolOp} {f:ab->Option Bool} (hf:∀e d s,f e=some d->ai X s->am X sc env σ own P s.heap->Ev X A s (isTrue e env (aG e env)) (λb ζ=>b=d)):∀(es:List ab) (d:Bool) (s:ae),m9 f op es=some d->ai X s->am X sc env σ own P s.heap->Ev X A s (allTrue op es env) (λb ζ=>b=d)
 |[],d,s,h,S,V=>by have h:=aj (show some (op==.And)=some d from h);subst h;exact Ev.pure S rfl
 |e::es,d,s,h,S,V=>by
  show Ev X A s (do
   match op,<- isTrue e env (aG e env) with
   |.And,false=>pure false
   |.Or,true=>pure true
   |_,_=>allTrue op es env) _
  refine ah (GJ h) λc hc h=>?_
  ·refine Ev.bind (hf e c s hc S V) λb s1 S1 k1 e1=>?_;subst e1;cases op<;>induction b using d8
   ·have h_:=aj h;clear h;subst h_;exact Ev.pure S1 rfl
   ·exact xa hf es d s1 h S1 (V.keep k1.kb)
   ·exact xa hf es d s1 h S1 (V.keep k1.kb)
   ·have h_:=aj h;clear h;subst h_;exact Ev.pure S1 rfl
theorem vv {t b o:ab} {pos:Pos} {c:Bool} {Q:Value->ae->Prop} (h1:Ev X A s (isTrue t env (aG t env)) (λx ζ=>x=c)) (h2:∀s',ai X s'->af [] s s'->Ev X A s' (aG (if c then b else o) env) Q):Ev X A s (aG (.IfExp t b o pos) env) Q:=by
 refine wpAny_IfExp (aA h1 (λx s1 h_4=>aI h_4 λS1 k1 e1=>?_) λζ ζ f=>f);subst e1;have:=h2 s1 S1 k1
 induction x using d8
 ·exact aA this (λζ ζ h_5=>aI h_5 λq1 q2 q3=>⟨q1,k1.trans q2,q3⟩) λζ ζ f=>f
 ·exact aA this (λζ ζ h_6=>aI h_6 λq1 q2 q3=>⟨q1,k1.trans q2,q3⟩) λζ ζ f=>f
noncomputable def pq:ab->Bool
 |.Set .. =>false
 |_=>true
theorem zh {op:nS} {r:ab} (h:pq r=true):behindInMarks op r=false:=by
 induction r using bE<;>first|rfl|exact aZ h
theorem yV {O n sc σ} {e:ab} {d} (h:pa O n sc σ e=some d):pq e=true:=by
 induction n using e8 with
 |zero=>exact ac h
 |succ n=>
  induction e using bE<;>first|rfl|skip
  skip
  induction n using e8 with
  |zero=>exact ac h
  |succ n=>exact ac h
theorem LP {l r:ab} {op:nS} {pos:Pos} {a b:PV} {c:Bool} (R:aK A 2) (hr:pq r=true) (h1:Ev X A s (aG l env) (λv s'=>ao [] s'.heap a v)) (h2:∀s',ai X s'->af [] s s'->Ev X A s' (aG r env) (λv s'=>ao [] s'.heap b v)) (h:fE op a b=some c):Ev X A s (aG (.Compare l [op] [r] pos) env) (λv ζ=>v=.bool c):=by refine wpAny_Compare1 (aA h1 (λva s1 h_7=>aI h_7 λS1 k1 r1=>?_) λζ ζ f=>f) (zh hr);refine aA (h2 s1 S1 k1) (λvb s2 h_8=>aI h_8 λS2 k2 r2=>?_) λζ ζ f=>f;refine aA (zy S2 R (r1.keep k2.kb) r2 h) (λv s3 h_9=>aI h_9 λS3 k3 r3=>⟨S3,(k1.trans k2).trans k3,r3⟩) λζ ζ f=>f
theorem Ey {l r:ab} {op:nS} {pos:Pos} {w:bw Value} {a b:PV} {c:Bool} (R:aK A 2) (hr:pq r=true) (h1:Ev X A s (aG l env) (λv s'=>ao [] s'.heap a v)) (h2:∀s',ai X s'->af [] s s'->Ev X A s' (aG r env) (λv s'=>ao [] s'.heap b v)) (h:fE op a b=some c):Ev X A s (isTrue (.Compare l [op] [r] pos) env w) (λb ζ=>b=c):=by
 rw[arm_isTrue_Compare];refine Ev.bind h1 λva s1 S1 k1 r1=>?_;have e:markedEach [op] [r] (rT [r] env)=[aG r env]:=by refine (?_:[QQ op r (aG r env)]=_);unfold QQ;exact aa (zh hr) rfl
 refine aa e ?_
 show Ev X A s1 (do
  let rv <- holding [va] (aG r env)
  ea pos
  let c <- uG [va,rv] (lq op va rv)
  holding [c] (truthy c)) _
 refine Ev.bind (Ev.holding (h2 s1 S1 k1)) λvb s2 S2 k2 r2=>?_;refine Ev.bind (Ev.at (P:=λζ s'=>s'=s2) S2 rfl) λζ s3 S3 k3 e3=>?_;subst e3;refine Ev.bind (wR (zy S3 R (r1.keep k2.kb) r2 h)) λv s4 S4 k4 e4=>?_;subst e4;exact Ev.holding (wj (W:=[]) (d:=.bool c) S4 rfl rfl)
theorem NV {es:List ab} {pos:Pos} {ds:List PV} (V:am X sc env σ own P s.heap) (h:Ev X A s (ez (bZ pos (bY es env))) (λvs s'=>ax (P++ay own) s'.heap ds vs)) (hl:bt ds.length=true):Ev X A s (aG (.List es pos) env) (λv s'=>ao (P++ay own) s'.heap (.list ds) v):=
 QR (aA h (λvs s1 h_10=>aI h_10 λS1 k1 r1=>by
  have hle:vs.length<=sizeLine:=by refine aa r1.length ?_;exact eH hl
  exact i9 hle (S1.keep bK) (k1.trans (af.keep bK)) (qe (V.keep k1.kb).win r1 hle)) λζ ζ f=>f)
theorem EQ {es:List ab} {kd:Nat} {pos:Pos} {ds:List PV} (V:am X sc env σ own P s.heap) (h:Ev X A s (ez (bZ pos (bY es env))) (λvs s'=>ax (P++ay own) s'.heap ds vs)) (hl:bt ds.length=true):Ev X A s (aG (.Tuple es kd pos) env) (λv s'=>ao (P++ay own) s'.heap (.tup ds) v):=
 QS (aA h (λvs s1 h_11=>aI h_11 λS1 k1 r1=>by
  have hle:vs.length<=sizeLine:=by refine aa r1.length ?_;exact eH hl
  exact i9 hle (S1.keep bK) (k1.trans (af.keep bK)) (OU (V.keep k1.kb).win r1 hle)) λζ ζ f=>f)
theorem Fs {v:ab} {lo hi st:Option ab} {sp pos:Pos} {a d:PV} {cl ch cs:Option Int} (S:ai X s) (V:am X sc env σ own P s.heap) (h1:Ev X A s (aG v env) (λv s'=>ao (P++ay own) s'.heap a v)) (h2:∀s',ai X s'->af [] s s'->Ev X A s' (yl lo env) (λv ζ=>jV v cl)) (h3:∀s',ai X s'->af [] s s'->Ev X A s' (yl hi env) (λv ζ=>jV v ch)) (h4:∀s',ai X s'->af [] s s'->Ev X A s' (yl st env) (λv ζ=>jV v cs)) (h:eG a cl ch cs=some d):Ev X A s (aG (.Subscript v (.Slice lo hi st sp) pos) env) (λv s'=>ao (P++ay own) s'.heap d v):=by
 rw[QT];refine Ev.bind h1 λo s1 S1 k1 r1=>?_;have V1:=V.keep k1.kb;have hsl:Ev X A s1 (aG (.Slice lo hi st sp) env) (λi s2=>∃sl vl vu vs,i=.ref sl/\s2.heap.IsSliceOf sl vl vu vs/\jV vl cl/\jV vu ch/\jV vs cs):=by refine wpAny_Slice (aA (h2 s1 S1 k1) (λvl s2 h_12=>aI h_12 λS2 k2 p2=>?_) λζ ζ f=>f);refine aA (h3 s2 S2 (k1.trans k2)) (λvu s3 h_13=>aI h_13 λS3 k3 p3=>?_) λζ ζ f=>f;refine aA (h4 s3 S3 ((k1.trans k2).trans k3)) (λvs s4 h_14=>aI h_14 λS4 k4 p4=>?_) λζ ζ f=>f;exact⟨S4.keep bK,((k2.trans k3).trans k4).trans (af.keep bK),_,vl,vu,vs,rfl,⟨_,dH _ rfl,rfl,rfl⟩,p2,p3,p4⟩
 refine Ev.bind (Ev.holding hsl) λi s2 S2 k2 hi=>?_;obtain ⟨sl,vl,vu,vs,rfl,hs,p1,p2,p3⟩:=hi;have r2:=r1.keep k2.kb;exact Ce S2 r2 (Pc h) (Kh S2 (V1.keep k2.kb).win r2 hs p1 p2 p3 h)
theorem y2 {v i:ab} {pos:Pos} {a kk d:PV} {W W':List Addr} (hW:∀b,b∈W->b∈W') (h1:Ev X A s (aG v env) (λv s'=>ao W s'.heap a v)) (h2:∀s',ai X s'->af [] s s'->Ev X A s' (aG i env) (λv s'=>ao W' s'.heap kk v)) (h:fN a kk=some d):Ev X A s (aG (.Subscript v i pos) env) (λv s'=>ao W s'.heap d v):=by rw[QT];refine Ev.bind h1 λo s1 S1 k1 r1=>?_;refine Ev.bind (Ev.holding (h2 s1 S1 k1)) λiv s2 S2 k2 r2=>?_;have r3:=r1.keep k2.kb;exact Ce S2 r3 (Jw h) (Ki S2 r3 (r2.sub hW) h)
end
section
variable {X:Cx} {A:aO} {s:ae} {env:Env} {sc:Scope} {σ:Sg} {own:List (Str×Addr)} {P:List Addr} {O:Orc} {k n:Nat} {W V:List Addr}
theorem PC {r d:PV} {name:Str} {as:List PV} (h:cY r name as=some d):∃id,tC r name=some id:=by
 induction r using PV.casesOn with
 |str x=>
  induction as using aP with
  |nil=>delta cY at h;dsimp only at h;refine ifs h λq h=>?_;simp only[bF] at q;have hn:=bh q.1.1.1;exact⟨"str.split",by refine aa hn ?_;rfl⟩
  |cons a0 as=>
   induction a0 using PV.casesOn with
   |str y=>
    induction as using aP with
    |nil=>
     delta cY at h;dsimp only at h
     split at h
     ·rename_i q;have hn:=bh q;refine ifs h λq2 h=>?_;simp only[bF] at q2;exact⟨"str.split",by refine aa hn ?_;rfl⟩
     split at h
     ·rename_i q;have hn:=bh q;exact⟨"str.count",by refine aa hn ?_;rfl⟩
     split at h
     ·rename_i q;have hn:=bh q;exact⟨"str.startswith",by refine aa hn ?_;rfl⟩
     split at h
     ·rename_i q;have hn:=bh q;exact⟨"str.endswith",by refine aa hn ?_;rfl⟩
     exact ac h
    |cons a1 as=>
     induction a1 using PV.casesOn with
     |int i=>
      induction as using aP with
      |nil=>exact ac h
      |cons a2 as=>
       induction a2 using PV.casesOn with
       |int j=>
        induction as using aP with
        |nil=>delta cY at h;dsimp only at h;refine ifs h λq h=>?_;simp only[bF,decide_eq_true_eq] at q;have hn:=bh q.1.1.1.1;exact⟨"str.find",by refine aa hn ?_;rfl⟩
        |cons _ _=>exact ac h
       |_=>exact ac h
     |_=>exact ac h
   |list ys=>
    induction as using aP with
    |nil=>
     delta cY at h;dsimp only at h;refine ifs h λq h=>?_;have hn:=bh q
     set_option smartUnfolding false in refine om h λl' hl' h=>?_
     refine ifs h λq2 h=>?_;simp only[bF] at q2;exact⟨"str.join",by refine aa hn ?_;rfl⟩
    |cons _ _=>exact ac h
   |_=>exact ac h
 |_=>exact ac h
theorem zu {o:ab} {name:Str} {m:bw Value} (h:ke o=false):DH o name env m=m:=by
 induction o using bE with
 |Call f a k p=>
  induction f using bE with
  |Name id q=>
   induction a using aP with
   |nil=>
    induction k using aP with
    |nil=>exact dz h
    |cons _ _=>rfl
   |cons _ _=>rfl
  |_=>rfl
 |_=>rfl
theorem xi {pos:Pos}:∀{es:List ab},(∀e∈es,dT e=true)->(bZ pos (bY es env)).all (λx=> !x.1)=true
 |[],_=>rfl
 |e::r,h=>by rewrite[qj (h e (.head _))];refine aa qq ?_;simp only[mM,Bool.not_false,Dn];exact xi λx hx=>h x (.tail _ hx)
theorem ss {o:ab} {name:Str} {apos pos:Pos} {args:List ab} {id:String} {Q:List Value->ae->Prop} {QO QF:Value->ae->Prop} (h0:ke o=false) (hp:(apos.endLine==pos.line)=true) (hl:args.length<30) (hn:∀e∈args,dT e=true) (h1:Ev X A s (aG o env) QO) (hg:∀ov s1 pl (Q:Value×List Value->ae->Prop),ai X s1->af [] s s1->QO ov s1->Q (.builtin id,[ov]) s1->aq (aw X.prog X.w) A (mI ov name pl) Q (λζ ζ=>False) s1) (he:∀ov s',ai X s'->af [] s s'->QO ov s'->Ev X A s' (ez (bZ pos (bY args env))) Q) (hc:∀ov vs s1 s2,ai X s1->af [] s s1->QO ov s1->ai X s2->af [] s1 s2->Q vs s2->Ev X A s2 (call (.builtin id) (ov::vs)) QF):Ev X A s (aG (.Call (.Attribute o name apos) args [] pos) env) QF:=by
 refine (?_:Ev X A s (DH o name env (aG o env)>>=λov=>ea apos.atName>>=λζ=>ym o name apos pos env ov (args.length+0) (bZ pos (bY args env)) []) _);refine aa (zu h0) ?_;refine Ev.bind h1 λov s1 S1 k1 r1=>?_;refine Ev.bind (Ev.at (P:=λζ s'=>s'=s1) S1 rfl) λζ s2 S2 k2 e2=>?_;subst e2;have hf:yn (args.length+0) (bZ pos (bY args env)) []=true:=by unfold yn;refine aa (xi hn) ?_;exact decide_eq_true hl
 unfold ym;refine aa hf ?_;have hcal:∀ov,calleeOf true o env ov name=mI ov name (do return (<- QU o env).getD true):=λζ=>rfl;rw[hcal];refine ak (fi (hg ov s2 _ _ S2 k1 r1 ?_));have hpos:rU true o env apos pos=pure pos:=by unfold rU;refine aa hp ?_;rfl
 refine (?_:aq _ A (rU true o env apos pos>>=_) _ _ s2);refine aa hpos ?_;refine ak (aS ?_);exact vQ (λa q=>by cases q) hn (he ov s2 S2 k1 r1) λvs s' S' k' q=>hc ov vs s2 s' S2 k1 r1 S' k' q
theorem sK {o:ab} {name:Str} {apos pos:Pos} {args:List ab} {r d:PV} {ds:List PV} (R:aK A 2) (w:cy W s.heap) (h0:ke o=false) (hp:(apos.endLine==pos.line)=true) (hl:args.length<30) (hn:∀e∈args,dT e=true) (h1:Ev X A s (aG o env) (λv s'=>ao V s'.heap r v)) (he:∀s',ai X s'->af [] s s'->Ev X A s' (ez (bZ pos (bY args env))) (λvs s2=>ax V s2.heap ds vs)) (h:cY r name ds=some d):Ev X A s (aG (.Call (.Attribute o name apos) args [] pos) env) (λv s'=>ao W s'.heap d v):=by refine aE (PC h) λid hid=>?_;refine ss (id:=id) h0 hp hl hn h1 (λov s1 pl Q ζ ζ r1 q=>zc r1 hid q) (λov s' S' k' ζ=>he s' S' k') λov vs s1 s2 S1 k1 r1 S2 k2 r2=>?_;refine ah (KT (W:=W) S2 R ((w.step k1).step k2) (r1.keep k2.kb) r2 h) λid' hid' hc=>?_;replace hid':=hid▸hid';have h_:=aj hid';clear hid';subst h_;exact hc
theorem OZ {x:Str} {xp apos pos:Pos} {args:List ab} {d:PV} {ds:List PV} (OK:bq X O k) (S:ai X s) (VV:am X sc env σ own P s.heap) (R:aK A 2) (hg:bS sc x=true) (w:cy V s.heap) (hp:(apos.endLine==pos.line)=true) (hl:args.length<30) (hn:∀e∈args,dT e=true) (hd:d.flat=true) (he:∀s',ai X s'->af [] s s'->Ev X A s' (ez (bZ pos (bY args env))) (λvs s2=>ax V s2.heap ds vs)) (h:O.dget x ds=some d):Ev X A s (aG (.Call (.Attribute (.Name x xp) "get" apos) args [] pos) env) (λv s'=>ao W s'.heap d v):=by
 obtain ⟨hnm,da,hm,hgm,hc⟩:=OK.dget x ds d h;refine ss (id:= "dict.get") (QO:=λov ζ=>ov=.ref da) rfl hp hl hn ((oV S VV hg hnm (.inl hm)).mono λζ ζ ζ ζ q=>q.1) (λov s1 pl Q S1 ζ r1 q=>?_) (λov s' S' k' ζ=>he s' S' k') λov vs s1 s2 S1 k1 r1 S2 k2 r2=>?_
 ·subst r1;exact hgm A s1 pl Q _ S1 q
 ·subst r1;exact (hc A s2 V vs R S2 ((w.step k1).step k2) r2).mono λv s' ζ ζ rv=>rv.flat hd
end
section
variable {X:Cx} {A:aO} {s s':ae} {env:Env} {sc:Scope} {σ σ':Sg} {own:List (Str×Addr)} {P P' V:List Addr} {O:Orc} {k n:Nat} {W:List Addr}
theorem am.weaken (VV:am X sc env σ' [] P s.heap) (h:∀x e,σ.lookup x=some e->σ'.lookup x=some e):am X sc env σ [] P s.heap:=
 {VV with
  vars:=λx d e=>VV.vars x d (h x _ e)
  owns:=λx xs e=>VV.owns x xs (h x _ e)}
theorem am.move {h h':Heap} (VV:am X sc env σ [] P h) (k:Kb V h h') (hv:∀b∈V,b∈P\/h.get? b=none\/∀o,h.get? b=some o->∀its n,o.data≠.seq its n) (hl:env.locals∉V) (hc:∀x c,(x,c)∈env.cells->c∉V) (hp:∀b∈P',∃o,h'.get? b=some o/\cK o=false) (hs:∀b∈P',b∈P\/h.get? b=none):am X sc env σ [] P' h':=
 have e0:∀Q:List Addr,Q++ay []=Q:=λQ=>jw Q
 have rep:∀{d v},ao (P++ay []) h d v->ao (P'++ay []) h' d v:=λ{d v} r=>by
  rw[e0] at r⊢
  exact ao.kb k hv hs d v r
 have va:∀{x v},dO env h x v->dO env h' x v:=λ{x v} r=>by
  rcases r with ⟨h1,m,n,h2⟩|⟨h1,c,e,h2⟩
  ·exact .inl ⟨h1,m,nv n k hl,h2⟩
  ·exact .inr ⟨h1,c,e,jb h2 k (hc x c (cm e))⟩
 {VV with
  pin:=hp
  ns:=aE VV.ns λm n=>⟨m,nv n k hl⟩
  cells:=λx c hm=>aE (VV.cells x c hm) λv n=>⟨v,jb n k (hc x c hm)⟩
  vars:=λx d e=>ah (VV.vars x d e) λv h1 h2=>⟨v,va h1,rep h2⟩
  owns:=λx xs e=>by refine jQ (VV.owns x xs e) λa vs n h1 ζ=>?_;exact ac h1
  ownA:=λx y a h=>nomatch h
  ownF:=λx a h=>nomatch h
  ownU:=λx a b h=>nomatch h
  ownP:=λx a h=>nomatch h}
noncomputable def kf (D:Addr) (P:List Addr) (acc:List PV) (s:ae):Prop:=∃vs n,s.heap.get? D=some {cls:=.type "list",data:=.seq vs.toArray n}/\ax P s.heap acc vs
theorem kf.move {D:Addr} {acc:List PV} (a:kf D P acc s) (k:Kb V s.heap s'.heap) (hv:∀b∈V,b∈P\/s.heap.get? b=none\/∀o,s.heap.get? b=some o->∀its n,o.data≠.seq its n) (hD:D∉V) (hs:∀b∈P',b∈P\/s.heap.get? b=none):kf D P' acc s':=by refine bR a λvs n e r=>?_;clear a;exact gE vs n (k D _ hD rfl e) (ax.kb k hv hs acc vs r)
theorem bG.trans {wr gm s s' s''} (a:bG wr gm s s') (b:bG wr gm s' s''):bG wr gm s s'':=
 ⟨a.kb.trans b.kb,λx o hx e=>aE (a.th x o hx e) λo1 e1=>b.th x o1 hx e1,al a.gsz b.gsz,λi hi=>(b.gk i hi).trans (a.gk i hi)⟩
theorem bG.mono {wr wr' gm gm' s s'} (a:bG wr gm s s') (h:∀b∈wr,b∈wr') (hg:gm'<=gm):bG wr' gm' s s':=
 ⟨a.kb.mono h,λx o hx e=>a.th x o (λq=>hx (h x q)) e,a.gsz,λi hi=>a.gk i (b9 hi hg)⟩
theorem bG.of {wr gm s s'} (a:jM wr gm s s'):bG wr gm s s':=⟨a.kb,λx o ζ e=>a.th x o e,a.gsz,a.gk⟩
theorem bG.drop {wr wr' gm s s'} (a:bG wr gm s s') (h:∀b∈wr,b∈wr'\/s.heap.get? b=none):bG wr' gm s s':=
 have ne:∀b o,b∉wr'->s.heap.get? b=some o->b∉wr:=λb o hb e q=>(h b q).elim hb λz=>by replace e:=z▸e;exact ac e
 ⟨λb o hb ht e=>a.kb b o (ne b o hb e) ht e,λb o hb e=>a.th b o (ne b o hb e) e,a.gsz,a.gk⟩
theorem HQ {D:Addr} {acc:List PV} {d:PV} {v:Value} {Q:Value->ae->Prop} (S:ai X s) (hD0:X.h0.get? D=none) (hDP:D∈P) (a:kf D P acc s) (r:ao P s.heap d v) (hl:acc.length+1<=sizeLine) (h:∀s',ai X s'->bG [D] s.gens.size s s'->kf D P (acc++[d]) s'->s'.gens=s.gens->(∃o,s'.heap.get? D=some o/\cK o=false)->Q .none s'):aq (aw X.prog X.w) A (call (.builtin "list.append") [.ref D,v]) Q (λζ ζ=>False) s:=by
 refine bR a λvs n e rl=>?_;clear a;have hle:vs.toArray.size<=sizeLine:=by have:=rl.length;simp;exact Km hl this
 refine QW (items:=vs.toArray) ⟨n,e⟩ (λh' hp hs=>?_) hle;refine aE hp λn' e'=>?_;clear hp;have e2:vs.toArray.push v=(vs++[v]).toArray:=by simp
 replace e':=e2▸e';have kb:Kb [D] s.heap h':=λb o hb ζ q=>(hs.2 b (λz=>hb (cN.mpr (by assumption)))).trans q;have hv:∀b∈[D],b∈P\/s.heap.get? b=none\/∀o,s.heap.get? b=some o->∀its n,o.data≠.seq its n:=λb hb=>by simp at hb;exact .inl (hb▸hDP)
 refine h _ (S.same hD0 (λo q=>by replace q:=e▸q;have h_:=aj q;clear q;subst h_;exact dJ rfl (by decide)) hs) (nt (tk:=s.toks) hs) ⟨vs++[v],n',e',?_⟩ rfl ⟨_,e',rfl⟩;exact ax.kb kb hv (λb hb=>.inl hb) _ _ (rl.append (ax.one r))
theorem te {f:ab->Option Bool} (hf:∀e c s,f e=some c->ai X s->am X sc env σ own P s.heap->Ev X A s (isTrue e env (aG e env)) (λb ζ=>b=c)):∀(es:List ab) (c0 c:Bool) (s:ae),(c0=true->j9 f es=some c)->(c0=false->c=false)->ai X s->am X sc env σ own P s.heap->
   Ev X A s (lA es c0 λc r=>if r=true then do let ok <- isTrue c env (aG c env);pure (mN ok) else pure (mN r)) (λb ζ=>b=c)
 |[],c0,c,s,h,h',S,VV=>by
  refine aa uS ?_
  induction c0 using d8
  ·exact Ev.pure S (h' rfl).symm
  ·exact Ev.pure S (aj (show some true=some c from h rfl))
 |e::es,c0,c,s,h,h',S,VV=>by
  rw[rS]
  induction c0 using d8
  ·refine ak ?_;rw[if_neg (by decide)];exact aS (te hf es false c s (λq=>aZ q) h' S VV)
  ·have h1:=h rfl;refine aa (if_pos rfl) ?_;have h1:(match f e with|some true=>j9 f es|some false=>some false|none=>none)=some c:=h1;refine xJ h1 (λh2 h1=>?_) λh2 h1=>?_
   ·refine ak (ak (aA (hf e true s h2 S VV) (λb s1 h_0=>aI h_0 λS1 k1 e1=>?_) λζ ζ f=>f));subst e1;exact aS (aA (te hf es true c s1 (λζ=>h1) (λq=>dz q) S1 (VV.keep k1.kb)) (λζ ζ h_1=>aI h_1 λq1 q2 q3=>⟨q1,k1.trans q2,q3⟩) λζ ζ f=>f)
   ·have h_:=aj h1;clear h1;subst h_;refine ak (ak (aA (hf e false s h2 S VV) (λb s1 h_2=>aI h_2 λS1 k1 e1=>?_) λζ ζ f=>f));subst e1;exact aS (aA (te hf es false false s1 (λq=>aZ q) (λζ=>rfl) S1 (VV.keep k1.kb)) (λζ ζ h_3=>aI h_3 λq1 q2 q3=>⟨q1,k1.trans q2,q3⟩) λζ ζ f=>f)
theorem zx:∀(n:Nat) (σ:Sg) (t:ab) (d:PV) (σ':Sg),bu true sc n σ t d=some σ'->∀x e,σ.lookup x=some e->σ'.lookup x=some e
 |0,_,_,_,_,h=>ac h
 |n+1,σ,t,d,σ',h=>by
  have hL:∀(ts:List ab) (xs:List PV) (σ σ':Sg),gA (bu true sc n) σ ts xs=some σ'->∀x e,σ.lookup x=some e->σ'.lookup x=some e:=by
   intro ts
   induction ts with
   |nil=>
    intro xs σ σ' h x e q
    induction xs using aP with
    |nil=>have h:=aj h;subst h;exact q
    |cons=>exact ac h
   |cons t ts ih=>
    intro xs σ σ' h x e q
    induction xs using aP with
    |nil=>exact ac h
    |cons y ys=>
     have h:(match bu true sc n σ t y with|some σ'=>gA (bu true sc n) σ' ts ys|none=>none)=some σ':=h;cases h1:bu true sc n σ t y with
     |none=>replace h:=h1▸h;exact ac h
     |some σ1=>replace h:=h1▸h;exact ih ys σ1 σ' h x e (zx n σ t y σ1 h1 x e q)
  induction t using bE with
  |Name y p=>
   have h:(if (bb sc y&&(!true||(σ.lookup y).isNone))=true then some (put σ y (.sh d)) else none)=some σ':=h
   by_cases hx:(bb sc y&&(!true||(σ.lookup y).isNone))=true
   ·replace h:=(if_pos hx)▸h;have h:=aj h;subst h;intro x e q;simp only[bF,Bool.not_true,DD,Option.isNone_iff_eq_none] at hx;rw[dp,if_neg (λz=>by (replace q:=z▸q;replace q:=hx.2▸q);exact ac q)];exact q
   ·replace h:=(if_neg hx)▸h;exact ac h
  |Tuple ts tn tp=>
   induction d using PV.casesOn with
   |tup xs=>exact hL _ _ _ _ h
   |list xs=>exact hL _ _ _ _ h
   |_=>exact ac h
  |_=>exact ac h
noncomputable def o9 (g:c8) (env:Env) (it:Value) (loop:bw Fin) (body:bw Fin):bw Fin:=do
 ea g.iter.pos
 match <- f8 it with
 |none=>pure (.done .next)
 |some v=>
  ly g.target it v
  jv g.target env v
  let ok <- lA g.ifs true λc r=>if r=true then do let ok <- isTrue c env (aG c env);pure (mN ok) else pure (mN r)
  if ok then body else loop
theorem Fb (elt:ab) (gens:List c8) (scp:Scope) (pos:Pos) (depth:Nat) (it acc:Value) (env:Env) (g:c8) (hg:gens[depth]?=some g) (ha:(g.is_async==0)=true) (hgs:gens[depth+1]?=none):rV (.ListComp elt gens scp pos) depth it acc env=o9 g env it (again (.compLoop (.ListComp elt gens scp pos) depth it acc env))
   ((do let _ <- call (.builtin "list.append") [acc,<- aG elt env])>>=λ(_:Unit)=>again (.compLoop (.ListComp elt gens scp pos) depth it acc env)):=by
 have h1:(g.is_async != 0)=false:=by simp only[bne,ha];rfl
 unfold rV;simp only[hg,hgs,h1];rfl
theorem Pa (elt:ab) (gens:List c8) (scp:Scope) (pos:Pos) (depth:Nat) (it acc:Value) (env:Env) (g g':c8) (hg:gens[depth]?=some g) (ha:(g.is_async==0)=true) (hgs:gens[depth+1]?=some g') (ha':(g'.is_async==0)=true):rV (.ListComp elt gens scp pos) depth it acc env=o9 g env it (again (.compLoop (.ListComp elt gens scp pos) depth it acc env)) (do
   let x <- aG g'.iter env
   ea g'.iter.pos
   let x <- pR g'.iter env x
   let _ <- DI (.compStart (.ListComp elt gens scp pos) (depth+1) (<- holding [x] (f9 x)) acc env) env
   again (.compLoop (.ListComp elt gens scp pos) depth it acc env)):=by
 have h1:(g.is_async != 0)=false:=by simp only[bne,ha];rfl
 have h2:(g'.is_async != 0)=false:=by simp only[bne,ha'];rfl
 unfold rV;simp only[hg,hgs,h1,h2];rfl
end
structure Lp where
 X:Cx
 A:aO
 sc:Scope
 env:Env
 P:List Addr
 D:Addr
 tgt:ab
 it:Value
 xs:List PV
 cs:List PV
 cvs:List Value
 St:Nat->ae->Prop
 fp:List Addr
 wr:List Addr
 gm:Nat
 s0:ae
structure g7 (L:Lp):Prop where
 it:ix L.X L.A L.tgt L.it L.xs L.cs L.cvs L.St L.fp L.wr L.gm
 D0:L.X.h0.get? L.D=none
 DP:L.D∈L.P
 fp:∀b∈L.fp,b∉L.P/\b∉aV L.sc L.env []
 Dl:L.D≠L.env.locals
 Dc:∀x,(x,L.D)∉L.env.cells
 wl:∀b∈L.wr,b≠L.env.locals/\∀x,(x,b)∉L.env.cells
 gm:L.gm<=L.s0.gens.size
 hh:L.A.handled=none
structure cO (L:Lp) (σ:Sg) (j:Nat) (acc:List PV) (s:ae):Prop where
 S:ai L.X s
 V:am L.X L.sc L.env σ [] (L.wr++L.P) s.heap
 st:L.St j s
 cs:ax (L.wr++L.P) s.heap L.cs L.cvs
 acc:kf L.D (L.wr++L.P) acc s
 stp:bG (L.D::(aV L.sc L.env []++L.wr)) L.gm L.s0 s
section
variable {L:Lp} {σ σ':Sg} {j:Nat} {acc acc':List PV} {s s':ae} {wr':List Addr}
theorem g7.Dw (K:g7 L):L.D∉L.wr:=λq=>(K.fp L.D (K.it.sub L.D q)).1 K.DP
theorem cO.gm (K:g7 L) (F:cO L σ j acc s):L.gm<=s.gens.size:=al K.gm F.stp.gsz
theorem cO.D_out (K:g7 L) (F:cO L σ j acc s):L.D∉aV L.sc L.env []:=λq=>by
 unfold aV at q;rcases av.mp q with q|q
 ·exact K.Dl q
 ·rcases bo.mp q with q|q
  ·refine ah (er q) λx hm ζ=>?_;exact K.Dc x hm
  ·exact nomatch q
theorem cO.go (K:g7 L) (F:cO L σ j acc s) (S':ai L.X s') (V':am L.X L.sc L.env σ' [] (L.wr++L.P) s'.heap) (a':kf L.D (L.wr++L.P) acc' s') (k:bG (L.D::(aV L.sc L.env []++wr')) s.gens.size s s') (hw:∀b∈wr',s.heap.get? b=none):cO L σ' j acc' s' where
 S:=S'
 V:=V'
 acc:=a'
 st:=K.it.frame j s s' F.st k.gsz (λb hb o e=>by
  refine ah (K.it.live j s F.st b hb) λo' e' ht=>?_;replace e':=e▸e';have h_:=aj e';clear e';subst h_;refine k.kb b o (λq=>?_) ht e;rcases av.mp q with q|q
  ·exact (K.fp b hb).1 (q▸K.DP)
  ·rcases bo.mp q with q|q
   ·exact (K.fp b hb).2 q
   ·replace e:=(hw b q)▸e;exact ac e) k.gk
 cs:=ax.kb k.kb (λb hb=>by
  rcases av.mp hb with q|q
  ·exact .inl (q▸bO _ K.DP)
  ·rcases bo.mp q with q|q
   ·exact (F.V.wseq b q).imp_left λz=>by simpa [ay] using z
   ·exact .inr (.inl (hw b q))) (λb hb=>.inl hb) _ _ F.cs
 stp:=F.stp.trans ((k.drop (wr':=L.D::(aV L.sc L.env []++L.wr)) λb hb=>by
  rcases av.mp hb with q|q
  ·exact .inl (q▸js)
  ·rcases bo.mp q with q|q
   ·exact .inl (cg _ (bI _ q))
   ·exact .inr (hw b q)).mono (λb hb=>hb) (F.gm K))
theorem cO.keep (K:g7 L) (F:cO L σ j acc s) (S':ai L.X s') (k:af [] s s'):cO L σ j acc s':=
 F.go (wr':=[]) K S' (F.V.keep k.kb) (F.acc.move k.kb (λζ q=>nomatch q) (λq=>nomatch q) λb hb=>.inl hb) ((bG.of k).mono (λb hb=>nomatch hb) (bf _)) λζ q=>nomatch q
theorem cO.asg (K:g7 L) (F:cO L σ j acc s) {own':List (Str×Addr)} (S':ai L.X s') (k:af (aV L.sc L.env []) s s') (ho:∀p∈own',p∈([]:List (Str×Addr))) (V':am L.X L.sc L.env σ' own' (L.wr++L.P) s'.heap):cO L σ' j acc s':=by have e:own'=[]:=List.eq_nil_iff_forall_not_mem.mpr λp hp=>nomatch ho p hp;subst e;refine F.go (wr':=[]) K S' V' (F.acc.move k.kb (λb hb=>(F.V.wseq b hb).imp_left λz=>by simpa [ay] using z) (F.D_out K) λb hb=>.inl hb) ((bG.of k).mono (λb hb=>?_) (bf _)) λζ q=>nomatch q;exact cg _ (bI _ hb)
theorem cO.item (K:g7 L) (F:cO L σ j acc s) {d:PV} {Q:Option Value->ae->Prop} (hd:L.xs[j]?=some d) (h:∀v s1,aq (aw L.X.prog L.X.w) L.A (ly L.tgt L.it v) (λζ s'=>cO L σ (j+1) acc s'/\ao (L.wr++L.P) s'.heap d v) (λζ ζ=>False) s1->Q (some v) s1):aq (aw L.X.prog L.X.w) L.A (f8 L.it) Q (λζ ζ=>False) s:=by
 have e0:(L.wr++L.P)++ay []=L.wr++L.P:=jw _;have hwin:cy (L.wr++L.P) s.heap:=e0▸F.V.win;refine aA (K.it.item j d (L.wr++L.P) s hd F.st F.S hwin F.cs (λb hb=>bI _ hb)) (λr s1 h_0=>ah h_0 λv e q=>?_) λζ ζ f=>f;subst e;refine h v s1 (aA q (λζ s' h_1=>gq h_1 λr st S' k=>⟨?_,r⟩) λζ ζ f=>f);have hv:∀b∈L.wr,b∈L.wr++L.P\/s.heap.get? b=none\/∀o,s.heap.get? b=some o->∀its n,o.data≠.seq its n:=λb hb=>.inl (bI _ hb)
 refine⟨S',F.V.move k.kb hv (λq=>(K.wl _ q).1 rfl) (λx c hm q=>(K.wl c q).2 x hm) (λb hb=>?_) (λb hb=>.inl hb),st,ax.kb k.kb hv (λb hb=>.inl hb) _ _ F.cs,
  F.acc.move k.kb hv K.Dw (λb hb=>.inl hb),F.stp.trans (k.mono (λb hb=>?_) (bf _))⟩
 ·rcases bo.mp hb with q|q
  ·exact K.it.live _ _ st b (K.it.sub b q)
  ·refine ah (F.V.pin b hb) λo e ht=>?_;exact az o (k.kb b o (λz=>(K.fp b (K.it.sub b z)).1 q) ht e) ht
 ·exact cg _ (bO _ hb)
structure oI (L:Lp) (σ:Sg) (acc:List PV) (s:ae):Prop where
 S:ai L.X s
 V:am L.X L.sc L.env σ [] L.P s.heap
 acc:kf L.D L.P acc s
 stp:bG (L.D::(aV L.sc L.env []++L.wr)) L.gm L.s0 s
theorem cO.done (K:g7 L) (F:cO L σ L.xs.length acc s) {Q:Option Value->ae->Prop} (h:∀s',oI L σ acc s'->Q none s'):aq (aw L.X.prog L.X.w) L.A (f8 L.it) Q (λζ ζ=>False) s:=by
 refine aA (K.it.done s F.st F.S) (λr s' h_2=>aI h_2 λe S' k=>?_) λζ ζ f=>f;subst e;have hv:∀b∈L.wr,b∈L.wr++L.P\/s.heap.get? b=none\/∀o,s.heap.get? b=some o->∀its n,o.data≠.seq its n:=λb hb=>.inl (bI _ hb)
 refine h s' ⟨S',F.V.move k.kb hv (λq=>(K.wl _ q).1 rfl) (λx c hm q=>(K.wl c q).2 x hm) (λb hb=>?_) (λb hb=>.inl (bO _ hb)),F.acc.move k.kb hv K.Dw (λb hb=>.inl (bO _ hb)),
  F.stp.trans (k.mono (λb hb=>?_) (bf _))⟩
 ·refine ah (F.V.pin b (bO _ hb)) λo e ht=>?_;exact az o (k.kb b o (λz=>(K.fp b (K.it.sub b z)).1 hb) ht e) ht
 ·exact cg _ (bO _ hb)
theorem cO.push (K:g7 L) (F:cO L σ j acc s) {d:PV} {v:Value} {Q:Value->ae->Prop} (r:ao (L.wr++L.P) s.heap d v) (hl:acc.length+1<=sizeLine) (h:∀s',cO L σ j (acc++[d]) s'->Q .none s'):aq (aw L.X.prog L.X.w) L.A (call (.builtin "list.append") [.ref L.D,v]) Q (λζ ζ=>False) s:=
 HQ F.S K.D0 (bO _ K.DP) F.acc r hl λs' S' k a' hg hex=>h s' (F.go (wr':=[]) K S'
  (F.V.move k.kb (λb hb=>.inl (by simp at hb;exact hb▸bO _ K.DP)) (λq=>K.Dl (by simp at q;exact q.symm)) (λx c hm q=>K.Dc x (by simp at q;exact q▸hm)) (λb hb=>by
   by_cases q:b=L.D
   ·exact q▸hex
   ·refine ah (F.V.pin b hb) λo e ht=>?_;exact az o (k.kb b o (by simp[q]) ht e) ht) λb hb=>.inl hb) a' (k.mono (λb hb=>by simp at hb;exact hb▸js) (bf _)) λζ q=>nomatch q)
end
noncomputable def ui (O:Orc) (n:Nat):Prop:=∀(L:Lp) (σ:Sg) (elt:ab) (gens:List c8) (scp:Scope) (pos:Pos) (depth:Nat) (g:c8) (gs:List c8) (ys acc:List PV) (s:ae),
 bT O n L.sc σ elt g gs L.xs=some ys->gens.drop depth=g::gs->L.tgt=g.target->g7 L->cO L σ 0 acc s->acc.length+ys.length<=sizeLine->
 (∀m,m<n->gi L.X L.A O m/\jj L.X L.A O m/\kX L.X L.A O m)->
 lB (aw L.X.prog L.X.w) L.A (.compLoop (.ListComp elt gens scp pos) depth L.it (.ref L.D) L.env) (λr s'=>r=.ok .next/\oI L σ (acc++ys) s') s
theorem OO {α:Type} {l:List α} {d:Nat} {g:α} {gs:List α} (h:l.drop d=g::gs):l[d]?=some g/\l.drop (d+1)=gs/\l[d+1]?=gs.head?:=by
 have h1:l[d]?=some g:=by have:=congrArg List.head? h;simpa [DJ] using this
 have h2:l.drop (d+1)=gs:=by
  have:(l.drop d).drop 1=gs:=by refine aa h ?_;rfl
  replace this:=mO▸this;exact this
 exact fx h1 h2 (aH h2 (aa DJ rfl))
section
variable {L:Lp} {σ:Sg} {j:Nat} {acc:List PV} {s:ae} {O:Orc} {n:Nat}
theorem Fh {g:c8} {loop body:bw Fin} {Post:Fin->ae->Prop} {d:PV} {σ':Sg} {c:Bool} (K:g7 L) (F:cO L σ j acc s) (ht:L.tgt=g.target) (hd:L.xs[j]?=some d) (hT:jj L.X L.A O n) (h1:bu true L.sc 4 σ g.target d=some σ') (h2:j9 (pT O n L.sc σ') g.ifs=some c) (hb:∀s',cO L σ' (j+1) acc s'->aq (aw L.X.prog L.X.w) L.A (if c then body else loop) Post (λζ ζ=>False) s'):aq (aw L.X.prog L.X.w) L.A (o9 g L.env L.it loop body) Post (λζ ζ=>False) s:=by unfold o9;refine ak (eb (ak (F.item K hd λv s1 hlet=>?_)));simp only;refine ak ?_;refine aH ht ?_;refine aA hlet (λζ s2 h_=>be h_ λF2 r2=>?_) λζ ζ f=>f;have e0:∀Q:List Addr,Q++ay []=Q:=λQ=>jw Q;refine ak ?_;refine aa ht ?_;refine aA (nH K.hh 4 σ g.target d σ' s2 [] v h1 F2.S F2.V (by rw[e0];exact r2)) (λζ s3 h_=>dS h_ λown' S3 k3 ho V3=>?_) λζ ζ f=>f;have F3:=F2.asg K S3 k3 ho V3;refine ak ?_;refine aA (te (P:=L.wr++L.P) (own:=[]) (σ:=σ') (sc:=L.sc) (f:=pT O n L.sc σ') (λe c s q1 q2 q3=>hT L.sc σ' L.env [] (L.wr++L.P) e c s q1 q2 q3) g.ifs true c s3 (λζ=>h2) (λq=>dz q) F3.S F3.V) (λb s4 h_=>aI h_ λS4 k4 e4=>?_) λζ ζ f=>f;subst e4;exact hb s4 (F3.keep K S4 k4)
set_option tactic.hygienic true in
theorem Gy {asg:Sg->PV->Option Sg} {tst:Sg->Option Bool} {body:Sg->Option (List PV)} {d:PV} {ds:List PV} {ys:List PV} (h:ie asg tst body (d::ds) σ=some ys):∃σ' c,asg σ d=some σ'/\tst σ'=some c/\((c=true/\∃r q,body σ'=some r/\ie asg tst body ds σ=some q/\ys=r++q)\/(c=false/\ie asg tst body ds σ=some ys)):=by
 rw[CZ] at h
 split at h
 ·exact ac h
 ·rename_i σ' h1
  split at h
  ·exact ac h
  ·rename_i h2
   set_option smartUnfolding false in refine j2 h λr q h3 h4 h=>?_
   have h_:=aj h;clear h;subst h_;exact gF σ' true h1 h2 (.inl ⟨rfl,r,q,h3,h4,rfl⟩)
  ·rename_i h2;exact gF σ' false h1 h2 (.inr ⟨rfl,h⟩)
theorem y5 {elt:ab} {gens:List c8} {scp:Scope} {pos:Pos} {depth:Nat} {g:c8} {ys:List PV} {body:bw Fin} {pb:Sg->Option (List PV)} (K:g7 L) (F:cO L σ 0 acc s) (ht:L.tgt=g.target) (hT:jj L.X L.A O n) (he:rV (.ListComp elt gens scp pos) depth L.it (.ref L.D) L.env=o9 g L.env L.it (again (.compLoop (.ListComp elt gens scp pos) depth L.it (.ref L.D) L.env)) body) (hp:ie (λσ d=>bu true L.sc 4 σ g.target d) (λσ=>j9 (pT O n L.sc σ) g.ifs) pb L.xs σ=some ys) (hlen:acc.length+ys.length<=sizeLine) (hb:∀σ' r j acc' s',pb σ'=some r->cO L σ' j acc' s'->acc'.length+r.length<=sizeLine->aq (aw L.X.prog L.X.w) L.A body (λfin s''=>fin=.again (.compLoop (.ListComp elt gens scp pos) depth L.it (.ref L.D) L.env)/\cO L σ' j (acc'++r) s'') (λζ ζ=>False) s'):lB (aw L.X.prog L.X.w) L.A (.compLoop (.ListComp elt gens scp pos) depth L.it (.ref L.D) L.env) (λr s'=>r=.ok .next/\oI L σ (acc++ys) s') s:=by
 refine codeAny_loop rfl (λm s'=>∃i r acc',i+m=L.xs.length/\ie (λσ d=>bu true L.sc 4 σ g.target d) (λσ=>j9 (pT O n L.sc σ) g.ifs) pb (L.xs.drop i) σ=some r/\acc'++r=acc++ys/\cO L σ i acc' s')
  (λm s1 h=>?_) L.xs.length ⟨0,ys,acc,e9 _,by simpa using hp,rfl,F⟩
 refine (?_:aq _ L.A ((rV (.ListComp elt gens scp pos) depth L.it (.ref L.D) L.env).onRaise (λx=>do uW x L.env;yo x)) _ _ s1);refine wpAny_noted ?_;refine aa he ?_;refine rE h λi r acc' hi hr hacc F1=>?_;clear h
 induction m using e8 with
 |zero=>have hi:i=L.xs.length:=MA hi;subst hi;replace hr:=yp▸hr;simp only[ie,QX] at hr;subst hr;unfold o9;refine ak (eb (ak (aA (F1.done K λs' h=>?_) (λζ ζ q=>q) λζ ζ f=>f.elim)));rw[jw] at hacc;exact aS ⟨rfl,hacc▸h⟩
 |succ m=>
  have hlt:i<L.xs.length:=wv hi;replace hr:=(lz hlt)▸hr;refine bJ (Gy hr) λσ' c h1 h2 h3=>?_;refine aA (Fh K F1 ht (el hlt) hT h1 h2 λs2 F2=>?_) (λζ ζ q=>q) λζ ζ f=>f.elim;have weak:∀{acc s},cO L σ' (i+1) acc s->cO L σ (i+1) acc s:=λF=>{F with V:=F.V.weaken (zx 4 σ g.target _ σ' h1)}
  rcases h3 with ⟨rfl,r1,q,hr1,hq,rfl⟩|⟨rfl,hq⟩
  ·refine aa (if_pos rfl) ?_;have hl:acc'.length+r1.length<=sizeLine:=by have:=congrArg iB hacc;simp only[ci] at this;exact OW hlen this
   refine aA (hb σ' r1 (i+1) acc' s2 hr1 F2 hl) (λfin s3 h_=>be h_ λe3 F3=>?_) λζ ζ f=>f;subst e3;exact⟨rfl,m,i0 _,i+1,q,acc'++r1,s9 hi,hq,by rw[gP];exact hacc,weak F3⟩
  ·rw[if_neg (by decide)];exact aS ⟨rfl,m,i0 _,i+1,r,acc',s9 hi,hq,hacc,weak F2⟩
theorem za {X:Cx} {A:aO} {elt:ab} {gens:List c8} {scp:Scope} {pos:Pos} {depth:Nat} {it acc:Value} {env:Env} {g:c8} {R:rW->ae->Prop} (hg:gens[depth]?=some g) (ha:(g.is_async==0)=true) (h0:lB (aw X.prog X.w) A (.compLoop (.ListComp elt gens scp pos) depth it acc env) R s) (h:aq (aw X.prog X.w) A (f9 it) (λit' s'=>lB (aw X.prog X.w) A (.compLoop (.ListComp elt gens scp pos) depth it' acc env) R s') (λζ ζ=>False) s):lB (aw X.prog X.w) A (.compStart (.ListComp elt gens scp pos) depth it acc env) R s:=by
 have h1:(g.is_async != 0)=false:=by simp only[bne,ha];rfl
 refine codeAny_of_tree ?_;refine (?_:aq _ _ ((compStart (.ListComp elt gens scp pos) depth it acc env).onRaise (λx=>do uW x env;ea theWindowsPlace)) _ _ s);refine wpAny_notedAt ?_;unfold compStart;have hcl:clausesOf (.ListComp elt gens scp pos)=gens:=rfl;refine aa hcl (aa hg ?_);simp only[Option.elim,h1,ey,if_false];refine (?_:aq _ _ (ask>>=_) _ _ s);refine ak (wpAny_askSetting (wpAny_ite ?_))
 split
 ·first
   |exact ak (aS (aS (And.intro rfl h0)))
   |exact aS (And.intro rfl h0)
 ·refine ak (uO ?_);refine (?_:aq _ _ (ea g.iter.pos>>=_) _ _ s);exact ak (eb (ak (aA h (λit' s' h'=>aS (And.intro rfl h')) λζ ζ x=>x.elim)))
theorem Gh (ih:ui O n):ui O (n+1):=by
 intro L σ elt gens scp pos depth g gs ys acc s h hg ht K F hl hA;skip;refine ifs h λha h=>?_;refine aI (OO hg) λg1 g2 g3=>?_;refine aI (hA n (i0 _)) λhE hT hI=>?_;simp only[bF] at ha;rcases ha with ⟨ha,hall⟩
 have e0:∀Q:List Addr,Q++ay []=Q:=λQ=>jw Q
 induction gs using aP with
 |nil=>
  refine y5 K F ht hT (Fb elt gens scp pos depth L.it (.ref L.D) L.env g g1 ha g3) h hl λσ' r j acc' s' hb F1 hl1=>?_;simp only at hb
  set_option smartUnfolding false in refine om hb λd hd hb=>?_
  have h_:=aj hb;clear hb;subst h_;refine ak (ak (aA (hE L.sc σ' L.env [] (L.wr++L.P) elt d s' hd F1.S F1.V) (λv s2 h_=>aI h_ λS2 k2 r2=>?_) λζ ζ f=>f));rw[e0] at r2;have F2:=F1.keep K S2 k2;refine ak (F2.push K r2 (by simpa using hl1) λs3 F3=>aS ?_);exact aS ⟨rfl,F3⟩
 |cons g' gs'=>
  have haa:(g'.is_async==0)=true:=by simp only[mM,bF] at hall;exact hall.1
  ·refine y5 K F ht hT (Pa elt gens scp pos depth L.it (.ref L.D) L.env g g' g1 ha g3 haa) h hl λσ' r j acc' s' hb F1 hl1=>?_;simp only at hb
   set_option smartUnfolding false in refine om hb λxs hxs hb=>?_
   refine be (hI L.sc σ' L.env [] (L.wr++L.P) g'.target g'.iter xs s' hxs F1.S F1.V) λhf hev=>?_;refine ak (aA hev (λx s2 h_=>aI h_ λS2 k2 q2=>?_) λζ ζ f=>f);refine ak (eb (ak (Dv (hf x) (ak (fi (aA q2 (λit s3 h_=>aI h_ λS3 k3 q3=>?_) λζ ζ f=>f))))));rcases q3 with ⟨cs,cvs,St,fp,wr,hit,hst,hcs,hwr,hfp⟩
   rw[e0] at hcs hfp;have k23:=k2.trans k3;have F3:=F1.keep K S3 k23
   let L':Lp:={L with P:=L.wr++L.P,tgt:=g'.target,it:=it,xs:=xs,cs:=cs,cvs:=cvs,St:=St,fp:=fp,wr:=wr,gm:=s'.gens.size,s0:=s3}
   have hloc:∃o,s'.heap.get? L.env.locals=some o:=aE F1.V.ns λm h_=>jQ h_ λo ζ ζ e ζ=>⟨o,e⟩
   have K':g7 L':=
    {it:=hit,D0:=K.D0,DP:=bO _ K.DP,fp:=hfp,Dl:=K.Dl,Dc:=K.Dc,gm:=k23.gsz,hh:=K.hh,
     wl:=λb hb=>⟨λq=>(by refine aE hloc λo e=>?_;clear hloc;replace e:=(eh q)▸e;replace e:=(hwr b hb)▸e;exact ac e),λx hm=>(by refine bR (F1.V.cells x b hm) λv o e ζ=>?_;replace e:=(hwr b hb)▸e;exact ac e)⟩}
   have hpin:∀b∈wr++(L.wr++L.P),∃o,s3.heap.get? b=some o/\cK o=false:=λb hb=>by
    rcases bo.mp hb with q|q
    ·exact hit.live 0 s3 hst b (hit.sub b q)
    ·exact F3.V.pin b q
   have hsub:∀b∈wr++(L.wr++L.P),b∈L.wr++L.P\/s'.heap.get? b=none:=λb hb=>(bo.mp hb).elim (λq=>.inr (hwr b q)) .inl;have F':cO L' σ' 0 acc' s3:=
    {S:=S3,V:=F1.V.move k23.kb (λb hb=>nomatch hb) (λq=>nomatch q) (λx c ζ q=>nomatch q) hpin hsub,st:=hst,cs:=hcs,
     acc:=F1.acc.move k23.kb (λb hb=>nomatch hb) (λq=>nomatch q) hsub,stp:=⟨Kb.refl,λb o ζ e=>⟨o,e⟩,bf _,λζ ζ=>rfl⟩}
   have hin:=ih L' σ' elt gens scp pos (depth+1) g' gs' r acc' s3 hb g2 rfl K' F' hl1 λm hm=>hA m (x9 hm);have done:∀s4,oI L' σ' (acc'++r) s4->cO L σ' j (acc'++r) s4:=λs4 H=>by
    have hk:bG (L.D::(aV L.sc L.env []++wr)) s'.gens.size s' s4:=
     ((bG.of k23).mono (λb hb=>nomatch hb) (bf _)).trans H.stp
    exact F1.go (wr':=wr) K H.S H.V H.acc hk hwr
   refine ak (wpAny_runOwn ?_);have hcs:=hit.again 0 s3 (Q:=λit' s'=>lB (aw L.X.prog L.X.w) L.A (.compLoop (.ListComp elt gens scp pos) (depth+1) it' (.ref L.D) L.env) (λr' s'=>r'=.ok .next/\oI L' σ' (acc'++r) s') s') hst hin;refine yq (za g3 haa hin hcs) λr' s4 h_=>be h_ λe4 H=>?_;subst e4;exact aS ⟨rfl,done s4 H⟩
end
theorem lT:∀{names:List (Str×fK)} {x:Str} {k:fK},gg names=true->(x,k)∈names->names.lookup x=some k
 |[],_,_,_,h=>nomatch h
 |(y,k')::r,x,k,hn,h=>by
  rw[B3] at hn;simp only[bF,kz,DK,beq_iff_eq] at hn;rcases av.mp h with q|q
  ·cases q;simp[d9]
  ·have hne:(x==y)=false:=by have:=hn.1 (x,k) q;exact decide_eq_false this
   refine aa cM (aa hne ?_);exact lT hn.2 q
theorem xf:∀(names:List (Str×fK)) (n:Nat) (acc:List (Str×Addr)),(∀p∈acc,p.2<n)->(∀x y c,(x,c)∈acc->(y,c)∈acc->x=y)->∀x y c,(x,c)∈em n names acc->(y,c)∈em n names acc->x=y
 |[],n,acc,_,h=>h
 |(name,kind)::r,n,acc,hb,h=>by
  unfold em
  split
  ·refine xf r (n+1) _ (λp hp=>?_) (λx y c h1 h2=>?_)
   ·rcases av.mp hp with q|q
    ·subst q;exact i0 _
    ·exact x9 (hb p q)
   ·rcases av.mp h1 with q1|q1<;>rcases av.mp h2 with q2|q2
    ·cases q1;cases q2;rfl
    ·cases q1;exact absurd (hb _ q2) (De _)
    ·cases q2;exact absurd (hb _ q1) (De _)
    ·exact h x y c q1 q2
  ·exact xf r n acc hb h
theorem w3:∀(names:List (Str×fK)) (h:Heap) (acc:List (Str×Addr)),(∀x c,(x,c)∈acc->∃v,h.IsCell c v)->∀x c,(x,c)∈em h.objs.size names acc->∃v,(mP h names).IsCell c v
 |[],h,acc,ha=>ha
 |(name,kind)::r,h,acc,ha=>by
  unfold em mP
  split
  ·have:=w3 r (h.push {cls:=.type "cell",data:=.cell none}) ((name,h.objs.size)::acc) (λx c hm=>?_)
   ·rwa [iF] at this
   ·rcases av.mp hm with q|q
    ·cases q;exact gE none _ (dH _ rfl) rfl
    ·refine bR (ha x c q) λv o e hd=>?_;exact gE v o (bK _ _ e) hd
  ·exact w3 r h acc ha
theorem oo:∀(names:List (Str×fK)) (n:Nat) (acc:List (Str×Addr)) (x:Str) (c:Addr),(x,c)∈em n names acc->(x,c)∈acc\/(n<=c/\(x,.cell)∈names)
 |[],n,acc,x,c,h=>.inl h
 |(name,kind)::r,n,acc,x,c,h=>by
  unfold em at h
  split at h
  ·rename_i hk;rcases oo r (n+1) _ x c h with q|q
   ·rcases av.mp q with q|q
    ·cases q;exact .inr ⟨bf _,by refine aa (bh hk) ?_;exact js⟩
    ·exact .inl q
   ·exact .inr ⟨nZ q.1,cg _ q.2⟩
  ·rcases oo r n acc x c h with q|q
   ·exact .inl q
   ·exact .inr ⟨q.1,cg _ q.2⟩
theorem vI:∀(names:List (Str×fK)) (n:Nat) (acc:List (Str×Addr)) (x:Str),((∃c,acc.lookup x=some c)\/(x,.cell)∈names)->∃c,(em n names acc).lookup x=some c
 |[],n,acc,x,h=>h.elim id λq=>nomatch q
 |(name,kind)::r,n,acc,x,h=>by
  unfold em
  split
  ·rename_i hk;refine vI r (n+1) _ x ?_;rcases h with ⟨c,h⟩|h
   ·left;refine aa cM ?_;cases x==name
    ·exact⟨c,h⟩
    ·exact⟨n,rfl⟩
   ·rcases av.mp h with q|q
    ·cases q;left;exact⟨n,by simp[d9]⟩
    ·exact .inr q
  ·rename_i hk;refine vI r n acc x ?_;rcases h with h|h
   ·exact .inl h
   ·rcases av.mp h with q|q
    ·cases q;exact absurd rfl hk
    ·exact .inr q
theorem xG:∀(names:List (Str×fK)) (n:Nat) (acc:List (Str×Addr)) (x:Str),(∀k,(x,k)∈names->k≠.cell)->(em n names acc).lookup x=acc.lookup x
 |[],n,acc,x,h=>rfl
 |(name,kind)::r,n,acc,x,h=>by
  unfold em
  split
  ·rename_i hk;refine aa (xG r (n+1) _ x λk q=>h k (cg _ q)) ?_;have hne:(x==name)=false:=by
    cases e:x==name with
    |false=>rfl
    |true=>exact absurd (bh hk) (h kind (by refine aa (bh e) ?_;exact js))
   exact aa cM (aa hne rfl)
  ·exact xG r n acc x λk q=>h k (cg _ q)
section
variable {X:Cx} {A:aO} {s s':ae} {env:Env} {sc:Scope} {σ σ':Sg} {P:List Addr}
theorem sI {c0:Value} {cl:List (Str×Addr)} (S:ai X s) (hn:gg sc.names=true) (hnm:∀x k,(x,k)∈sc.names->cw x=true) (e1:env.scope.kind=.function) (e2:env.globals=dF) (e3:env.builtins=kx) (e4:env.locals=s.heap.objs.size) (e5:env.cells=em (s.heap.objs.size+1) sc.names cl) (k1:∀x,sc.names.lookup x=some .local->env.kindOf x=some .local) (k2:∀x,ed sc x=true->env.kindOf x=some .cell\/env.kindOf x=some .free) (k3:∀x,bS sc x=true->env.kindOf x=some .globalImplicit) (c1:∀x c,(x,c)∈cl->sc.names.lookup x=some .free/\(∃v,s.heap.IsCell c v)/\X.h0.get? c=none) (c2:∀x y c,(x,c)∈cl->(y,c)∈cl->x=y) (c3:∀x,sc.names.lookup x=some .free->∃c,cl.lookup x=some c) (hp:∀b∈P,∃o,s.heap.get? b=some o/\cK o=false) (hv:∀x e,σ.lookup x=some e->sc.names.lookup x=some .free/\∃d c v,e=.sh d/\cl.lookup x=some c/\s.heap.IsCell c (some v)/\ao P s.heap d v):am X sc env σ [] P (mP (s.heap.push {cls:=c0,data:=.dict #[]}) sc.names):=by
 have kk:∀b o,s.heap.get? b=some o->(mP (s.heap.push {cls:=c0,data:=.dict #[]}) sc.names).get? b=some o:=λb o e=>rX _ _ _ _ (bK _ _ e)
 have hfresh:∀c,s.heap.objs.size<=c->X.h0.get? c=none:=λc hc=>S.fresh (by
  cases e:s.heap.get? c with
  |none=>rfl
  |some o=>exact absurd (fJ e) (pP hc))
 have hmem:∀x c,(x,c)∈env.cells->(x,c)∈cl\/(s.heap.objs.size+1<=c/\(x,.cell)∈sc.names):=λx c hm=>oo _ _ _ _ _ (e5▸hm);have hlt:∀p∈cl,p.2<s.heap.objs.size+1:=λp hp=>by obtain ⟨_,⟨v,o,e,_⟩,_⟩:=c1 p.1 p.2 hp;exact x9 (fJ e)
 have hsz2:(s.heap.push {cls:=c0,data:=.dict #[]}).objs.size=s.heap.objs.size+1:=iF ..;have e0:∀Q:List Addr,Q++ay []=Q:=λQ=>jw Q;have freeLk:∀x,sc.names.lookup x=some .free->env.cells.lookup x=cl.lookup x:=λx hx=>by refine aa e5 ?_;refine xG _ _ _ _ λk hk q=>?_;subst q;have:=lT hn hk;replace this:=hx▸this;cases this
 exact
 {kind:=e1,glob:=e2,bi:=e3,loc:=k1,gl:=k3
  cel:=λx hx=>⟨k2 x hx,by
   refine aa e5 ?_;refine vI _ _ _ _ ?_
   exact rm hx (λq=>.inr (cm q)) λq=>.inl (c3 x q)⟩
  nm:=λx k hx=>hnm x k (cm hx)
  ns:=⟨λζ=>none,by
   refine aa e4 ?_
   exact ww _ (#[]) _ (rX _ _ _ _ (dH _ rfl)) rfl (λζ he=>by simp at he) (λζ=>rfl)⟩
  cells:=λx c hm=>by rw[e5,<- hsz2] at hm;exact w3 sc.names (s.heap.push {cls:=c0,data:=.dict #[]}) cl (λx c q=>by obtain ⟨_,⟨v,o,e,hd⟩,_⟩:=c1 x c q;exact gE v o (bK _ _ e) hd) x c hm
  apart:=λx y c h1 h2=>by rw[e5] at h1 h2;exact xf _ _ _ hlt c2 x y c h1 h2
  fl:=e4▸hfresh _ (bf _)
  fc:=λx c hm=>(hmem x c hm).elim (λq=>(c1 x c q).2.2) λq=>hfresh c (nZ q.1)
  vars:=λx d e=>by
   obtain ⟨hx,d',c,v,q,h1,h2,h3⟩:=hv x _ e;cases q;refine az v (.inr ⟨k2 x (by unfold ed;exact aa hx rfl),c,(freeLk x hx).trans h1,?_⟩) ?_
   ·refine ah h2 λo e hd=>?_;clear h2;exact az o (kk _ _ e) hd
   ·rw[e0];exact h3.keep (Kb.of_keep kk)
  owns:=λx xs e=>by obtain ⟨_,d',c,v,q,_⟩:=hv x _ e;cases q
  ownA:=λx y a h=>nomatch h
  ownF:=λx a h=>nomatch h
  ownU:=λx a b h=>nomatch h
  ownP:=λx a h=>nomatch h
  pin:=λb hb=>ah (hp b hb) λo e ht=>⟨o,kk _ _ e,ht⟩}
end
noncomputable def fY (env:Env):List (Str×fK)->List (Str×Addr)->List (Str×Addr)
 |[],acc=>acc
 |(x,k)::r,acc=>if k==.free then fY env r ((x,(env.cells.lookup x).getD 0)::acc) else fY env r acc
theorem vM {env x k r acc}:fY env ((x,k)::r) acc=if k==.free then fY env r ((x,(env.cells.lookup x).getD 0)::acc) else fY env r acc:=rfl
theorem vE {env:Env}:∀(names:List (Str×fK)) (acc:List (Str×Addr)) (x:Str) (c:Addr),(x,c)∈fY env names acc->(x,c)∈acc\/((x,.free)∈names/\c=(env.cells.lookup x).getD 0)
 |[],_,_,_,h=>.inl h
 |(y,k)::r,acc,x,c,h=>by
  rw[vM] at h
  split at h
  ·rename_i hk;rcases vE r _ x c h with q|q
   ·rcases av.mp q with q|q
    ·cases q;exact .inr ⟨by refine aa (bh hk) ?_;exact js,rfl⟩
    ·exact .inl q
   ·exact .inr ⟨cg _ q.1,q.2⟩
  ·rcases vE r acc x c h with q|q
   ·exact .inl q
   ·exact .inr ⟨cg _ q.1,q.2⟩
theorem xh {env:Env}:∀(names:List (Str×fK)) (acc:List (Str×Addr)) (x:Str),((∃c,acc.lookup x=some c)\/(x,.free)∈names)->∃c,(fY env names acc).lookup x=some c
 |[],_,_,h=>h.elim id λq=>nomatch q
 |(y,k)::r,acc,x,h=>by
  refine aa vM ?_
  split
  ·refine xh r _ x ?_;rcases h with ⟨c,h⟩|h
   ·left;refine aa cM ?_;cases x==y
    ·exact⟨c,h⟩
    ·exact⟨_,rfl⟩
   ·rcases av.mp h with q|q
    ·cases q;left;exact⟨_,by simp[d9];rfl⟩
    ·exact .inr q
  ·rename_i hk;refine xh r acc x ?_;rcases h with h|h
   ·exact .inl h
   ·rcases av.mp h with q|q
    ·cases q;exact absurd rfl hk
    ·exact .inr q
theorem Ax {env:Env} {scope:Scope} (h:∀x,(x,.free)∈scope.names->∃c,env.cells.lookup x=some c):rY scope env=pure (fY env scope.names []):=by
 simp only[rY];have go:∀(names:List (Str×fK)) (acc:List (Str×Addr)),(∀x,(x,.free)∈names->∃c,env.cells.lookup x=some c)->
   (lA names acc (λx r=>if (x.2==jx)=true then do let a <- rZ env x.1;pure (mN ((x.1,a)::r)) else pure (mN r)):bw _)=pure (fY env names acc):=by
  intro names
  induction names with
  |nil=>intro acc _;rfl
  |cons p r ih=>
   intro acc hc;obtain ⟨x,k⟩:=p;rw[rS];refine aa vM ?_
   by_cases hk:(k==jx)=true
   ·simp only[hk,if_true];refine aE (hc x (by refine aa (bh hk) ?_;exact js)) λc e=>?_;have e2:rZ env x=pure c:=by unfold rZ;exact aa e rfl
    refine aa e2 (aa e ?_);exact ih _ λy hy=>hc y (cg _ hy)
   ·simp only[hk,ey,if_false];exact ih _ λy hy=>hc y (cg _ hy)
 have e:=go scope.names [] h
 first
  |(refine aa e ?_;rfl)
  |(refine Eq.trans ?_ e;rfl)
  |skip
theorem Ci {env:Env} {f:Str×fK->Str×fK} (hf:f=λ(n,k)=>if (k==jx&&env.scope.kind==.function&&env.kindOf n==some .cell) then (n,pG) else (n,k)):∀{names:List (Str×fK)} {x:Str} {k:fK},names.lookup x=some k->(names.map f).lookup x=some k\/(k=.free/\(names.map f).lookup x=some .cell)
 |[],_,_,h=>ac h
 |(n,k')::r,x,k,h=>by
  have ih:=@Ci env f hf r x k;subst hf;refine (?_:d9 x ((if (k'==jx&&env.scope.kind==.function&&env.kindOf n==some .cell)=true then (n,pG) else (n,k'))::_)=_\/_/\d9 x ((if (k'==jx&&env.scope.kind==.function&&env.kindOf n==some .cell)=true then (n,pG) else (n,k'))::_)=_);cases hx:x==n with
  |true=>
   simp only[cM,hx] at h;have h_:=aj h;clear h;subst h_
   by_cases hc:(k'==jx&&env.scope.kind==.function&&env.kindOf n==some .cell)=true
   ·refine aa (if_pos hc) ?_;simp only[bF,beq_iff_eq] at hc;exact .inr ⟨hc.1.1,by simp only[cM,hx]⟩
   ·refine aa (if_neg hc) ?_;exact .inl (by simp only[cM,hx])
  |false=>
   simp only[cM,hx] at h
   by_cases hc:(k'==jx&&env.scope.kind==.function&&env.kindOf n==some .cell)=true
   ·refine aa (if_pos hc) ?_;simp only[cM,hx];exact ih h
   ·refine aa (if_neg hc) ?_;simp only[cM,hx];exact ih h
theorem Os {sc':Scope} {σ:Sg} {x:Str} {e:Ent} (hn:gg sc'.names=true) (h:(cj sc' σ).lookup x=some e):sc'.names.lookup x=some .free/\∃d,e=.sh d/\σ.lookup x=some (.sh d):=by
 have hm:=cm h;unfold cj at hm;obtain ⟨⟨y,k⟩,hy,hs⟩:=DL.mp hm
 induction k using xZ with
 |free=>
  revert hs;refine (?_:(match σ.lookup y with|some (.sh d)=>some (y,Ent.sh d)|_=>none)=some (x,e)->_);refine cn (σ.lookup y) λo q=>?_
  induction o using bW with
  |none=>exact ac
  |some f=>induction f using Ent.casesOn with
   |sh d=>intro hs;cases hs;exact⟨lT hn hy,d,rfl,q⟩
   |own xs=>exact ac
 |_=>exact ac hs
section
variable {X:Cx} {A:aO} {s:ae} {E:Value->ae->Prop}
theorem Nt {scope:Scope} {cl:List (Str×Addr)} {globals:Addr} {qual:Str} {outer:Env} {Q:Env->ae->Prop} (h:Q {scope,locals:=s.heap.objs.size,globals,cells:=em (s.heap.objs.size+1) scope.names cl,qual,func:=none,code:=outer.code,frame:=outer.frame,builtins:=outer.builtins}
   {s with heap:=mP (s.heap.push {cls:=.type "dict",data:=.dict #[]}) scope.names}):
  aq (aw X.prog X.w) A (r0 scope globals cl [] qual none .none (some outer)) Q E s:=by
 simp only[r0,Option.isSome_some,if_true];refine ak (yr ?_);refine ak (yt _ (λζ ζ ζ=>rfl) _ _ _ _ ?_);refine ak ?_;refine aa uS ?_;refine aS (aS ?_);refine aa (show ({s with heap:=s.heap.push {cls:=.type "dict",data:=.dict #[]}}:ae).heap.objs.size=s.heap.objs.size+1 from iF ..) ?_;exact h
end
section
variable {X:Cx} {A:aO} {s:ae} {env:Env} {sc:Scope} {σ:Sg} {own:List (Str×Addr)} {P:List Addr} {O:Orc} {n:Nat} {E:Value->ae->Prop}
theorem wU {sc sc':Scope} (h:kh sc sc'=true):sc'.kind=.function/\gg sc'.names=true/\(∀x k,(x,k)∈sc'.names->cw x=true)/\(∀x,(x,.free)∈sc'.names->ed sc x=true):=by
 refine mh h λh1 h2 h3=>?_;have h3:=c9.mp h3;refine i9 ?_ h2 (λx k hm=>(jT.mp (h3 (x,k) hm)).1) (λx hm=>?_)
 ·revert h1;refine aX sc'.kind λk=>?_;induction k using SU with
  |function=>exact λζ=>rfl
  |_=>exact aZ
 ·exact (jT.mp (h3 (x,.free) hm)).2
theorem zj {elt:ab} {gens:List c8} {g:c8} {gs:List c8} {scope:Scope} {pos:Pos} {xs ys:List PV} {RR:Value->Addr->rW->ae->Prop} (hg:gens=g::gs) (hsc:kh sc scope=true) (hh:A.handled=none) (S:ai X s) (V:am X sc env σ own P s.heap) (hI:(∀x,pR g.iter env x=pure x)/\Ev X A s (aG g.iter env) (λx s1=>Ev X A s1 (f9 x) (λit s2=>lc X A g.target sc env own (P++ay own) s xs it s2))) (ihG:ui O n) (hA:∀m,m<n->gi X A O m/\jj X A O m/\kX X A O m) (h2:bT O n scope (cj scope σ) elt g gs xs=some ys) (hl:bt ys.length=true) (hRR:∀D C s',ai X s'->af [] s s'->s.heap.get? D=none->s.heap.get? C=none->D≠C->(∃m,s'.heap.Ns C m)->kf D (D::(P++ay own)) ys s'->RR (.ref D) C (.ok .next) s'):aq (aw X.prog X.w) A (aG g.iter env) (λx s1=>aq (aw X.prog X.w) A (f9 x) (λit s2=>aq (aw X.prog X.w) A (newList []) (λacc s3=>
   aq (aw X.prog X.w) A (r0 scope env.globals (fY env scope.names []) [] env.qual none .none (some env)) (λcenv s4=>
    lB (aw X.prog X.w) A (.compStart (.ListComp elt gens scope pos) 0 it acc {cenv with scope:=relabel scope env}) (RR acc cenv.locals) s4) E s3) E s2) E s1) E s:=by
 refine gq (wU hsc) λq1 q2 q3 q4=>?_;refine aA hI.2 (λx s1 h_0=>aI h_0 λS1 k1 hx=>?_) λζ ζ f=>f.elim;refine aA hx (λit s2 h_1=>aI h_1 λS2 k2 hit=>?_) λζ ζ f=>f.elim;obtain ⟨cs,cvs,St,fp,wr,It,hst,hcs,hwr,hfp⟩:=hit;have k02:=k1.trans k2;have V2:=V.keep k02.kb;refine pL ?_ (by size_fits);refine cn (({s2 with heap:=s2.heap.push {cls:=.type "list",data:=.seq ([]:List Value).toArray}}:ae)) λs3 hs3=>?_;have S3:ai X s3:=hs3▸S2.keep bK;have k23:af [] s2 s3:=hs3▸af.keep bK;have hDn:s2.heap.get? s2.heap.objs.size=none:=eJ;have hD3:s3.heap.get? s2.heap.objs.size=some {cls:=.type "list",data:=.seq #[]}:=by refine aH hs3 ?_;exact dH _ rfl
 have hsz3:s3.heap.objs.size=s2.heap.objs.size+1:=by refine aH hs3 ?_;exact iF ..
 have kk23:∀b o,s2.heap.get? b=some o->s3.heap.get? b=some o:=λb o e=>by refine aH hs3 ?_;exact bK b o e
 refine Nt ?_;refine cn (({s3 with heap:=mP (s3.heap.push {cls:=.type "dict",data:=.dict #[]}) scope.names}:ae)) λs4 hs4=>?_;refine cn (({scope,locals:=s3.heap.objs.size,globals:=env.globals,cells:=em (s3.heap.objs.size+1) scope.names (fY env scope.names []),qual:=env.qual,func:=none,code:=env.code,frame:=env.frame,builtins:=env.builtins}:Env)) λcenv hce=>?_;have kk34:∀b o,s3.heap.get? b=some o->s4.heap.get? b=some o:=λb o e=>by refine aH hs4 ?_;exact rX _ _ _ _ (bK _ _ e)
 have S4:ai X s4:=by have:=S3.keep (tk:=s3.toks) (h':=s4.heap) kk34;rw[<- hs4] at this ⊢;exact this
 have k34:af [] s3 s4:=by have:=af.keep (W:=[]) (s:=s3) (tk:=s3.toks) (h':=s4.heap) kk34;rw[<- hs4] at this ⊢;exact this
 have k03:=k02.trans k23;have k04:=k03.trans k34;have hCn:s3.heap.get? s3.heap.objs.size=none:=eJ;have hcl:cenv.locals=s3.heap.objs.size:=aH hce rfl;have hcc:cenv.cells=em (s3.heap.objs.size+1) scope.names (fY env scope.names []):=aH hce rfl
 let ce2:Env:={cenv with scope:=relabel scope env}
 have hlk:∀x,(x,jx)∈scope.names->∃c,env.cells.lookup x=some c:=λx hm=>(V.cel x (q4 x hm)).2;have hclo:∀x c,(x,c)∈fY env scope.names []->(x,jx)∈scope.names/\env.cells.lookup x=some c:=λx c hm=>by
  rcases vE _ _ _ _ hm with q|⟨q,e⟩
  ·exact nomatch q
  ·refine aE (hlk x q) λc' e'=>?_;replace e:=e'▸e;exact⟨q,by refine aa e' (aa e ?_);rfl⟩
 have hcl3:∀x,scope.names.lookup x=some .free->(fY env scope.names []).lookup x=env.cells.lookup x:=λx hx=>by refine aE (xh (env:=env) scope.names [] x (.inr (cm hx))) λc hc=>?_;exact aa hc (aa ((hclo x c (cm hc)).2) rfl)
 have fresh3:∀b,s3.heap.objs.size<=b->s2.heap.get? b=none:=λb hb=>by
  cases e:s2.heap.get? b with
  |none=>rfl
  |some o=>have:=fJ (kk23 b o e);exact absurd this (pP hb)
 have hkind:∀x k,scope.names.lookup x=some k->(k≠.free->ce2.kindOf x=some k)/\(k=.free->ce2.kindOf x=some .cell\/ce2.kindOf x=some .free):=λx k hx=>by
  rcases Ci (env:=env) rfl hx with r|⟨r1,r2⟩
  ·exact⟨λζ=>r,λz=>.inr (z▸r)⟩
  ·exact⟨λz=>absurd r1 z,λζ=>.inl r2⟩
 have oldCell:∀x c,(x,c)∈fY env scope.names []->∃v,s3.heap.IsCell c v:=λx c hm=>by refine aE (V.cells x c (cm (hclo x c hm).2)) λv n=>?_;exact⟨v,jb n k03.kb (λq=>nomatch q)⟩
 have live2:∀b∈fp,∃o,s2.heap.get? b=some o:=λb hb=>ah (It.live 0 s2 hst b hb) λo e ζ=>⟨o,e⟩
 have fpD:∀b∈fp,b≠s2.heap.objs.size:=λb hb q=>by refine aE (live2 b hb) λo e=>?_;replace e:=q▸e;replace e:=hDn▸e;exact ac e
 have fpC:∀b∈fp,¬ s3.heap.objs.size<=b:=λb hb q=>by refine aE (live2 b hb) λo e=>?_;replace e:=(fresh3 b q)▸e;exact ac e
 have hsubW:∀b∈wr++(s2.heap.objs.size::(P++ay own)),b∈P++ay own\/s.heap.get? b=none:=λb hb=>by
  rcases bo.mp hb with q|q
  ·exact .inr (hwr b q)
  ·rcases av.mp q with q|q
   ·exact .inr (q▸k02.none hDn)
   ·exact .inl q
 have hpin3:∀b∈wr++(s2.heap.objs.size::(P++ay own)),∃o,s3.heap.get? b=some o/\cK o=false:=λb hb=>by
  rcases bo.mp hb with q|q
  ·refine ah (It.live 0 s2 hst b (It.sub b q)) λo e ht=>?_;exact az o (kk23 b o e) ht
  ·rcases av.mp q with q|q
   ·exact az _ (q▸hD3) rfl
   ·rcases bo.mp q with q|q
    ·refine ah (V2.pin b q) λo e ht=>?_;exact az o (kk23 b o e) ht
    ·obtain ⟨⟨x,a⟩,hm,rfl⟩:=dG.mp q;obtain ⟨_,its,m,e⟩:=V2.ownF x a hm;exact az _ (kk23 _ _ e) rfl
 have V4:am X scope ce2 (cj scope σ) [] (wr++(s2.heap.objs.size::(P++ay own))) s4.heap:=by
  refine aH hs4 ?_;refine sI (cl:=fY env scope.names []) S3 q2 q3 q1 ?_ ?_ hcl hcc (λx hx=>(hkind x _ hx).1 (by decide)) (λx hx=>?_) (λx hx=>?_) (λx c hm=>?_) (λx y c h1 h2=>?_) (λx hx=>?_) hpin3 (λx e he=>?_)
  ·refine (?_:cenv.globals=_);refine aH hce ?_;exact V.glob
  ·refine (?_:cenv.builtins=_);refine aH hce ?_;exact V.bi
  ·exact rm hx (λe=>.inl ((hkind x _ e).1 (by decide))) λe=>(hkind x _ e).2 rfl
  ·exact (hkind x _ (uv hx)).1 (by decide)
  ·refine be (hclo x c hm) λh1 h2=>?_;exact fx (lT q2 h1) (oldCell x c hm) (V.fc x c (cm h2))
  ·exact V.apart x y c (cm (hclo x c h1).2) (cm (hclo y c h2).2)
  ·refine aE (hlk x (cm hx)) λc hc=>?_;exact⟨c,(hcl3 x hx).trans hc⟩
  ·obtain ⟨h1,d,rfl,h3⟩:=Os q2 he;refine ah (V.vars x d h3) λv hv r=>?_;refine⟨h1,d,?_⟩;rcases hv with ⟨hv,_⟩|⟨_,c,hc,hcell⟩
   ·rcases (V.cel x (q4 x (cm h1))).1 with z|z<;>replace z:=hv▸z<;>cases z
   ·exact Ag c v rfl ((hcl3 x h1).trans hc) (jb hcell k03.kb (λq=>nomatch q)) (ao.kb k03.kb (λζ q=>nomatch q) hsubW d v r)
 let L:Lp:={X:=X,A:=A,sc:=scope,env:=ce2,P:=s2.heap.objs.size::(P++ay own),D:=s2.heap.objs.size,tgt:=g.target,it:=it,xs:=xs,cs:=cs,cvs:=cvs,St:=St,fp:=fp,wr:=wr,gm:=s.gens.size,s0:=s4}
 have hnewc:∀x c,(x,c)∈ce2.cells->((x,c)∈fY env scope.names []/\∃o,s.heap.get? c=some o)\/s3.heap.objs.size+1<=c:=λx c hm=>by
  have hm:(x,c)∈em (s3.heap.objs.size+1) scope.names (fY env scope.names []):=hcc▸hm;rcases oo _ _ _ _ _ hm with q|q
  ·refine bR (V.cells x c (cm (hclo x c q).2)) λv o e ζ=>?_;exact .inl ⟨q,o,e⟩
  ·exact .inr q.1
 have wenv4:∀b∈aV scope ce2 [],s3.heap.objs.size<=b:=λb hb=>by
  unfold aV at hb;rcases av.mp hb with q|q
  ·exact iA (q.trans hcl).symm
  ·rcases bo.mp q with q|q
   ·refine ah (er q) λx hm hst=>?_;rcases hnewc x b hm with ⟨h1,_⟩|h1
    ·have:=lT q2 (hclo x b h1).1;unfold bb at hst;replace hst:=this▸hst;exact aZ hst
    ·exact nZ (by assumption)
   ·exact nomatch q
 have hst4:St 0 s4:=It.frame 0 s2 s4 hst (k23.trans k34).gsz (λb ζ o e=>kk34 b o (kk23 b o e)) (k23.trans k34).gk;have K:g7 L:=
  {it:=It,D0:=S2.fresh hDn,DP:=js,hh:=hh,gm:=k04.gsz
   fp:=λb hb=>⟨λq=>(av.mp q).elim (fpD b hb) (hfp b hb).1,λq=>fpC b hb (wenv4 b q)⟩
   Dl:=by refine (?_:s2.heap.objs.size≠cenv.locals);refine aa hcl (aa hsz3 ?_);exact IR
   Dc:=λx hm=>by
    rcases hnewc x _ hm with ⟨_,o,e⟩|h1
    ·replace e:=(k02.none hDn)▸e;exact ac e
    ·replace h1:=hsz3▸h1;have h1:s2.heap.objs.size+1+1<=s2.heap.objs.size:=h1;lia
   wl:=λb hb=>⟨λq=>fpC b (It.sub b hb) (iA (q.trans hcl).symm),λx hm=>by
    rcases hnewc x b hm with ⟨_,o,e⟩|h1
    ·replace e:=(hwr b hb)▸e;exact ac e
    ·exact fpC b (It.sub b hb) (nZ (by assumption))⟩}
 have F:cO L (cj scope σ) 0 [] s4:=
  {S:=S4,V:=V4,st:=hst4
   cs:=l6 (W':=[s2.heap.objs.size]) hcs (λb o e=>kk34 b o (kk23 b o e)) (λb hb=>by simp at hb;exact hb▸hDn) |>.sub (λb hb=>by
    rcases bo.mp hb with q|q
    ·exact bO [s2.heap.objs.size] (bI _ q)
    ·rcases av.mp q with q|q
     ·exact q▸js
     ·exact bO [s2.heap.objs.size] (bO wr q))
   acc:=⟨[],_,kk34 _ _ hD3,rfl⟩
   stp:=⟨Kb.refl,λb o ζ e=>⟨o,e⟩,bf _,λζ ζ=>rfl⟩}
 have hin:=ihG L (cj scope σ) elt gens scope pos 0 g gs ys [] s4 h2 (by simpa using hg) rfl K F (by simpa using eH hl) hA;have haa:(g.is_async==0)=true:=by
  induction n using e8 with
  |zero=>exact ac h2
  |succ n=>skip;refine ifs h2 λq h2=>?_;simp only[bF] at q;exact q.1
 have hcs:=It.again 0 s4 (Q:=λit' s'=>lB (aw X.prog X.w) A (.compLoop (.ListComp elt gens scope pos) 0 it' (.ref s2.heap.objs.size) ce2) (λr' s'=>r'=.ok .next/\oI L (cj scope σ) ([]++ys) s') s') hst4 hin;refine yq (za (by refine aa hg ?_;rfl) haa hin hcs) λr s5 h_2=>be h_2 λe5 H=>?_;subst e5
 have hs45:=bG.after k04 H.stp (λb hb=>by
  rcases av.mp hb with q|q
  ·exact q▸k02.none hDn
  ·rcases bo.mp q with q|q
   ·exact k02.none (fresh3 b (wenv4 b q))
   ·exact hwr b q) (bf _)
 refine hRR _ _ s5 H.S hs45 (k02.none hDn) (hcl▸k02.none (fresh3 _ (bf _))) (λq=>(ku (i0 _)) (show s2.heap.objs.size=s2.heap.objs.size+1 from q.trans (hcl.trans hsz3))) ?_ (by have:=H.acc;rwa [uX] at this);exact H.V.ns
end
theorem vR (O:Orc):∀n,ui O n
 |0=>λL σ elt gens scp pos depth g gs ys acc s h=>by skip;exact ac h
 |n+1=>Gh (vR O n)
section
variable {X:Cx} {A:aO} {s:ae} {env:Env} {sc:Scope} {σ:Sg} {own:List (Str×Addr)} {P:List Addr} {O:Orc} {k n:Nat}
theorem zU {scp:Scope} {elt:ab} {g:c8} {gs:List c8} {xs ys:List PV} (h:bT O n scp σ elt g gs xs=some ys):(g.is_async==0)=true:=by
 induction n using e8 with
 |zero=>skip;exact ac h
 |succ n=>skip;refine ifs h λq h=>?_;simp only[bF] at q;exact q.1
theorem Hp {C D:Addr} {ys:List PV} {s':ae} {h':Heap} (S':ai X s') (k:af [] s s') (V:am X sc env σ own P s.heap) (hl:bt ys.length=true) (hD:s.heap.get? D=none) (hC:s.heap.get? C=none) (hne:D≠C) (hn:∃m,s'.heap.Ns C m) (ha:kf D (D::(P++ay own)) ys s') (S0:ai X s) (hs:iX C s'.heap h'):ai X {s' with heap:=h'}/\af [] s {s' with heap:=h'}/\∃vs n,h'.get? D=some {cls:=.type "list",data:=.seq vs.toArray n}/\vs.length<=sizeLine/\ax (D::(P++ay own)) h' ys vs:=by
 obtain ⟨m,o,es,ep,e,hd,_⟩:=hn;refine bR ha λvs n ha hr=>?_;have hnc:∀o',s'.heap.get? C=some o'->h8 o':=λo' e'=>by replace e':=e▸e';have h_:=aj e';clear e';subst h_;exact .inr λvs q=>by replace q:=hd▸q;cases q
 refine⟨S'.same (S0.fresh hC) hnc hs,bG.after k (nt (gm:=s.gens.size) hs) (λb hb=>by simp at hb;exact hb▸hC) (bf _),vs,n,(hs.2 D hne).trans ha,by refine aa hr.length ?_;exact eH hl,?_⟩;refine ax.kb (V:=[C]) (λb o hb ζ q=>(hs.2 b (λz=>hb (cN.mpr (by assumption)))).trans q) (λb hb=>.inr (.inr λo' e' its n q=>?_)) (λb hb=>.inl hb) ys vs hr;simp at hb;subst hb;replace e':=e▸e';have h_:=aj e';clear e';subst h_;replace q:=hd▸q;cases q
theorem LY {elt:ab} {g:c8} {gs:List c8} {scope:Scope} {pos:Pos} {xs ys:List PV} (hh:A.handled=none) (hsc:kh sc scope=true) (S:ai X s) (V:am X sc env σ own P s.heap) (hI:(∀x,pR g.iter env x=pure x)/\Ev X A s (aG g.iter env) (λx s1=>Ev X A s1 (f9 x) (λit s2=>lc X A g.target sc env own (P++ay own) s xs it s2))) (hA:∀m,m<n->gi X A O m/\jj X A O m/\kX X A O m) (h2:bT O n scope (cj scope σ) elt g gs xs=some ys) (hl:bt ys.length=true):Ev X A s (aG (.ListComp elt (g::gs) scope pos) env) (λv s'=>ao (P++ay own) s'.heap (.list ys) v):=by
 refine gq (wU hsc) λq1 q2 q3 q4=>?_;have hga:uY (g::gs)=false:=by have:=zU h2;cases g;simp only[uY,bne];refine aa this ?_;rfl
 have hfi:DM (g::gs) env=aG g.iter env:=by cases g;rfl
 rewrite[eval_ListComp];refine aa hga ?_
 refine QY (use:=none) (g:=g) (gs:=gs) rfl hI.1 (Ax λx hm=>(V.cel x (q4 x hm)).2) q1 (λx hx hl=>by
  obtain ⟨a,b⟩:=x;subst hl
  exact lT q2 hx) ?_
 refine aa hfi ?_;refine zj (n:=n) (RR:=λacc C=>compPost (aw X.prog X.w) A (λζ ζ=>False) none (λa s'=>ai X s'/\af [] s s'/\ao (P++ay own) s'.heap (.list ys) a) acc C) rfl hsc hh S V hI (vR O n) hA h2 hl λD C s' S' k' hD hC hne hn ha=>?_;refine az hn.choose hn.choose_spec (λh' hs=>?_);obtain ⟨r1,r2,vs,m,r3,r4,r5⟩:=Hp S' k' V hl hD hC hne hn ha S hs;refine fx r1 r2 ?_;skip;refine j4 D vs rfl (λq=>?_) ⟨m,r3⟩ r4 (r5.sub λb hb=>cg _ hb);refine ah (V.win D q) λo e ζ=>?_;replace e:=hD▸e;exact ac e
end
theorem wT {f:Str} {v:Value} (h:fW f=some v):cw f=true/\∀a,v≠.ref a:=by
 have h1:∀p∈tT,cw p.1=true:=by decide+kernel
 exact⟨h1 _ (tW h),B5 h⟩
section
variable {X:Cx} {A:aO} {s:ae} {env:Env} {sc:Scope} {σ:Sg} {own:List (Str×Addr)} {P:List Addr} {O:Orc} {k n:Nat} {V':List Addr}
theorem qD {f:Str} {g:Value} {fp pos:Pos} {es:List ab} {QV:List Value->ae->Prop} {Q:Value->ae->Prop} (OK:bq X O k) (S:ai X s) (V:am X sc env σ own P s.heap) (hg:bS sc f=true) (hb:fW f=some g) (hn:∀e∈es,dT e=true) (he:∀s',ai X s'->af [] s s'->Ev X A s' (ez (bZ pos (bY es env))) QV) (hc:∀vs s',ai X s'->af [] s s'->QV vs s'->Ev X A s' (call g vs) Q):Ev X A s (aG (.Call (.Name f fp) es [] pos) env) Q:=by refine (?_:Ev X A s (aG (.Name f fp) env>>=λg=>iH pos g [] (bZ pos (bY es env)) []) _);refine be (wT hb) λh1 h2=>?_;refine Ev.bind (oV S V hg h1 (.inr (OK.bi f g hb))) λg' s1 S1 k1 h_3=>be h_3 λe1 e2=>?_;subst e1 e2;exact vQ h2 hn (he s1 S1 k1) λvs s' S' k' r'=>hc vs s' S' (k1.trans k') r'
theorem J9 {f:Str} {fa:Addr} {o:ek} {fd:gz} {fp pos:Pos} {es:List ab} {QV:List Value->ae->Prop} {Q:Value->ae->Prop} (S:ai X s) (V:am X sc env σ own P s.heap) (hg:bS sc f=true) (hnm:cw f=true) (hm:X.mg f=some (.ref fa)) (ho:X.h0.get? fa=some o) (hcl:o.cls=.type "function") (hd:o.data=.func fd) (hn:∀e∈es,dT e=true) (he:∀s',ai X s'->af [] s s'->Ev X A s' (ez (bZ pos (bY es env))) QV) (hc:∀vs s',ai X s'->af [] s s'->QV vs s'->Ev X A s' (call (.ref fa) vs) Q):Ev X A s (aG (.Call (.Name f fp) es [] pos) env) Q:=by refine (?_:Ev X A s (aG (.Name f fp) env>>=λg=>iH pos g [] (bZ pos (bY es env)) []) _);refine Ev.bind (oV S V hg hnm (.inl hm)) λg' s1 S1 k1 h_4=>be h_4 λe1 e2=>?_;subst e1 e2;exact Cj ho hcl hd hn (he s1 S1 k1) λvs s' S' k' r'=>hc vs s' S' (k1.trans k') r'
theorem H0 {f:Value} {first:List Value} {es:List ab} {pos pos':Pos} {Q:List Value->ae->Prop} {Q':Value->ae->Prop} (hf:∀a,f≠.ref a) (hn:∀e∈es,dT e=true) (h:Ev X A s (ez (bZ pos (bY es env))) Q) (hc:∀vs s',ai X s'->af [] s s'->Q vs s'->aq (aw X.prog X.w) A (call f (first++vs)) Q' (λζ ζ=>False) s'):aq (aw X.prog X.w) A (iH pos' f first (bZ pos (bY es env)) []) Q' (λζ ζ=>False) s:=by
 unfold iH;refine ak (fi (aA (sF hn h) (λa s1 h_5=>gq h_5 λS1 k1 ha hq=>?_) λζ ζ f=>f));refine ak (eb ?_);have hany:=vL (env:=env) (pos:=pos) es hn;have hk:keeperOf f=pure QE:=by
  induction f using nU with
  |ref a=>exact absurd rfl (hf a)
  |_=>rfl
 refine aa hk ?_;refine aa hany ?_;refine ak (aS ?_);have:=hc a.pos s1 S1 k1 hq;refine aa ha ?_;exact ak (aA this (λζ ζ hr=>ak (fi (x3 (aS hr)))) λζ ζ x=>x)
theorem wt {e:ab} (h:dM e=true):∃ts n p,e=.Tuple ts n p:=by
 induction e using bE<;>first|exact⟨_,_,_,rfl⟩|exact aZ h
theorem NU {e:ab} (h:pq e=true):∀x,pR e env x=pure x:=by
 intro x
 induction e using bE<;>first|rfl|exact aZ h
theorem Ic {e:ab} {d} (h:pe O n sc σ e=some d):pq e=true:=by
 induction n using e8 with
 |zero=>exact ac h
 |succ n=>induction e using bE<;>first|rfl|exact ac h
theorem jE {es:List ab} {ds:List PV} (h:aY (pe O n sc σ) es=some ds):∀e∈es,dT e=true:=by
 induction es generalizing ds with
 |nil=>intro e h;nomatch h
 |cons e es ih=>
  refine bJ (l8 h) λy r h1 h2 ζ=>?_;intro e' he;rcases av.mp he with rfl|q
  ·exact tv h1
  ·exact ih h2 e' q
theorem mm {es:List ab} {ds:List PV} (h:aY (pa O n sc σ) es=some ds):∀e∈es,dT e=true:=by
 induction es generalizing ds with
 |nil=>intro e h;nomatch h
 |cons e es ih=>
  refine bJ (l8 h) λy r h1 h2 ζ=>?_;intro e' he;rcases av.mp he with rfl|q
  ·exact xE h1
  ·exact ih h2 e' q
theorem gU (hE:gi X A O n) {es:List ab} {ds:List PV} {pos:Pos} (h:aY (pe O n sc σ) es=some ds) (S:ai X s) (V:am X sc env σ own P s.heap):Ev X A s (ez (bZ pos (bY es env))) (λvs s'=>ax (P++ay own) s'.heap ds vs):=
 vJ es ds (λe ζ d q=>⟨tv q,λs S V=>hE sc σ env own P e d s q S V⟩) h s S V
theorem qs (hA:iQ X A O n) {es:List ab} {ds:List PV} {pos:Pos} (h:aY (pa O n sc σ) es=some ds) (S:ai X s) (V:am X sc env σ own P s.heap):Ev X A s (ez (bZ pos (bY es env))) (λvs s'=>ax [] s'.heap ds vs):=
 vJ es ds (λe ζ d q=>⟨xE q,λs S V=>(hA sc σ env own P e d s q S V).mono λv s' ζ ζ z=>z.1⟩) h s S V
theorem xA (hA:iQ X A O n) {es:List ab} {ds:List PV} {pos:Pos} (ho:es.any (cE σ)=false) (h:aY (pa O n sc σ) es=some ds) (S:ai X s) (V:am X sc env σ own P s.heap):Ev X A s (ez (bZ pos (bY es env))) (λvs s'=>ax (P++ay own) s'.heap ds vs):=
 vJ es ds (λe he d q=>⟨xE q,λs S V=>(hA sc σ env own P e d s q S V).mono λv s' ζ ζ z=>z.2 (by
  rw[DK] at ho
  simpa using ho e he)⟩) h s S V
noncomputable def qg (X:Cx) (A:aO) (sc:Scope) (env:Env) (own:List (Str×Addr)) (P:List Addr) (s:ae) (tgt e:ab) (xs:List PV):Prop:=
 Ev X A s (aG e env) (λx s1=>Ev X A s1 (f9 x) (λit s2=>lc X A tgt sc env own (P++ay own) s xs it s2))
section
variable {tgt:ab} {f:Str} {fp pos:Pos} {args:List ab} {xs:List PV} (OK:bq X O k) (R1:aK A 1) (hE:gi X A O n) (hg:bS sc f=true) (S:ai X s) (V:am X sc env σ own P s.heap)
include OK R1 hE hg S V
theorem xy {dd:PV} {ys:List PV} (hm:aY (pe O n sc σ) args=some [dd]) (hy:oO dd=some ys) (h:(if (f== "enumerate" &&dM tgt)=true then some (du 0 ys) else none)=some xs):qg X A sc env own P s tgt (.Call (.Name f fp) args [] pos) xs:=by refine ifs h λhf h=>dm hf λhf htt=>?_;have hf:=bh hf;have h:=aj h;subst h;subst hf;refine i5 (wt htt) λts tn tp e3_=>?_;subst e3_;refine qD (g:=.type "enumerate") OK S V hg rfl (jE hm) (λs' S' k'=>gU hE hm S' (V.keep k'.kb)) λvs s' S' k' r=>?_;refine bJ r λv u e2_ r1 e4_=>?_;clear r;subst e2_;subst e4_;exact E7 S' R1 (V.keep k'.kb) k' r1 hy
theorem Fv {b:Int} (hm:aY (pe O n sc σ) args=some [.int b]) (h:(if (f== "range")=true then (if (decide (b<=1000000)&&decide (-1000000<=b))=true then some (dU 0 b) else none) else none)=some xs):qg X A sc env own P s tgt (.Call (.Name f fp) args [] pos) xs:=by refine ifs h λhf h=>ifs h λhb h=>dm hb λhb1 hb2=>?_;have hf:=bh hf;have h:=aj h;subst h;subst hf;refine qD (g:=.type "range") OK S V hg rfl (jE hm) (λs' S' k'=>gU hE hm S' (V.keep k'.kb)) λvs s' S' k' r=>?_;refine bJ r λv u e1 r1 e2=>aE r1 λt e3=>?_;subst e1 e2 e3;refine aA (Jq S') (λx s2 h_=>aI h_ λS2 k2 h_=>i5 h_ λr t u h_=>ah h_ λv e hr=>?_) λζ ζ f=>f;subst e;exact fx S2 k2 (Jg S2 R1 (V.keep (k'.trans k2).kb) (k'.trans k2) hr (by decide) (by decide) (of_decide_eq_true hb1) (of_decide_eq_true hb2))
theorem G7 {ys zs:List PV} (hm:aY (pe O n sc σ) args=some [.list ys,.list zs]) (h:(if (f== "zip" &&dM tgt)=true then some (fT ys zs) else none)=some xs):qg X A sc env own P s tgt (.Call (.Name f fp) args [] pos) xs:=by refine ifs h λhf h=>dm hf λhf htt=>?_;have hf:=bh hf;have h:=aj h;subst h;subst hf;refine i5 (wt htt) λts tn tp e3_=>?_;subst e3_;refine qD (g:=.type "zip") OK S V hg rfl (jE hm) (λs' S' k'=>gU hE hm S' (V.keep k'.kb)) λvs s' S' k' r=>?_;refine bJ r λv u e1 r1 r=>bJ r λv2 u2 e2 r2 e3=>?_;subst e1 e2 e3;exact On S' R1 (V.keep k'.kb) k' r1 r2
theorem MX {ys zs us:List PV} (hm:aY (pe O n sc σ) args=some [.list ys,.list zs,.list us]) (h:(if (f== "zip" &&dM tgt&&zs.length==ys.length&&us.length==ys.length)=true then some (gn ys zs us) else none)=some xs):qg X A sc env own P s tgt (.Call (.Name f fp) args [] pos) xs:=by refine ifs h λhf h=>OH hf λhf htt hl1 hl2=>?_;have hf:=bh hf;have h:=aj h;subst h;subst hf;refine i5 (wt htt) λts tn tp e3_=>?_;subst e3_;refine qD (g:=.type "zip") OK S V hg rfl (jE hm) (λs' S' k'=>gU hE hm S' (V.keep k'.kb)) λvs s' S' k' r=>?_;refine bJ r λv u e1 r1 r=>bJ r λv2 u2 e2 r2 r=>bJ r λv3 u3 e3 r3 e4=>?_;subst e1 e2 e3 e4;exact Ik S' R1 (V.keep k'.kb) k' (bh hl1) (bh hl2) r1 r2 r3
end
theorem MK {tgt:ab} {f:Str} {fp pos:Pos} {args:List ab} {xs:List PV} (OK:bq X O k) (R1:aK A 1) (hE:gi X A O n) (S:ai X s) (V:am X sc env σ own P s.heap) (h:cr O (n+1) sc σ (dM tgt) (.Call (.Name f fp) args [] pos)=some xs):qg X A sc env own P s tgt (.Call (.Name f fp) args [] pos) xs:=by
 replace h:=mY▸h;refine ifs h λhg h=>?_;cases hm:aY (pe O n sc σ) args with
 |none=>replace h:=hm▸h;exact ac h
 |some ds=>
  replace h:=hm▸h
  induction ds using aP with
  |nil=>exact ac h
  |cons a r=>
   induction a using PV.casesOn with
   |int i=>
    induction r using aP with
    |nil=>exact Fv OK R1 hE hg S V hm h
    |cons b r=>exact ac h
   |str x=>
    induction r using aP with
    |nil=>exact xy OK R1 hE hg S V hm rfl h
    |cons _ _=>exact ac h
   |tup ys=>
    induction r using aP with
    |nil=>exact xy OK R1 hE hg S V hm rfl h
    |cons _ _=>exact ac h
   |list ys=>
    induction r using aP with
    |nil=>exact xy OK R1 hE hg S V hm rfl h
    |cons b r=>
     induction b using PV.casesOn with
     |list zs=>
      induction r using aP with
      |nil=>exact G7 OK R1 hE hg S V hm h
      |cons c r=>
       induction c using PV.casesOn with
       |list us=>
        induction r using aP with
        |nil=>exact MX OK R1 hE hg S V hm h
        |cons _ _=>exact ac h
       |_=>exact ac h
     |_=>exact ac h
   |_=>exact ac h
theorem HI (OK:bq X O k) (R:aK A (k+2)) (hE:gi X A O n):kX X A O (n+1):=by
 intro sc σ env own P tgt e xs s h S V;have R1:aK A 1:=R.mono (dv _ _);cases hc:CH e with
 |true=>
  induction e using bE with
  |Call f args kws pos=>
   induction f using bE with
   |Name f fp=>
    induction kws using aP with
    |nil=>exact⟨λx=>rfl,MK OK R1 hE S V h⟩
    |cons _ _=>first|exact aZ hc|exact dz hc
   |_=>first|exact aZ hc|exact dz hc
  |Set=>exact ac h
  |_=>first|exact aZ hc|exact dz hc
 |false=>
  replace h:=(ql hc)▸h
  set_option smartUnfolding false in refine om h λd hd h=>?_
  exact⟨NU (Ic hd),aA (hE sc σ env own P e d s hd S V) (λx s1 h_8=>aI h_8 λS1 k1 r1=>⟨S1,k1,Hf S1 R1 (V.keep k1.kb) k1 r1 h⟩) λζ ζ f=>f⟩
end
section
variable {X:Cx} {A:aO} {s:ae} {env:Env} {sc:Scope} {σ:Sg} {own:List (Str×Addr)} {P:List Addr} {O:Orc} {k n:Nat}
theorem oS {o:Bool} {d:Option PV} {r:PV} (h:dZ o d=some r):d=some r/\(o=true->r.flat=true):=by
 cases o with
 |false=>exact⟨h,aZ⟩
 |true=>
  cases d with
  |none=>exact ac h
  |some d=>exact ifs (show (if d.flat=true then some d else none)=some r from h) λhf h=>⟨h,λζ=>aj h▸hf⟩
theorem s7 {d:Option (List PV)} {f:List PV->PV} {r:PV} (h:kR d f=some r):∃xs,d=some xs/\bt xs.length=true/\r=f xs:=by
 cases d with
 |none=>exact ac h
 |some xs=>exact ifs (show (if bt xs.length=true then some (f xs) else none)=some r from h) λhl h=>io _ rfl hl (aj h).symm
theorem tu {h:Heap}:cy [] h:=λζ q=>nomatch q
theorem Ol {f:Str} {fp pos:Pos} {es:List ab} {as:List PV} {d:PV} (OK:bq X O k) (R:aK A (k+2)) (hA:iQ X A O n) (S:ai X s) (V:am X sc env σ own P s.heap) (hg:bS sc f=true) (hm:aY (pa O n sc σ) es=some as) (h:dZ (es.any (cE σ)) (dr O f as)=some d):Ev X A s (aG (.Call (.Name f fp) es [] pos) env) (λv s'=>ao (P++ay own) s'.heap d v):=by
 refine be (oS h) λh1 h2=>?_;cases ho:es.any (cE σ)
 ·exact zD OK S V R hg V.win (mm hm) (.inl rfl) (λs' S' k'=>xA hA ho hm S' (V.keep k'.kb)) V.win (λf v h=>(wT h).1) h1
 ·exact zD (V:=[]) OK S V R hg V.win (mm hm) (.inr (h2 ho)) (λs' S' k'=>qs hA hm S' (V.keep k'.kb)) tu (λf v h=>(wT h).1) h1
end
section
variable {X:Cx} {A:aO} {s:ae} {env:Env} {sc:Scope} {σ:Sg} {own:List (Str×Addr)} {P:List Addr} {O:Orc} {k n:Nat}
theorem lg (Q:List Addr):Q++ay []=Q:=jw Q
theorem L9 {e:ab} {d:PV} (h:pa O (n+1) sc σ e=some d):(∃x p,e=.Name x p/\bj sc x=true/\iu σ x=some d)\/pe O n sc σ e=some d:=by
 induction e using bE with
 |Name x p=>exact qI (show (if bj sc x=true then iu σ x else pe O n sc σ (.Name x p))=some d from h) (λq h=>.inl ⟨x,p,rfl,q,h⟩) λζ h=>.inr h
 |_=>exact .inr h
theorem Li (hE:gi X A O n):iQ X A O (n+1):=by
 intro sc σ env own P e d s h S V;rcases L9 h with ⟨x,p,rfl,hx,h⟩|h
 ·exact sS S V hx h
 ·exact (hE sc σ env own P e d s h S V).mono λv s' ζ ζ r=>⟨r.sub qH,λζ=>r⟩
theorem FM (hE:gi X A O n):w4 X A O (n+1):=by
 intro sc σ env own P e c s h S V
 induction e using bW with
 |none=>have h_:=aj h;clear h;subst h_;exact aS ⟨S,af.refl,.none⟩
 |some e=>
  have h:(match pe O n sc σ e with|some d=>sX (some d)|none=>none)=some c:=h
  set_option smartUnfolding false in refine om h λd hd h=>?_
  exact (hE sc σ env own P e d s hd S V).mono λv s' ζ ζ r=>JX r h
theorem OG {e:ab} {d:PV} {c:Bool} {W:List Addr} (he:isTrue e env (aG e env)=(do let v <- aG e env;ea e.pos;holding [v] (truthy v))) (h1:Ev X A s (aG e env) (λv s'=>ao W s'.heap d v)) (h:eO d=some c):Ev X A s (isTrue e env (aG e env)) (λb ζ=>b=c):=by refine wpAny_isTrue_value (aA h1 (λv s1 h_0=>aI h_0 λS1 k1 r1=>?_) λζ ζ f=>f) he;exact aA (wj S1 r1 h) (λb s2 h_1=>aI h_1 λS2 k2 e2=>⟨S2,k1.trans k2,e2⟩) λζ ζ f=>f
theorem HY {b c:Bool} (h:eO (.bool b)=some c):b=c:=by exact aj h
theorem Lj {l:ab} {ops:List nS} {rs:List ab} {pos:Pos} {d:PV} (h:pe O (n+1) sc σ (.Compare l ops rs pos)=some d):∃op r a b c,ops=[op]/\rs=[r]/\pa O n sc σ l=some a/\pa O n sc σ r=some b/\fE op a b=some c/\d=.bool c:=by
 induction ops using aP with
 |nil=>exact ac h
 |cons op ops=>
  induction ops using aP with
  |cons=>exact ac h
  |nil=>
   induction rs using aP with
   |nil=>exact ac h
   |cons r rs=>
    induction rs using aP with
    |cons=>exact ac h
    |nil=>
     replace h:=tD▸h
     set_option smartUnfolding false in refine j2 h λa b ha hb h=>?_
     refine ah (gy.mp h) λc h1 e2_=>?_;subst e2_;exact⟨op,r,a,b,c,rfl,rfl,ha,hb,h1,rfl⟩
theorem AF {e:ab} {c:Bool} (hA:iQ X A O n) (S:ai X s) (V:am X sc env σ own P s.heap) (he:isTrue e env (aG e env)=(do let v <- aG e env;ea e.pos;holding [v] (truthy v))) (h:(match pa O n sc σ e with|some d=>eO d|none=>none)=some c):Ev X A s (isTrue e env (aG e env)) (λb ζ=>b=c):=by
 set_option smartUnfolding false in refine om h λd hd h=>?_
 exact OG he ((hA sc σ env own P e d s hd S V).mono λv s' ζ ζ r=>r.1) h
theorem IK {l:ab} {ops:List nS} {rs:List ab} {pos:Pos} {c:Bool} (R:aK A (k+2)) (hE':∀m,m<n->iQ X A O m) (S:ai X s) (V:am X sc env σ own P s.heap) (h:(match pa O n sc σ (.Compare l ops rs pos) with|some d=>eO d|none=>none)=some c):Ev X A s (isTrue (.Compare l ops rs pos) env (aG (.Compare l ops rs pos) env)) (λb ζ=>b=c):=by
 set_option smartUnfolding false in refine om h λd hd h=>?_
 induction n using e8 with
 |zero=>exact ac hd
 |succ n=>
  induction n using e8 with
  |zero=>exact ac hd
  |succ n=>
   obtain ⟨op,r,a,b,c',rfl,rfl,ha,hb,h1,rfl⟩:=Lj (n:=n) hd;have:=HY h;subst this;exact Ey (R.mono (dv _ _)) (yV hb) ((hE' n (zf) sc σ env own P l a s ha S V).mono λv s' ζ ζ r=>r.1)
    (λs' S' k'=>(hE' n (zf) sc σ env own P r b s' hb S' (V.keep k'.kb)).mono λv s' ζ ζ r=>r.1) h1
theorem Pq (R:aK A (k+2)) (hE':∀m,m<n->iQ X A O m) (hA:iQ X A O n) (hT:jj X A O n):jj X A O (n+1):=by
 intro sc σ env own P e c s h S V
 induction e using bE with
 |UnaryOp op x pos=>
  cases op with
  |Not=>refine ah (gy.mp (show (pT O n sc σ x).map (!·)=some c from h)) λc' h1 e2_=>?_;subst e2_;exact wpAny_isTrue_Not (aA (hT sc σ env own P x c' s h1 S V) (λb s1 h_2=>aI h_2 λS1 k1 e1=>⟨S1,k1,aa e1 rfl⟩) λζ ζ f=>f)
  |_=>exact AF hA S V rfl h
 |BoolOp op vs pos=>exact wpAny_isTrue_BoolOp (xa (λe d s q S V=>hT sc σ env own P e d s q S V) vs c s h S V)
 |IfExp t b o pos=>exact ac h
 |Compare l ops rs pos=>exact IK R hE' S V h
 |_=>exact AF hA S V rfl h
end
section
variable {X:Cx} {A:aO} {s:ae} {env:Env} {sc:Scope} {σ:Sg} {own:List (Str×Addr)} {P:List Addr} {O:Orc} {k n:Nat}
theorem Oi {d:PV} {o:ab} {name:Str} {apos pos:Pos} {args:List ab} (OK:bq X O k) (R2:aK A 2) (hE:gi X A O n) (hA:iQ X A O n) (S:ai X s) (V:am X sc env σ own P s.heap) (h:pe O (n+1) sc σ (.Call (.Attribute o name apos) args [] pos)=some d):Ev X A s (aG (.Call (.Attribute o name apos) args [] pos) env) (λv s'=>ao (P++ay own) s'.heap d v):=by
 cases hn:qc o with
 |false=>
  induction o using bE with
  |Name x xp=>
   replace h:=tm▸h;refine ifs h λhc h=>mh hc λhp hl h0=>?_;have h0:=(kz _).mp h0;have hl:args.length<30:=jt hl;refine qI h (λhx h=>?_) λζ h=>?_
   ·set_option smartUnfolding false in refine j2 h λr ds h1 h2 h=>?_
    refine be (oS h) λh3 h4=>?_;cases ho:(cE σ (.Name x xp)||args.any (cE σ))
    ·refine be (Dk.mp ho) λho1 ho2=>?_;exact sK (V:=P++ay own) R2 V.win h0 hp hl (mm h2) ((sS S V hx h1).mono λv s' ζ ζ r=>r.2 ho1) (λs' S' k'=>xA hA ho2 h2 S' (V.keep k'.kb)) h3
    ·refine (sK (V:=[]) (W:=[]) R2 tu h0 hp hl (mm h2) ((sS S V hx h1).mono λv s' ζ ζ r=>r.1) (λs' S' k'=>qs hA h2 S' (V.keep k'.kb)) h3).mono λv s' ζ ζ r=>r.flat (h4 ho)
   ·refine ifs h λhg h'=>dm hg λhg1 hn=>?_;have hn:=bh hn;subst hn
    set_option smartUnfolding false in refine om h' λds h2 h=>?_
    exact be (oS h) λh3 h4=>OZ (V:=[]) OK S V R2 hg1 tu hp hl (mm h2) (h4 rfl) (λs' S' k'=>qs hA h2 S' (V.keep k'.kb)) h3
  |_=>first|exact aZ hn|exact dz hn
 |true=>
  replace h:=(y9 hn)▸h;refine ifs h λhc h=>mh hc λhp hl h0=>?_;have h0:=(kz _).mp h0;have hl:args.length<30:=jt hl
  set_option smartUnfolding false in refine j2 h λr ds h1 h2 h=>?_
  refine be (oS h) λh3 h4=>?_;cases ho:args.any (cE σ)
  ·exact sK (V:=P++ay own) R2 V.win h0 hp hl (mm h2) (hE sc σ env own P o r s h1 S V) (λs' S' k'=>xA hA ho h2 S' (V.keep k'.kb)) h3
  ·refine (sK (V:=[]) (W:=[]) R2 tu h0 hp hl (mm h2) ((hE sc σ env own P o r s h1 S V).mono λv s' ζ ζ r=>r.sub qH) (λs' S' k'=>qs hA h2 S' (V.keep k'.kb)) h3).mono λv s' ζ ζ r=>r.flat (h4 ho)
theorem JM {d:PV} {f:Str} {fp pos:Pos} {args:List ab} (OK:bq X O k) (R:aK A (k+2)) (hE:gi X A O n) (hA:iQ X A O n) (S:ai X s) (V:am X sc env σ own P s.heap) (h:pe O (n+1) sc σ (.Call (.Name f fp) args [] pos)=some d):Ev X A s (aG (.Call (.Name f fp) args [] pos) env) (λv s'=>ao (P++ay own) s'.heap d v):=by
 replace h:=wi▸h;refine ifs h λhg h=>?_
 set_option smartUnfolding false in refine om h λds hm h=>?_
 exact Ol OK R hA S V hg hm h
theorem NG (OK:bq X O k) (R:aK A (k+2)) (hlt:∀m,m<n->gi X A O m/\jj X A O m/\kX X A O m) (hE:gi X A O n) (hA:iQ X A O n) (hT:jj X A O n) (hO:w4 X A O n) (hI:kX X A O n):gi X A O (n+1):=by
 intro sc σ env own P e d s h S V;have R1:aK A 1:=R.mono (dv _ _);have R2:aK A 2:=R.mono (dv _ _)
 induction e using bE with
 |Constant c kd pos=>exact Mf S h
 |Name x pos=>
  replace h:=rA▸h;refine qI h (λhx h=>Hw S V hx h) λζ h=>?_
  ·refine ifs h λhg h=>?_;obtain ⟨hnm,v,hm,hr⟩:=OK.gc x d h;exact (oV S V hg hnm (.inl hm)).mono λu s' ζ ζ h_=>be h_ λe1 ζ=>e1▸hr _ _
 |BinOp l op r pos=>
  replace h:=xl▸h
  set_option smartUnfolding false in refine j2 h λa b ha hb h=>?_
  exact pn R1 S V (hE sc σ env own P l a s ha S V) (λs' S' k'=>hE sc σ env own P r b s' hb S' (V.keep k'.kb)) h
 |UnaryOp op x pos=>
  cases op with
  |USub=>replace h:=zX▸h;refine HG h λi hi h=>?_;have h:=aj h;subst h;exact IX (hE sc σ env own P x _ s hi S V)
  |_=>exact ac h
 |BoolOp op vs pos=>exact AT (λe d s q S V=>hE sc σ env own P e d s q S V) vs d s h S V
 |IfExp t b o pos=>replace h:=y0▸h;exact xJ h (λht h=>vv (hT sc σ env own P t true s ht S V) λs' S' k'=>hE sc σ env own P b d s' h S' (V.keep k'.kb)) λht h=>vv (hT sc σ env own P t false s ht S V) λs' S' k'=>hE sc σ env own P o d s' h S' (V.keep k'.kb)
 |Compare l ops rs pos=>
  induction ops using aP with
  |nil=>exact ac h
  |cons op r2=>
   induction r2 using aP with
   |cons _ _=>exact ac h
   |nil=>
    induction rs using aP with
    |nil=>exact ac h
    |cons r r3=>
     induction r3 using aP with
     |cons _ _=>exact ac h
     |nil=>
      replace h:=tD▸h
      set_option smartUnfolding false in refine j2 h λa b ha hb h=>?_
      refine ah (gy.mp h) λc h1 e2_=>?_;subst e2_;exact (LP R2 (yV hb) ((hA sc σ env own P l a s ha S V).mono λv s' ζ ζ r=>r.1) (λs' S' k'=>(hA sc σ env own P r b s' hb S' (V.keep k'.kb)).mono λv s' ζ ζ r=>r.1) h1).mono λv s' ζ ζ e=>e
 |List es pos=>refine bB (s7 h) λds h1 hl e3_=>?_;subst e3_;exact NV V (gU hE h1 S V) hl
 |Tuple es kd pos=>refine bB (s7 h) λds h1 hl e3_=>?_;subst e3_;exact EQ V (gU hE h1 S V) hl
 |Subscript v i pos=>
  cases hsl:m0 i with
  |false=>
   induction i using bE with
   |Slice lo hi st sp=>
    replace h:=B8▸h
    ·set_option smartUnfolding false in refine om h λa h1 h=>om h λcl h2 h=>om h λch h3 h=>om h λcs h4 h=>?_
     exact Fs S V (hE sc σ env own P v a s h1 S V) (λs' S' k'=>hO sc σ env own P lo cl s' h2 S' (V.keep k'.kb)) (λs' S' k'=>hO sc σ env own P hi ch s' h3 S' (V.keep k'.kb)) (λs' S' k'=>hO sc σ env own P st cs s' h4 S' (V.keep k'.kb)) h
   |_=>first|exact aZ hsl|exact dz hsl
  |true=>
   replace h:=(wK hsl)▸h
   set_option smartUnfolding false in refine j2 h λa kk h1 h2 h=>?_
   refine be (oS h) λh3 h4=>?_;cases ho:cE σ v
   ·exact y2 (W':=P++ay own) (λb hb=>hb) ((hA sc σ env own P v a s h1 S V).mono λv s' ζ ζ r=>r.2 ho) (λs' S' k'=>hE sc σ env own P i kk s' h2 S' (V.keep k'.kb)) h3
   ·refine (y2 (W:=[]) (W':=P++ay own) qH ((hA sc σ env own P v a s h1 S V).mono λv s' ζ ζ r=>r.1) (λs' S' k'=>hE sc σ env own P i kk s' h2 S' (V.keep k'.kb)) h3).mono λv s' ζ ζ r=>r.flat (h4 ho)
 |ListComp elt gens sc' pos=>
  induction gens using aP with
  |nil=>exact ac h
  |cons g gs=>
   replace h:=uz▸h;refine ifs h λhsc h=>?_
   set_option smartUnfolding false in refine om h λxs hx h=>?_
   refine bB (s7 h) λys h1 hl e3_=>?_;subst e3_;exact LY R.hh hsc S V (hI sc σ env own P g.target g.iter xs s hx S V) hlt h1 hl
 |Call f args kws pos=>
  induction f using bE with
  |Attribute o name apos=>
   induction kws using aP with
   |cons _ _=>exact ac h
   |nil=>exact Oi OK R2 hE hA S V h
  |Name f fp=>
   induction kws using aP with
   |cons _ _=>exact ac h
   |nil=>exact JM OK R hE hA S V h
  |_=>exact ac h
 |_=>exact ac h
theorem tU (OK:bq X O k) (R:aK A (k+2)):∀n,(∀m,m<=n->gi X A O m/\iQ X A O m/\jj X A O m/\w4 X A O m/\kX X A O m):=by
 intro n
 induction n with
 |zero=>
  intro m hm;have:m=0:=Nat.eq_zero_of_le_zero (by assumption);subst this;refine wx ?_ ?_ ?_ ?_ ?_
  ·intro sc σ env own P e d s h;exact ac h
  ·intro sc σ env own P e d s h;exact ac h
  ·intro sc σ env own P e d s h;exact ac h
  ·intro sc σ env own P e d s h;exact ac h
  ·intro sc σ env own P tgt e d s h;exact ac h
 |succ n ih=>
  intro m hm
  by_cases hle:m<=n
  ·exact ih m hle
  ·have:m=n+1:=Nz hm hle;subst this;refine ty (ih n (bf _)) λhE hA hT hO hI=>?_;refine wx (NG OK R (λm hm=>?_) hE hA hT hO hI) (Li hE) (Pq R (λm hm=>(ih m (dE (by assumption))).2.1) hA hT) (FM hE) (HI OK R hE);refine ty (ih m (dE (by assumption))) λq1 ζ q3 ζ q5=>?_;exact fx q1 q3 q5
theorem dP (OK:bq X O k) (R:aK A (k+2)) (n:Nat):gi X A O n:=(tU OK R n n (bf _)).1
theorem M3 (OK:bq X O k) (R:aK A (k+2)) (n:Nat):iQ X A O n:=(tU OK R n n (bf _)).2.1
theorem kF (OK:bq X O k) (R:aK A (k+2)) (n:Nat):jj X A O n:=(tU OK R n n (bf _)).2.2.1
theorem wz (OK:bq X O k) (R:aK A (k+2)) (n:Nat):kX X A O n:=(tU OK R n n (bf _)).2.2.2.2
end
inductive Out where
 |nx (σ:Sg)
 |bk (σ:Sg)
 |rt (d:PV)
noncomputable def bU (step:Sg->PV->Option Out):List PV->Sg->Option Out
 |[],σ=>some (.nx σ)
 |d::ds,σ=>match step σ d with
  |some (.nx σ')=>bU step ds σ'
  |r=>r
theorem ue {f d ds σ}:bU f (d::ds) σ=(match f σ d with|some (.nx σ1)=>bU f ds σ1|r=>r):=rfl
noncomputable def kg:ab->Bool
 |.Call (.Attribute (.Name _ _) m _) [_] [] _=>m== "split"
 |_=>false
noncomputable def fA (O:Orc) (n:Nat) (sc:Scope) (σ:Sg) (e:ab):Option Ent:=match e with
 |.List es _=>(match aY (pe O n sc σ) es with|some ds=>if bt ds.length then some (.own ds) else none|none=>none)
 |e=>(match pe O n sc σ e with
  |some (.list xs)=>if kg e then some (.own xs) else some (.sh (.list xs))
  |some d=>some (.sh d)
  |none=>none)
noncomputable def fv:ab->Option Str
 |.Name x _=>some x
 |_=>none
noncomputable def jR:List Str->Bool
 |[]=>true
 |x::r=> !r.contains x&&jR r
theorem BS {x r}:jR (x::r)=(!r.contains x&&jR r):=rfl
noncomputable def bP:Sg->List (Str×Ent)->Sg
 |σ,[]=>σ
 |σ,(x,e)::r=>bP (put σ x e) r
theorem O7 {σ x e r}:bP σ ((x,e)::r)=bP (put σ x e) r:=rfl
noncomputable def ml (op:mz) (a b:PV):Option PV:=match op,a,b with
 |.Add,.int x,.int y=>some (.int (x+y))
 |.Sub,.int x,.int y=>some (.int (x - y))
 |.BitXor,.int x,.int y=>some (.int (rI x y))
 |_,_,_=>none
noncomputable def gW (σ:Sg) (x:Str):Option (List PV):=match σ.lookup x with
 |some (.own xs)=>some xs
 |_=>none
noncomputable def j8 (O:Orc) (n:Nat) (sc:Scope) (σ:Sg) (e:ab):Option (List PV):=match e with
 |.Call (.Name f _) [a] [] _=>if bS sc f then (match pe O n sc σ a with|some d=>O.gen f [d]|none=>none) else none
 |_=>none
theorem EA {O:Orc} {n:Nat} {sc:Scope} {σ:Sg} {e:ab} {xs:List PV} (h:j8 O n sc σ e=some xs):∃f q a p,e=.Call (.Name f q) [a] [] p/\bS sc f=true/\∃d,pe O n sc σ a=some d/\O.gen f [d]=some xs:=by
 induction e using bE with
 |Call f a k p=>
  induction f using bE with
  |Name f q=>
   induction a using aP with
   |nil=>exact ac h
   |cons a r=>
    induction r using aP with
    |nil=>
     induction k using aP with
     |nil=>
      have h:(if bS sc f=true then (match pe O n sc σ a with|some d=>O.gen f [d]|none=>none) else none)=some xs:=h
      by_cases hg:bS sc f=true
      ·replace h:=(if_pos hg)▸h;cases hd:pe O n sc σ a with
       |none=>replace h:=hd▸h;exact ac h
       |some d=>replace h:=hd▸h;exact⟨f,q,a,p,rfl,hg,d,hd,h⟩
      ·replace h:=(if_neg hg)▸h;exact ac h
     |cons _ _=>exact ac h
    |cons _ _=>exact ac h
  |_=>exact ac h
 |_=>exact ac h
noncomputable def unown1 (σ:Sg) (x:Str):Sg:=match σ.lookup x with
 |some (.own xs)=>put σ x (.sh (.list xs))
 |_=>σ
noncomputable def lZ:aL->Str
 |.Assign [.Name x _] _ _=>x
 |.For _ (.Name x _) _ _ _=>x
 |_=>Str.empty
mutual
noncomputable def px (O:Orc):Nat->Scope->Sg->aL->Option Out
 |0,_,_,_=>none
 |n+1,sc,σ,st=>match st with
  |.Assign [.Name x _] e _=>if bb sc x then (match fA O n sc σ e with|some d=>some (.nx (put σ x d))|none=>none) else none
  |.Assign [.Tuple ts tn tp] (.Tuple vs vn vp) _=>(match aY fv ts with
    |some xs=>if xs.all (bb sc)&&jR xs&&xs.length==vs.length&&(!(vs.all (mQ 8))||vs.all (mR 8))&&my vs.length 1000
      then (match aY (fA O n sc σ) vs with|some ents=>some (.nx (bP σ (xs.zip ents)))|none=>none) else none
    |none=>(match pe O n sc σ (.Tuple vs vn vp) with
      |some d=>(match bu false sc 4 σ (.Tuple ts tn tp) d with|some σ'=>some (.nx σ')|none=>none)
      |none=>none))
  |.Assign [.Tuple ts tn tp] e _=>if dM e then none else (match pe O n sc σ e with
    |some d=>(match bu false sc 4 σ (.Tuple ts tn tp) d with|some σ'=>some (.nx σ')|none=>none)
    |none=>none)
  |.AugAssign (.Name x _) op e _=>if bb sc x&&bj sc x then (match gS σ x,pe O n sc σ e with
    |some a,some b=>(match ml op a b with|some d=>some (.nx (put σ x (.sh d)))|none=>none)
    |_,_=>none) else none
  |.Expr (.Call (.Attribute (.Name x _) m apos) [e] [] pos) _=>if bj sc x&&apos.endLine==pos.line then (match gW σ x,pe O n sc σ e with
    |some xs,some d=>if m== "append" then (if bt (xs.length+1) then some (.nx (put σ x (.own (xs++[d])))) else none)
      else none
    |_,_=>none) else none
  |.Delete [.Subscript (.Name x _) i _] _=>if bj sc x then (match gW σ x,pe O n sc σ i with
    |some xs,some (.int k)=>(match iD k xs.length with|some j=>if decide (-1000<=k)&&decide (k<1000) then some (.nx (put σ x (.own (xs.eraseIdx j)))) else none|none=>none)
    |_,_=>none) else none
  |.If t b o _=>(match pT O n sc σ t with
    |some true=>aJ O n sc σ b
    |some false=>aJ O n sc σ o
    |none=>none)
  |.For t it b o _=>(match (match cr O n sc σ (dM t) it with|some xs=>some (false,xs)|none=>(match j8 O n sc σ it with|some xs=>some (true,xs)|none=>none)) with
    |some (_,xs)=>(match bU (λσ d=>match bu false sc 4 σ t d with|some σ1=>aJ O n sc σ1 b|none=>none) xs σ with
      |some (.nx σ')=>aJ O n sc σ' o
      |some (.bk σ')=>some (.nx σ')
      |r=>r)
    |none=>none)
  |.Return (some e) _=>(match pe O n sc σ e with|some d=>some (.rt d)|none=>none)
  |.Return none _=>some (.rt .none)
  |.Assert t _ _=>(match pT O n sc σ t with|some true=>some (.nx σ)|_=>none)
  |.Break _=>some (.bk σ)
  |.Pass _=>some (.nx σ)
  |_=>none
noncomputable def aJ (O:Orc):Nat->Scope->Sg->List aL->Option Out
 |0,_,_,_=>none
 |n+1,sc,σ,sts=>match sts with
  |[]=>some (.nx σ)
  |st::r=>(match (match px O n sc σ st with|some o=>some o|none=>(match px O n sc (unown1 σ (lZ st)) st with|some o=>some o|none=>px O n sc (unown σ) st)) with
   |some (.nx σ')=>aJ O n sc σ' r
   |o=>o)
end
section
variable {O:Orc} {n:Nat} {sc:Scope} {σ:Sg} {p q apos pos:Pos} {x:Str} {e:ab}
theorem qN:px O (n+1) sc σ (.Assign [.Name x q] e p)=(if bb sc x=true then (match fA O n sc σ e with|some d=>some (.nx (put σ x d))|none=>none) else none):=rfl
theorem AB {ts vs:List ab} {tn vn:Nat} {tp vp:Pos}:px O (n+1) sc σ (.Assign [.Tuple ts tn tp] (.Tuple vs vn vp) p)=(match aY fv ts with
    |some xs=>if (xs.all (bb sc)&&jR xs&&xs.length==vs.length&&(!(vs.all (mQ 8))||vs.all (mR 8))&&my vs.length 1000)=true
      then (match aY (fA O n sc σ) vs with|some ents=>some (.nx (bP σ (xs.zip ents)))|none=>none) else none
    |none=>(match pe O n sc σ (.Tuple vs vn vp) with
      |some d=>(match bu false sc 4 σ (.Tuple ts tn tp) d with|some σ'=>some (.nx σ')|none=>none)
      |none=>none)):=rfl
theorem Pd {op:mz}:px O (n+1) sc σ (.AugAssign (.Name x q) op e p)=(if (bb sc x&&bj sc x)=true then (match gS σ x,pe O n sc σ e with
    |some a,some b=>(match ml op a b with|some d=>some (.nx (put σ x (.sh d)))|none=>none)
    |_,_=>none) else none):=rfl
theorem Hc {m:Str}:px O (n+1) sc σ (.Expr (.Call (.Attribute (.Name x q) m apos) [e] [] pos) p)=(if (bj sc x&&apos.endLine==pos.line)=true then (match gW σ x,pe O n sc σ e with
    |some xs,some d=>if (m== "append")=true then (if bt (xs.length+1)=true then some (.nx (put σ x (.own (xs++[d])))) else none)
      else none
    |_,_=>none) else none):=rfl
theorem Hn {sp:Pos}:px O (n+1) sc σ (.Delete [.Subscript (.Name x q) e sp] p)=(if bj sc x=true then (match gW σ x,pe O n sc σ e with
    |some xs,some (.int k)=>(match iD k xs.length with|some j=>if (decide (-1000<=k)&&decide (k<1000))=true then some (.nx (put σ x (.own (xs.eraseIdx j)))) else none|none=>none)
    |_,_=>none) else none):=rfl
theorem FD {b o:List aL}:px O (n+1) sc σ (.If e b o p)=(match pT O n sc σ e with
    |some true=>aJ O n sc σ b
    |some false=>aJ O n sc σ o
    |none=>none):=rfl
theorem oE {t:ab} {b o:List aL}:px O (n+1) sc σ (.For t e b o p)=(match (match cr O n sc σ (dM t) e with|some xs=>some (false,xs)|none=>(match j8 O n sc σ e with|some xs=>some (true,xs)|none=>none)) with
    |some (_,xs)=>(match bU (λσ d=>match bu false sc 4 σ t d with|some σ1=>aJ O n sc σ1 b|none=>none) xs σ with
      |some (.nx σ')=>aJ O n sc σ' o
      |some (.bk σ')=>some (.nx σ')
      |r=>r)
    |none=>none):=rfl
theorem JU:px O (n+1) sc σ (.Return (some e) p)=(match pe O n sc σ e with|some d=>some (.rt d)|none=>none):=rfl
theorem Gx {m:Option ab}:px O (n+1) sc σ (.Assert e m p)=(match pT O n sc σ e with|some true=>some (.nx σ)|_=>none):=rfl
theorem oH {st:aL} {r:List aL}:aJ O (n+1) sc σ (st::r)=(match (match px O n sc σ st with|some o=>some o|none=>(match px O n sc (unown1 σ (lZ st)) st with|some o=>some o|none=>px O n sc (unown σ) st)) with
   |some (.nx σ')=>aJ O n sc σ' r
   |o=>o):=rfl
noncomputable def ou:ab->Bool
 |.List .. =>false
 |_=>true
theorem qU (h:ou e=true):fA O n sc σ e=(match pe O n sc σ e with
  |some (.list xs)=>if kg e=true then some (.own xs) else some (.sh (.list xs))
  |some d=>some (.sh d)
  |none=>none):=by induction e using bE<;>first|rfl|exact aZ h|exact dz h
end
section
variable {X:Cx} {A:aO} {E:Value->ae->Prop} {s:ae} {env:Env} {sc:Scope} {σ σ':Sg} {own:List (Str×Addr)} {P P' V:List Addr} {W:List Addr} {O:Orc} {k n:Nat}
theorem am.moveO {h h':Heap} (VV:am X sc env σ own P h) (k:Kb V h h') (hv:∀b∈V,b∈P\/h.get? b=none\/∀o,h.get? b=some o->∀its n,o.data≠.seq its n) (ho:∀b∈V,b∉ay own) (hl:env.locals∉V) (hc:∀x c,(x,c)∈env.cells->c∉V) (hp:∀b∈P',∃o,h'.get? b=some o/\cK o=false) (hs:∀b∈P',b∈P\/h.get? b=none):am X sc env σ own P' h':=
 have hv2:∀b∈V,b∈P++ay own\/h.get? b=none\/∀o,h.get? b=some o->∀its n,o.data≠.seq its n:=λb hb=>(hv b hb).imp_left λq=>bI _ q
 have hs2:∀b∈P'++ay own,b∈P++ay own\/h.get? b=none:=λb hb=>(bo.mp hb).elim (λq=>(hs b q).imp_left λz=>bI _ z) λq=>.inl (bO _ q)
 have va:∀{x v},dO env h x v->dO env h' x v:=λ{x v} r=>by
  rcases r with ⟨h1,m,n,h2⟩|⟨h1,c,e,h2⟩
  ·exact .inl ⟨h1,m,nv n k hl,h2⟩
  ·exact .inr ⟨h1,c,e,jb h2 k (hc x c (cm e))⟩
 have onv:∀{x a},(x,a)∈own->a∉V:=λ{x a} hm q=>ho a q (mG hm)
 {VV with
  pin:=hp
  ns:=aE VV.ns λm n=>⟨m,nv n k hl⟩
  cells:=λx c hm=>aE (VV.cells x c hm) λv n=>⟨v,jb n k (hc x c hm)⟩
  vars:=λx d e=>ah (VV.vars x d e) λv h1 h2=>⟨v,va h1,ao.kb k hv2 hs2 d v h2⟩
  owns:=λx xs e=>fw (VV.owns x xs e) λa vs n h1 h2 h3 h4 h5=>⟨a,vs,n,h1,va h2,k a _ (onv (cm h1)) rfl h3,h4,ax.kb k hv2 hs2 xs vs h5⟩
  ownP:=λx a hm q=>(hs a q).elim (VV.ownP x a hm) λz=>by obtain ⟨_,its,n,e⟩:=VV.ownF x a hm;replace e:=z▸e;exact ac e
  ownF:=λx a hm=>be (VV.ownF x a hm) λh1 h_=>jJ h_ λits n h2=>⟨h1,its,n,k a _ (onv hm) rfl h2⟩}
theorem am.sub {h:Heap} (VV:am X sc env σ own P h) (hs:∀b∈P',b∈P):am X sc env σ own P' h:=
 VV.moveO (V:=[]) Kb.refl (λζ q=>nomatch q) (λζ q=>nomatch q) (λq=>nomatch q) (λζ ζ ζ q=>nomatch q) (λb hb=>VV.pin b (hs b hb)) λb hb=>.inl (hs b hb)
theorem am.pins {s':ae} (VV:am X sc env σ own P s.heap) (k:Kb [] s.heap s'.heap) (hp:∀b∈P',∃o,s'.heap.get? b=some o/\cK o=false) (hs:∀b∈P',b∈P\/s.heap.get? b=none):am X sc env σ own P' s'.heap:=
 VV.moveO k (λζ q=>nomatch q) (λζ q=>nomatch q) (λq=>nomatch q) (λζ ζ ζ q=>nomatch q) hp hs
theorem am.congr {h:Heap} (VV:am X sc env σ own P h) (he:∀x,σ'.lookup x=σ.lookup x):am X sc env σ' own P h:=
 {VV with
  vars:=λx d e=>VV.vars x d ((he x).symm.trans e)
  owns:=λx xs e=>VV.owns x xs ((he x).symm.trans e)}
theorem rx:∀(σ:Sg) (x:Str),(unown σ).lookup x=(match σ.lookup x with|some (.own xs)=>some (.sh (.list xs))|r=>r)
 |[],x=>rfl
 |(y,.own xs)::r,x=>by
  simp only[Bn,AU,cM];cases x==y
  ·exact rx r x
  ·rfl
 |(y,.sh d)::r,x=>by
  simp only[Bn,AU,cM];cases x==y
  ·exact rx r x
  ·rfl
theorem am.unown {h:Heap} (VV:am X sc env σ own P h):am X sc env (unown σ) [] P h:=
 {VV with
  vars:=λx d e=>by
   rw[rx] at e
   revert e;refine cn (σ.lookup x) λu he=>?_
   induction u using bW with
   |none=>exact ac
   |some f=>induction f using Ent.casesOn with
   |own xs=>
    intro e;cases e
    refine fw (VV.owns x xs he) λa vs n h1 h2 h3 h4 h5=>?_
    refine az _ h2 ?_
    skip
    exact j4 a vs rfl (by rw[lg];exact VV.ownP x a (cm h1)) ⟨n,h3⟩ h4 (h5.sub λb hb=>bI _ (by rw[lg] at hb;exact hb))
   |sh d'=>
    intro e;refine ah (VV.vars x d (he.trans e)) λv h1 h2=>?_
    exact az v h1 (h2.sub λb hb=>bI _ (by rw[lg] at hb;exact hb))
  owns:=λx xs e=>by
   rw[rx] at e
   revert e;refine aX (σ.lookup x) λu=>?_
   induction u using bW with
   |none=>exact ac
   |some f=>induction f using Ent.casesOn<;>(intro e;cases e)
  ownA:=λx y a h=>nomatch h
  ownF:=λx a h=>nomatch h
  ownU:=λx a b h=>nomatch h
  ownP:=λx a h=>nomatch h}
theorem am.unown1 {h:Heap} (VV:am X sc env σ own P h) (x:Str):∃own',am X sc env (Mine.unown1 σ x) own' P h/\∀b∈ay own',b∈ay own:=by
 delta Mine.unown1;refine cn (σ.lookup x) λu hx=>?_
 induction u using bW with
 |none=>exact az own VV (λb hb=>hb)
 |some f=>induction f using Ent.casesOn with
 |sh d=>exact az own VV (λb hb=>hb)
 |own xs=>
  refine fw (VV.owns x xs hx) λa vs n h1 h2 h3 h4 h5=>?_;have hm:=cm h1;have sub:∀b∈P++ay (ee own x),b∈P++ay own:=λb hb=>(bo.mp hb).elim (λq=>bI _ q) λq=>bO _ (gw q);refine az (ee own x) ?_ (λb hb=>gw hb)
  exact {VV with
   vars:=λz d e=>by
    rw[dp] at e
    by_cases q:z=x
    ·replace e:=(if_pos q)▸e;cases e;refine az _ (q▸h2) ?_;skip;refine j4 a vs rfl (λhz=>?_) ⟨n,h3⟩ h4 (h5.sub sub);rcases bo.mp hz with hz|hz
     ·exact VV.ownP x a hm hz
     ·obtain ⟨⟨y,c⟩,hy,rfl⟩:=dG.mp hz;refine be (cP hy) λhy1 hy2=>?_;exact hy2 (VV.ownA y x _ hy1 hm)
    ·replace e:=(if_neg q)▸e;refine ah (VV.vars z d e) λu g1 g2=>?_;exact az u g1 (g2.sub sub)
   owns:=λz zs e=>by
    rw[dp] at e
    by_cases q:z=x
    ·replace e:=(if_pos q)▸e;cases e
    ·replace e:=(if_neg q)▸e;refine fw (VV.owns z zs e) λc us n' g1 g2 g3 g4 g5=>?_;exact jl c us n' ((ma q).trans g1) g2 g3 g4 (g5.sub sub)
   ownA:=λz y c g1 g2=>VV.ownA z y c (cP g1).1 (cP g2).1
   ownF:=λz c g1=>VV.ownF z c (cP g1).1
   ownU:=λz c e g1 g2=>VV.ownU z c e (cP g1).1 (by refine aH (ma (cP g1).2) ?_;exact g2)
   ownP:=λz c g1=>VV.ownP z c (cP g1).1}
end
section
variable {X:Cx} {A:aO} {E:Value->ae->Prop} {s:ae} {env:Env} {sc:Scope} {σ σ':Sg} {own:List (Str×Addr)} {P P' V:List Addr} {W:List Addr} {O:Orc} {k n:Nat}
theorem PH {x:Str} {a:Addr} {n:Nat} {xs:List PV} {vs:List Value} {Q:Unit->ae->Prop} (S:ai X s) (VV:am X sc env σ own (a::P) s.heap) (hx:bb sc x=true) (h0:X.h0.get? a=none) (haP:a∉P) (ha1:s.heap.get? a=some {cls:=.type "list",data:=.seq vs.toArray n}) (hlen:vs.length<=sizeLine) (r:ax ((a::P)++ay own) s.heap xs vs)
  (h:∀s',ai X s'->af (aV sc env own) s s'->am X sc env (put σ x (.own xs)) ((x,a)::ee own x) P s'.heap->Q () s'):
  aq (aw X.prog X.w) A (jU env x (.ref a)) Q E s:=by
 refine tl VV hx λh' tk b hb hs hv hz hn hcel ho=>?_;have hex2:∃o,h'.get? b=some o/\cK o=false:=by
  rcases av.mp hb with q|q
  ·obtain ⟨m,o,_,_,e,hd,_⟩:=hn;exact az o (q▸e) (fy λvs z=>by replace z:=hd▸z;cases z)
  ·refine ah (er q) λy hm ζ=>?_;refine bR (hcel y _ hm) λv o e hd=>?_;exact az o e (fy λvs z=>by replace z:=hd▸z;cases z)
 have hex:∃o,h'.get? b=some o:=ah hex2 λo e ζ=>⟨o,e⟩
 have hfr:X.h0.get? b=none:=by
  rcases av.mp hb with q|q
  ·exact q▸VV.fl
  ·refine ah (er q) λy hm ζ=>?_;exact VV.fc y _ hm
 have hkb:Kb [b] s.heap h':=λc o hc ζ e=>(hs.2 c (λq=>hc (by simp[q]))).trans e;have hbW:b∈aV sc env own:=by
  unfold aV;rcases av.mp hb with q|q
  ·exact av.mpr (.inl q)
  ·exact cg _ (bI _ q)
 have hsub:∀c,c∈P++ay ((x,a)::ee own x)->c∈(a::P)++ay own:=λc hc=>by
  rcases bo.mp hc with q|q
  ·exact bI _ (cg _ q)
  ·rcases av.mp q with q|q
   ·exact bI _ (av.mpr (.inl q))
   ·exact bO _ (gw q)
 have rep:∀{d v},ao ((a::P)++ay own) s.heap d v->ao (P++ay ((x,a)::ee own x)) h' d v:=λ{d v} r=>
  ao.kb hkb (λc hc=>.inr (.inr λo e=>(ho o (by simp at hc;exact hc▸e)).2)) (λc hc=>.inl (hsub c hc)) d v r
 have repL:∀{d v},ax ((a::P)++ay own) s.heap d v->ax (P++ay ((x,a)::ee own x)) h' d v:=λ{d v} r=>
  ax.kb hkb (λc hc=>.inr (.inr λo e=>(ho o (by simp at hc;exact hc▸e)).2)) (λc hc=>.inl (hsub c hc)) d v r
 have lst:∀{b its n},s.heap.get? b=some {cls:=.type "list",data:=.seq its n}->h'.get? b=some {cls:=.type "list",data:=.seq its n}:=λ{b its n} e=>
  (hs.2 b (λq=>(ho _ (q▸e)).2 _ _ rfl)).trans e
 have oldne:∀z c,(z,c)∈own->c≠a:=λz c hm q=>VV.ownP z c hm (q▸js);refine h _ (S.same hfr (λo e=>(ho o e).1) hs) (af.but hbW hs hex) ?_
 exact {VV with
  ns:=hn
  pin:=λc hc=>by
   by_cases q:c=b
   ·exact q▸hex2
   ·refine ah (VV.pin c (cg _ hc)) λo e ht=>?_;exact az o ((hs.2 c q).trans e) ht
  cells:=hcel
  vars:=λz d' e=>by
   rw[dp] at e
   by_cases q:z=x
   ·replace e:=(if_pos q)▸e;cases e
   ·replace e:=(if_neg q)▸e;refine ah (VV.vars z d' e) λu h1 h2=>?_;exact az u (hz z u q h1) (rep h2)
  owns:=λz ys e=>by
   rw[dp] at e
   by_cases q:z=x
   ·replace e:=(if_pos q)▸e;cases e;exact jl a vs n (by refine aa q ?_;simp[d9]) (q▸hv) (lst ha1) hlen (repL r)
   ·replace e:=(if_neg q)▸e;refine fw (VV.owns z ys e) λc us n' h1 h2 h3 h4 h5=>?_;refine jl c us n' ?_ (hz z _ q h2) (lst h3) h4 (repL h5);have h6:(z==x)=false:=by simpa using q
    simp only[cM,h6];exact (ma q).trans h1
  ownA:=λz y c h1 h2=>by
   rcases av.mp h1 with q|q<;>rcases av.mp h2 with q2|q2
   ·cases q;cases q2;rfl
   ·cases q;exact absurd rfl (oldne y _ (cP q2).1)
   ·cases q2;exact absurd rfl (oldne z _ (cP q).1)
   ·exact VV.ownA z y c (cP q).1 (cP q2).1
  ownF:=λz c h1=>by
   rcases av.mp h1 with q|q
   ·cases q;exact⟨h0,vs.toArray,n,lst ha1⟩
   ·obtain ⟨h2,its,n',h3⟩:=VV.ownF z c (cP q).1;exact⟨h2,its,n',lst h3⟩
  ownU:=λz c e h1 h2=>by
   rcases av.mp h1 with q|q
   ·cases q;simp[d9] at h2;exact h2
   ·have h6:(z==x)=false:=by simpa using (cP q).2
    simp only[cM,h6] at h2;exact VV.ownU z c e (cP q).1 (by refine aH (ma (cP q).2) ?_;exact h2)
  ownP:=λz c h1=>by
   rcases av.mp h1 with q|q
   ·cases q;exact haP
   ·exact λhz=>VV.ownP z c (cP q).1 (cg _ hz)}
theorem zL {x:Str} {a:Addr} {xs ys:List PV} {ws:List Value} {n':Nat} {h':Heap} (S:ai X s) (VV:am X sc env σ own P s.heap) (hx:σ.lookup x=some (.own xs)) (ha:own.lookup x=some a) (hs:iX a s.heap h') (he:h'.get? a=some {cls:=.type "list",data:=.seq ws.toArray n'}) (hl:ws.length<=sizeLine) (r:ax (P++ay own) s.heap ys ws):
  ai X {s with heap:=h'}/\af (aV sc env own) s {s with heap:=h'}/\am X sc env (put σ x (.own ys)) own P h':=by
 refine fw (VV.owns x xs hx) λa' vs n h1 h2 h3 h4 h5=>?_;replace h1:=ha▸h1;have h_:=aj h1;clear h1;subst h_;have hm:=cm ha;refine be (VV.ownF x a hm) λf1 ζ=>?_;have hw:a∈ay own:=mG hm;have hkb:Kb [a] s.heap h':=λc o hc ζ e=>(hs.2 c (λq=>hc (by simp[q]))).trans e;have rep:∀{d v},ao (P++ay own) s.heap d v->ao (P++ay own) h' d v:=λ{d v} r=>
  ao.kb hkb (λc hc=>.inl (by simp at hc;exact hc▸bO _ hw)) (λc hc=>.inl hc) d v r
 have repL:∀{d v},ax (P++ay own) s.heap d v->ax (P++ay own) h' d v:=λ{d v} r=>
  ax.kb hkb (λc hc=>.inl (by simp at hc;exact hc▸bO _ hw)) (λc hc=>.inl hc) d v r
 have hln:env.locals≠a:=λq=>by obtain ⟨m,o,_,_,e,hd,_⟩:=VV.ns;rw[q,h3] at e;have h_:=aj e;clear e;subst h_;cases hd
 have hcn:∀y c,(y,c)∈env.cells->c≠a:=λy c hm q=>by refine bR (VV.cells y c hm) λv o e hd=>?_;rw[q,h3] at e;have h_:=aj e;clear e;subst h_;cases hd
 have va:∀{z v},dO env s.heap z v->dO env h' z v:=λ{z v} r=>by
  rcases r with ⟨h1,m,n,h2⟩|⟨h1,c,e,h2⟩
  ·exact .inl ⟨h1,m,n.sameBut hs hln,h2⟩
  ·exact .inr ⟨h1,c,e,h2.sameBut hs (hcn z c (cm e))⟩
 refine fx (S.same f1 (λo e=>by replace e:=h3▸e;have h_:=aj e;clear e;subst h_;exact dJ rfl (by decide)) hs) (af.but (cg _ (bO _ hw)) hs ⟨_,he⟩) ?_
 exact {VV with
  ns:=aE VV.ns λm n=>⟨m,n.sameBut hs hln⟩
  cells:=λy c hm=>aE (VV.cells y c hm) λv n=>⟨v,n.sameBut hs (hcn y c hm)⟩
  pin:=λc hc=>by
   by_cases q:c=a
   ·exact az _ (q▸he) rfl
   ·refine ah (VV.pin c hc) λo e ht=>?_;exact az o ((hs.2 c q).trans e) ht
  vars:=λz d e=>by
   rw[dp] at e
   by_cases q:z=x
   ·replace e:=(if_pos q)▸e;cases e
   ·replace e:=(if_neg q)▸e;refine ah (VV.vars z d e) λu h1 h2=>?_;exact az u (va h1) (rep h2)
  owns:=λz zs e=>by
   rw[dp] at e
   by_cases q:z=x
   ·replace e:=(if_pos q)▸e;cases e;exact jl a ws n' (q▸ha) (q▸va h2) he hl (repL r)
   ·replace e:=(if_neg q)▸e;refine fw (VV.owns z zs e) λc us n2 h1 h2 h3 h4 h5=>?_;have hca:c≠a:=λe=>q (VV.ownA z x a (e▸cm h1) hm);exact jl c us n2 h1 (va h2) ((hs.2 c hca).trans h3) h4 (repL h5)
  ownF:=λz c hm2=>by
   obtain ⟨h1,its,n2,h2⟩:=VV.ownF z c hm2
   by_cases q:c=a
   ·exact⟨h1,_,_,q▸he⟩
   ·exact⟨h1,its,n2,(hs.2 c q).trans h2⟩}
end
section
variable {X:Cx} {A:aO} {s s0:ae} {env:Env} {sc:Scope} {σ σ':Sg} {own:List (Str×Addr)} {P P' V:List Addr} {W:List Addr} {O:Orc} {k n:Nat}
theorem xF {z:List (Str×df)} {l:List Str} {tk:df} (S:ai X s) (hz:z.map (·.1)=l) (hl:l.length<=sizeLine) (hp:∀y∈l,y.length<=sizeLine):ai X {s with toks:=tk,heap:=s.heap.push {cls:=.type "list",data:=.seq (lr z).toArray}}/\
  af [] s {s with toks:=tk,heap:=s.heap.push {cls:=.type "list",data:=.seq (lr z).toArray}}/\
  ∃a vs m,n8 s.heap.objs.size=.ref a/\s.heap.get? a=none/\(s.heap.push {cls:=.type "list",data:=.seq (lr z).toArray}).get? a=some {cls:=.type "list",data:=.seq (vs:List Value).toArray m}/\vs.length<=sizeLine/\
   ∀W h,ax W h (l.map .str) vs:=by
 subst hz;refine⟨S.keep bK,af.keep bK,_,lr z,_,rfl,eJ,dH _ rfl,by rw[zK];exact (bx ..)▸hl,λW h=>wg λp hpz=>hp _ (mG hpz)⟩
theorem Mq {x y:Str} {t u:df} (S:ai X s) (hx:x.length<=sizeLine) (hy:(y.length != 0)=true) (hl:bt (x.length+2)=true):Ev X A s (call (.builtin "str.split") [.str x t,.str y u]) (λv s'=>∃a vs m,v=.ref a/\s.heap.get? a=none/\s'.heap.get? a=some {cls:=.type "list",data:=.seq (vs:List Value).toArray m}/\vs.length<=sizeLine/\
   ∀W h,ax W h ((Txt.split x y).map .str) vs):=by
 have hy0:(y.length==0)=false:=(kz _).mp hy;have hy1:1<=y.length:=Dp (of_decide_eq_false hy0);have hlen:(Txt.split x y).length<=sizeLine:=al (split_le x y) (eH hl);have hpart:∀p∈Txt.split x y,p.length<=sizeLine:=λp hp=>al (C4 hy1 p hp) hx;cases h1:(decide (x.length<y.length)||decide (mJ x<mJ y))
 ·cases hf:(jr x y 0 x.length (x.length+1)).isEmpty
  ·have e:Txt.split x y=x6 x (jr x y 0 x.length (x.length+1)) y.length:=by unfold Txt.split;rw[if_neg (by refine aa h1 ?_;exact iZ),if_neg (by refine aa hf ?_;exact iZ)]
   refine mH pI (nY _ _ _) pJ (rP _ _) (Qc x y t u h1 hy0 hf hx (by refine aH e ?_;exact hlen)) ?_;have:=xF (tk:=s.toks+(x6 x (jr x y 0 x.length (x.length+1)) y.length).length) (z:=Dq s.toks (Txt.split x y)) S (Dr _ _) hlen hpart;rw[<- Ds,e] at this;refine aa e ?_;exact this
  ·have e:Txt.split x y=[x]:=by unfold Txt.split;rw[if_neg (by refine aa h1 ?_;exact iZ),if_pos hf]
   refine aa e ?_;exact mH pI (nY _ _ _) pJ (rP _ _) (Qd x y t u h1 hy0 hf)
    (xF (tk:=s.toks) (z:=[(x,t)]) S rfl (by refine (?_:1<=sizeLine);decide) (by simpa using hx))
 ·have e:Txt.split x y=[x]:=by unfold Txt.split;exact aa (if_pos h1) rfl
  refine aa e ?_;exact mH pI (nY _ _ _) pJ (rP _ _) (Qe x y t u h1)
    (xF (tk:=s.toks) (z:=[(x,t)]) S rfl (by refine (?_:1<=sizeLine);decide) (by simpa using hx))
noncomputable def wh (s:ae) (W:List Addr) (xs:List PV) (v:Value) (s':ae):Prop:=
 ∃a vs m,v=.ref a/\s.heap.get? a=none/\s'.heap.get? a=some {cls:=.type "list",data:=.seq (vs:List Value).toArray m}/\vs.length<=sizeLine/\ax (a::W) s'.heap xs vs
noncomputable def zW (s:ae) (W:List Addr) (e:Ent) (v:Value) (s':ae):Prop:=match e with
 |.sh d=>ao W s'.heap d v
 |.own xs=>wh s W xs v s'
set_option backward.match.sparseCases true in
theorem NL {o:ab} {apos pos:Pos} {args:List ab} {r:PV} {ds xs:List PV} (hds:ds.length=1) (h0:ke o=false) (hp:(apos.endLine==pos.line)=true) (hl:args.length<30) (hn:∀e∈args,dT e=true) (h1:Ev X A s (aG o env) (λv s'=>ao V s'.heap r v)) (he:∀s',ai X s'->af [] s s'->Ev X A s' (ez (bZ pos (bY args env))) (λvs s2=>ax V s2.heap ds vs)) (h:cY r "split" ds=some (.list xs)):Ev X A s (aG (.Call (.Attribute o "split" apos) args [] pos) env) (λv s'=>wh s W xs v s'):=by
 obtain ⟨d0,rfl⟩:∃d0,ds=[d0]:=List.length_eq_one_iff.mp hds
 induction r using PV.casesOn with
 |str x=>
  induction d0 using PV.casesOn with
  |str y=>have h:(if (y.length != 0&&bt (x.length+2))=true then some (PV.list ((Txt.split x y).map .str)) else none)=some (.list xs):=h;refine ifs h λhc h=>?_;have h:=Fu (aj h);subst h;simp only[bF] at hc;refine ss (id:= "str.split") h0 hp hl hn h1 (λov s1 pl Q ζ ζ r1 q=>zc r1 rfl q) (λov s' S' k' ζ=>he s' S' k') λov vs s1 s2 S1 k1 r1 S2 k2 r2=>?_;obtain ⟨⟨t,rfl⟩,hx⟩:=r1;obtain ⟨v,u,rfl,⟨⟨t2,rfl⟩,_⟩,rfl⟩:=r2;refine (Mq S2 hx hc.1 hc.2).mono λv s' ζ k' h_0=>fw h_0 λa vs m e1 e2 e3 e4 e5=>?_;exact jl a vs m e1 ((k1.trans k2).none e2) e3 e4 (e5 _ _)
  |list ys=>delta cY at h;dsimp only at h;rw[if_neg (by decide)] at h;exact ac h
  |_=>exact ac h
 |_=>exact ac h
theorem Ll {e:ab} (h:kg e=true):∃x xp m apos a pos,e=.Call (.Attribute (.Name x xp) m apos) [a] [] pos/\(m== "split")=true:=by
 induction e using bE with
 |Call f args kws pos=>
  induction f using bE with
  |Attribute v m apos=>
   induction v using bE with
   |Name x xp=>
    induction args using aP with
    |nil=>first|exact aZ h|exact dz h
    |cons a r=>
     induction r using aP with
     |cons _ _=>first|exact aZ h|exact dz h
     |nil=>
      induction kws using aP with
      |cons _ _=>first|exact aZ h|exact dz h
      |nil=>exact⟨_,_,_,_,_,_,rfl,h⟩
   |_=>first|exact aZ h|exact dz h
  |_=>first|exact aZ h|exact dz h
 |_=>first|exact aZ h|exact dz h
theorem Bv {o:Option PV} {b:Bool} {ent:Ent} {G:Prop} (h:(match o with|some (.list xs)=>if b=true then some (Ent.own xs) else some (.sh (.list xs))|some d=>some (.sh d)|none=>none)=some ent) (k1:∀xs,o=some (.list xs)->b=true->ent=.own xs->G) (k2:∀d,o=some d->ent=.sh d->G):G:=by
 induction o using bW with
 |none=>exact ac h
 |some d=>
  induction d using PV.casesOn with
  |list xs=>cases b with
   |true=>exact k1 xs rfl rfl (aj h).symm
   |false=>exact k2 _ rfl (aj h).symm
  |_=>exact k2 _ rfl (aj h).symm
theorem BM (OK:bq X O k) (R:aK A (k+2)) {e:ab} {ent:Ent} (h:fA O n sc σ e=some ent) (S:ai X s) (VV:am X sc env σ own P s.heap):Ev X A s (aG e env) (λv s'=>zW s (P++ay own) ent v s'):=by
 cases hn:ou e with
 |false=>
  induction e using bE with
  |List es pos=>
   have h:(match aY (pe O n sc σ) es with|some ds=>if bt ds.length=true then some (Ent.own ds) else none|none=>none)=some ent:=h
   set_option smartUnfolding false in refine om h λds hm h=>?_
   refine ifs h λhl h=>?_;have h_:=aj h;clear h;subst h_;refine QR (aA (gU (dP OK R n) hm S VV) (λvs s1 h_1=>aI h_1 λS1 k1 r1=>?_) λζ ζ f=>f);have hle:vs.length<=sizeLine:=by refine aa r1.length ?_;exact eH hl
   refine⟨hle,S1.keep bK,k1.trans (af.keep bK),_,vs,_,rfl,k1.none eJ,dH _ rfl,hle,?_⟩;exact l6 (W':=[s1.heap.objs.size]) r1 bK λb hb=>by simp at hb;exact hb▸eJ
  |_=>first|exact aZ hn|exact dz hn
 |true=>
  replace h:=(qU hn)▸h;refine Bv h (λxs hd hs h'=>?_) λd hd h'=>?_
  ·subst h'
   ·obtain ⟨x,xp,m,apos,arg,pos,rfl,hs⟩:=Ll hs;have hs:=bh hs;subst hs
    induction n using e8 with
    |zero=>exact ac hd
    |succ n=>
     replace hd:=tm▸hd;refine ifs hd λhc hd=>?_;refine mh hc λhp hl h0=>?_;have h0:=(kz _).mp h0;have hA:=M3 OK R n;refine qI hd (λhx hd=>?_) λζ hd=>?_
     ·set_option smartUnfolding false in refine j2 hd λr ds h1 h2 hd=>?_
      refine be (oS hd) λh3 ζ=>?_;have hds:ds.length=1:=by refine bJ (l8 h2) λy r' ζ hr e4_=>?_;subst e4_;exact congrArg (λz=>pD (iB z)) (aj hr).symm
      exact NL (V:=[]) hds h0 hp (jt hl) (mm h2) ((sS S VV hx h1).mono λv s' ζ ζ r=>r.1) (λs' S' k'=>qs hA h2 S' (VV.keep k'.kb)) h3
     ·exact ifs hd λhg hd=>dm hg λζ hg=>absurd hg (by decide)
  ·subst h';exact dP OK R n sc σ env own P e _ s hd S VV
end
noncomputable def fS (X:Cx) (sc:Scope) (env:Env) (own:List (Str×Addr)) (P:List Addr) (s:ae) (σ':Sg) (s':ae):Prop:=
 ∃own',ai X s'/\af (aV sc env own) s s'/\dD own own' s/\am X sc env σ' own' P s'.heap
noncomputable def dC (X:Cx) (sc:Scope) (env:Env) (own:List (Str×Addr)) (P:List Addr) (s:ae) (o:Out) (f:fk) (s':ae):Prop:=match o with
 |.nx σ'=>f=.next/\fS X sc env own P s σ' s'
 |.bk σ'=>f=.brk/\fS X sc env own P s σ' s'
 |.rt d=>∃v,f=.ret v/\ai X s'/\af (aV sc env own) s s'/\ao P s'.heap d v
section
variable {X:Cx} {A:aO} {s s0 s':ae} {env:Env} {sc:Scope} {σ σ':Sg} {own own':List (Str×Addr)} {P P' V:List Addr} {W:List Addr} {O:Orc} {k n:Nat}
theorem fS.keep (k1:af [] s0 s) (h:fS X sc env own P s σ' s'):fS X sc env own P s0 σ' s':=
 let ⟨own',h1,h2,h3,h4⟩:=h
 ⟨own',h1,k1.nil.trans h2,λb hb=>(h3 b hb).imp_right λz=>k1.none z,h4⟩
theorem dC.keep {o:Out} {f:fk} (k1:af [] s0 s) (h:dC X sc env own P s o f s'):dC X sc env own P s0 o f s':=by
 cases o with
 |nx σ'=>exact⟨h.1,h.2.keep k1⟩
 |bk σ'=>exact⟨h.1,h.2.keep k1⟩
 |rt d=>refine dS h λv e h1 h2 h3=>?_;clear h;exact pt v e h1 (k1.nil.trans h2) h3
theorem dC.after {o:Out} {f:fk} {own1:List (Str×Addr)} (k1:af (aV sc env own) s0 s) (o1:dD own own1 s0) (h:dC X sc env own1 P s o f s'):dC X sc env own P s0 o f s':=by
 cases o with
 |nx σ'=>obtain ⟨e,own2,S2,k2,o2,V2⟩:=h;exact⟨e,own2,S2,k1.trans_own o1 k2,o1.trans k1 o2,V2⟩
 |bk σ'=>obtain ⟨e,own2,S2,k2,o2,V2⟩:=h;exact⟨e,own2,S2,k1.trans_own o1 k2,o1.trans k1 o2,V2⟩
 |rt d=>refine dS h λv e h1 h2 h3=>?_;clear h;exact pt v e h1 (k1.trans_own o1 h2) h3
theorem MS {x:Str} {ent:Ent} {v:Value} (S0:ai X s0) (V0:am X sc env σ own P s0.heap) (S:ai X s) (k1:af [] s0 s) (hx:bb sc x=true) (r:zW s0 (P++ay own) ent v s):aq (aw X.prog X.w) A (jU env x v) (λζ s'=>fS X sc env own P s0 (put σ x ent) s') (λζ ζ=>False) s:=by
 induction ent using Ent.casesOn with
 |sh d=>exact oz S (V0.keep k1.kb) hx r λs' S' k' V'=>⟨_,S',k1.nil.trans k',λb hb=>.inl (gw hb),V'⟩
 |own xs=>refine fw r λa vs m e3_ h1 h2 h3 h4=>?_;clear r;subst e3_;exact Hk S0 S V0 k1 hx h1 h2 h3 h4 λs' S' k' o' V'=>⟨_,S',k1.nil.trans k',o',V'⟩
noncomputable def xI:ab->Bool
 |.ListComp .. =>true
 |.SetComp .. =>true
 |.DictComp .. =>true
 |_=>false
theorem Bo {e:ab} {t:Option ab} {l:Nat} (h:xI e=false):sa e t l env=pure false:=by
 induction e using bE<;>first|rfl|exact dz h
theorem yR {elt:ab} {gens:List c8} {scp:Scope} {cp:Pos} {t:Str} {tp:Pos} {l:Nat}:sa (.ListComp elt gens scp cp) (some (.Name t tp)) l env=pure (env.blockKind==.function&&env.kindOf t==some .local&&tp.line==cp.line&& !(scp.names.any λ(n,k)=>n==t&&(k==.local||k==.cell))):=rfl
theorem EE {elt:ab} {gens:List c8} {scp:Scope} {cp:Pos} {d:PV} (h:pe O n sc σ (.ListComp elt gens scp cp)=some d):∃m g gs xs ys,n=m+1/\gens=g::gs/\kh sc scp=true/\cr O m sc σ (dM g.target) g.iter=some xs/\bT O m scp (cj scp σ) elt g gs xs=some ys/\bt ys.length=true/\d=.list ys:=by
 induction n using e8 with
 |zero=>exact ac h
 |succ n=>
  induction gens using aP with
  |nil=>exact ac h
  |cons g gs=>
   replace h:=uz▸h;refine ifs h λhsc h=>?_
   set_option smartUnfolding false in refine om h λxs hx h=>?_
   refine bB (s7 h) λys h1 hl e3_=>?_;subst e3_;exact⟨n,g,gs,xs,ys,rfl,rfl,hsc,hx,h1,hl,rfl⟩
theorem Ga (OK:bq X O k) (R:aK A (k+2)) {elt:ab} {gens:List c8} {scp:Scope} {cp xp:Pos} {x:Str} {d:PV} (hx:bb sc x=true) (h:pe O n sc σ (.ListComp elt gens scp cp)=some d) (S:ai X s) (VV:am X sc env σ own P s.heap):aq (aw X.prog X.w) A (QZ (.ListComp elt gens scp cp) env (jv (.Name x xp) env)) (λζ s'=>fS X sc env own P s (put σ x (.sh d)) s') (λζ ζ=>False) s:=by
 obtain ⟨m,g,gs,xs,ys,rfl,rfl,hsc,h1,h2,hl,rfl⟩:=EE h;refine gq (wU hsc) λq1 q2 q3 q4=>?_;have hI:=wz OK R m sc σ env own P g.target g.iter xs s h1 S VV;have hlt:∀j,j<m->gi X A O j/\jj X A O j/\kX X A O j:=λj ζ=>⟨dP OK R j,kF OK R j,wz OK R j⟩
 have hga:uY (g::gs)=false:=by have:=zU h2;cases g;simp only[uY,bne];refine aa this ?_;rfl
 have hfi:DM (g::gs) env=aG g.iter env:=by cases g;rfl
 refine (?_:aq _ A (do let _ <- comprehension (.ListComp elt (g::gs) scp cp) scp env _ (newList []) (uY (g::gs)) (DM (g::gs) env) (some (jv (.Name x xp) env))) _ _ s);refine aa hga ?_
 refine ak (aA (QY (use:=some (jv (.Name x xp) env)) (Q:=λζ s'=>fS X sc env own P s (put σ x (.sh (.list ys))) s') (g:=g) (gs:=gs) rfl hI.1
  (Ax λx hm=>(VV.cel x (q4 x hm)).2) q1 (λx hx hl=>by
   obtain ⟨a,b⟩:=x;subst hl
   exact lT q2 hx) ?_) (λζ s' hq=>aS hq) λζ ζ f=>f)
 refine aa hfi ?_;refine zj (n:=m) (RR:=λacc C=>compPost (aw X.prog X.w) A (λζ ζ=>False) (some (jv (.Name x xp) env)) (λζ s'=>fS X sc env own P s (put σ x (.sh (.list ys))) s') acc C) rfl hsc R.hh S VV hI (vR O m) hlt h2 hl
  λD C s' S' k' hD hC hne hn ha=>?_
 refine aE hn λmC hn=>?_;refine bR ha λvs j ha hr=>?_;have hDW:D∉P++ay own:=λq=>by refine ah (VV.win D q) λo e ζ=>?_;replace e:=hD▸e;exact ac e
 have rv:ao (P++ay own) s'.heap (.list ys) (.ref D):=by skip;exact j4 D vs rfl hDW ⟨j,ha⟩ (by refine aa hr.length ?_;exact eH hl) (hr.sub λb hb=>cg _ hb)
 have V':=VV.keep k'.kb;refine DG (oz S' V' hx rv λs2 S2 k2 V2=>?_);have hCW:C∉aV sc env own:=(VV.new_out hC).2;have hCP:C∉P++ay own:=(VV.new_out hC).1;have hn2:s2.heap.Ns C mC:=nv hn k2.kb hCW;refine az mC hn2 (λh' hs=>?_);refine jH (id hn2) λoC es ep eC hdC ζ=>?_;have S3:ai X {s2 with heap:=h'}:=S2.same (S.fresh hC) (λo' e'=>by replace e':=eC▸e';have h_:=aj e';clear e';subst h_;exact .inr λvs q=>by replace q:=hdC▸q;cases q) hs;have k02:af (aV sc env own) s s2:=k'.nil.trans k2;refine pt (ee own x) S3 (bG.after k02 (nt (gm:=s.gens.size) hs) (λb hb=>by simp at hb;exact hb▸hC) (bf _)) (λb hb=>.inl (gw hb)) ?_;have kC:Kb [C] s2.heap h':=λb o hb ζ e=>(hs.2 b (λq=>hb (cN.mpr (by assumption)))).trans e;refine V2.moveO kC (λb hb=>.inr (.inr λo e its j q=>?_)) (λb hb q=>?_) (λq=>?_) (λy c hm q=>?_) (λb hb=>?_) λb hb=>.inl hb
 ·simp at hb;subst hb;replace e:=eC▸e;have h_:=aj e;clear e;subst h_;replace q:=hdC▸q;cases q
 ·simp at hb;subst hb;exact hCP (bO _ (gw q))
 ·simp at q;exact hCW (q▸js)
 ·simp at q;subst q;refine bR (VV.cells y c hm) λv o e ζ=>?_;replace e:=hC▸e;exact ac e
 ·refine ah (V2.pin b hb) λo e ht=>?_;exact az o (kC b o (λq=>hCP (by simp at q;exact q▸bI _ hb)) ht e) ht
theorem M2 (VV:am X sc env σ own P s.heap):env.blockKind=.function:=by unfold Env.blockKind;refine aa VV.kind ?_;rfl
theorem KW (OK:bq X O k) (R:aK A (k+2)) {e:ab} {x:Str} {xp pos:Pos} {ent:Ent} (hx:bb sc x=true) (h:fA O n sc σ e=some ent) (S:ai X s) (VV:am X sc env σ own P s.heap):aq (aw X.prog X.w) A (dR (.Assign [.Name x xp] e pos) env) (λf s'=>dC X sc env own P s (.nx (put σ x ent)) f s') (λζ ζ=>False) s:=by
 have plain:sa e (some (.Name x xp)) pos.line env=pure false->aq (aw X.prog X.w) A (dR (.Assign [.Name x xp] e pos) env) (λf s'=>dC X sc env own P s (.nx (put σ x ent)) f s') (λζ ζ=>False) s:=λhs=>
  Q0 (aA (BM OK R h S VV) (λv s1 h_=>aI h_ λS1 k1 r1=>aA (MS S VV S1 k1 hx r1) (λζ s2 h2=>⟨rfl,h2⟩) λζ ζ f=>f) λζ ζ f=>f) hs
 cases hc:xI e
 ·exact plain (Bo hc)
 ·induction e using bE with
  |ListComp elt gens scp cp=>
   cases hb:(env.blockKind==.function&&env.kindOf x==some .local&&xp.line==cp.line&& !(scp.names.any λ(n,k)=>n==x&&(k==.local||k==.cell)))
   ·exact plain (aa yR (aa hb rfl))
   ·have hd:∃d,ent=.sh d/\pe O n sc σ (.ListComp elt gens scp cp)=some d:=by exact Bv (b:=kg (.ListComp elt gens scp cp)) h (λζ ζ hs=>aZ hs) λd hd h=>⟨d,h,hd⟩
    rcases hd with ⟨d,rfl,hd⟩
    rw[exec_Assign_Name_used _ _ _ _ (aa yR (aa hb rfl))];refine ak (eb (ak (aA (Ga OK R hx hd S VV) (λζ s' h'=>aS ⟨rfl,h'⟩) λζ ζ f=>f)))
  |SetComp e1 e2 e3 e4=>induction n using e8<;>exact ac h
  |DictComp e1 e2 e3 e4 e5=>induction n using e8<;>exact ac h
  |_=>exact aZ hc
end
structure kl where
 x:Str
 e:Ent
 v:Value
 f:Value->bw Unit
noncomputable def lU (e:Ent) (v:Value):Option Addr:=match e,v with
 |.own _,.ref a=>some a
 |_,_=>none
noncomputable def cQ (L:List kl):List Addr:=L.filterMap λt=>lU t.e t.v
noncomputable def ko (W:List Addr) (h:Heap) (e:Ent) (v:Value):Prop:=match e with
 |.sh d=>ao W h d v
 |.own xs=>∃a vs m,v=.ref a/\h.get? a=some {cls:=.type "list",data:=.seq (vs:List Value).toArray m}/\vs.length<=sizeLine/\ax W h xs vs
theorem ko.kb {W W' V:List Addr} {h h':Heap} {e:Ent} {v:Value} (r:ko W h e v) (k:Kb V h h') (hv:∀b∈V,b∈W\/h.get? b=none\/∀o,h.get? b=some o->∀its n,o.data≠.seq its n) (hs:∀b∈W',b∈W\/h.get? b=none) (ha:∀a,lU e v=some a->a∉V):ko W' h' e v:=by
 induction e using Ent.casesOn with
 |sh d=>exact ao.kb k hv hs d v r
 |own xs=>refine rE r λa vs m e3_ h1 h2 h3=>?_;clear r;subst e3_;exact ww a vs m rfl (k a _ (ha a rfl) rfl h1) h2 (ax.kb k hv hs xs vs h3)
section
variable {X:Cx} {A:aO} {s s0 s':ae} {env:Env} {sc:Scope} {σ σ':Sg} {own own':List (Str×Addr)} {P P' V:List Addr} {W:List Addr} {O:Orc} {k n:Nat}
theorem am.seq_wenv (VV:am X sc env σ own P s.heap) {a:Addr} {o:ek} {its n} (e:s.heap.get? a=some o) (hd:o.data=.seq its n) (ha:a∉ay own):a∉aV sc env own:=λq=>by
 unfold aV at q;rcases av.mp q with rfl|q
 ·obtain ⟨m,o',_,_,e',hd',_⟩:=VV.ns;replace e':=e▸e';have h_:=aj e';clear e';subst h_;replace hd':=hd▸hd';cases hd'
 ·rcases bo.mp q with q|q
  ·refine ah (er q) λx hm ζ=>?_;refine bR (VV.cells x _ hm) λv o' e' hd'=>?_;replace e':=e▸e';have h_:=aj e';clear e';subst h_;replace hd':=hd▸hd';cases hd'
  ·exact ha q
theorem am.own_pin (VV:am X sc env σ own P s.heap) {a:Addr} (ha:a∈P):a∉ay own:=λq=>by obtain ⟨⟨x,b⟩,hm,rfl⟩:=dG.mp q;exact VV.ownP x _ hm ha
theorem vA {t:kl} {L:List kl}:cQ (t::L)=(match lU t.e t.v with|some a=>a::cQ L|none=>cQ L):=by unfold cQ;refine aa kv ?_;cases lU t.e t.v<;>rfl
theorem Iw {t:kl} {L:List kl} {a:Addr} (ht:t∈L) (h:lU t.e t.v=some a):a∈cQ L:=DL.mpr ⟨t,ht,h⟩
theorem vY (h:∀c∈ay own',c∈ay own) {b:Addr} (hb:b∈aV sc env own'):b∈aV sc env own:=by
 unfold aV at hb ⊢;rcases av.mp hb with q|q
 ·exact av.mpr (.inl q)
 ·rcases bo.mp q with q|q
  ·exact cg _ (bI _ q)
  ·exact cg _ (bO _ (h b q))
theorem vB:∀(L:List kl) (σ:Sg) (own:List (Str×Addr)) (s:ae),ai X s->am X sc env σ own (cQ L++P) s.heap->(∀t∈L,bb sc t.x=true/\ko ((cQ L++P)++ay own) s.heap t.e t.v)->(cQ L).Nodup->(∀a∈cQ L,a∉P/\X.h0.get? a=none)->(∀t∈L,∀v Q E s,aq (aw X.prog X.w) A (jU env t.x v) Q E s->aq (aw X.prog X.w) A (t.f v) Q E s)->aq (aw X.prog X.w) A (pQ (L.map (·.f)) (L.map (·.v))) (λζ s'=>∃own',ai X s'/\af (aV sc env own++cQ L) s s'/\(∀b∈ay own',b∈ay own\/b∈cQ L)/\am X sc env (bP σ (L.map λt=>(t.x,t.e))) own' P s'.heap) (λζ ζ=>False) s
 |[],σ,own,s,S,VV,_,_,_,_=>aS ⟨own,S,af.refl,λb hb=>.inl hb,VV⟩
 |t::L,σ,own,s,S,VV,hp,hnd,hz,hf=>by
  refine be (hp t (.head _)) λhx r=>?_;have hfr:=hf t (.head _) t.v;have hrest:∀u∈L,∀v Q E s,aq (aw X.prog X.w) A (jU env u.x v) Q E s->aq (aw X.prog X.w) A (u.f v) Q E s:=λu hu=>hf u (.tail _ hu);have more:∀{s1:ae} {own1:List (Str×Addr)},af (aV sc env own) s s1->(∀b∈(cQ L++P)++ay own1,b∈(cQ (t::L)++P)++ay own)->∀u∈L,bb sc u.x=true/\ko ((cQ L++P)++ay own1) s1.heap u.e u.v:=λ{s1 own1} k1 hs u hu=>by
   refine be (hp u (.tail _ hu)) λhx' r'=>?_;refine⟨hx',r'.kb k1.kb VV.wseq (λb hb=>.inl (hs b hb)) λa ha=>?_⟩;have haz:a∈cQ (t::L)++P:=bI _ (Iw (.tail _ hu) ha);have hobj:∃o its n,s.heap.get? a=some o/\o.data=.seq its n:=by
    revert ha r';refine aX u.v λv=>aX u.e λe=>?_
    induction e using Ent.casesOn with
    |sh d=>exact λζ=>ac
    |own xs=>exact λr' ha=>jH r' λc vs m q h1 ζ=>Ox _ _ _ (aj ((congrArg (lU (.own xs)) q).symm.trans ha)▸h1) rfl
   refine jQ hobj λo its n e hd=>?_;clear hobj;exact VV.seq_wenv e hd (VV.own_pin haz)
  refine (?_:aq _ A (holding (L.map (·.v)) (t.f t.v)>>=λζ=>pQ (L.map (·.f)) (L.map (·.v))) _ _ s);refine ak (fi (hfr _ _ _ ?_));obtain ⟨x,e,v,f⟩:=t
  induction e using Ent.casesOn with
  |sh d=>
   have hzc:cQ (⟨x,.sh d,v,f⟩::L)=cQ L:=by refine aa vA ?_;try rfl
   have more:=@more;rw[hzc] at VV hnd hz more;have r:ao ((cQ L++P)++ay own) s.heap d v:=by replace r:=hzc▸r;exact r
   refine oz S VV hx r λs1 S1 k1 V1=>?_;refine aA (vB L (put σ x (.sh d)) (ee own x) s1 S1 V1 (more k1 λb hb=>(bo.mp hb).elim (λq=>bI _ q) λq=>bO _ (gw q)) hnd hz hrest) (λζ s2 h_0=>dS h_0 λown2 S2 k2 o2 V2=>?_) λζ ζ f=>f;refine pt own2 S2 ((k1.mono λb hb=>bI _ hb).trans (k2.mono λb hb=>?_)) (λb hb=>?_) V2
   ·refine aa hzc ?_;exact (bo.mp hb).elim (λq=>bI _ (vY (λc hc=>gw hc) q)) λq=>bO _ q
   rcases o2 b hb with q|q
   ·exact .inl (gw q)
   ·exact .inr (by refine aa hzc ?_;exact q)
  |own xs=>
   refine rE r λa vs m e3_ h1 h2 h3=>?_;clear r;subst e3_;have hzc:cQ (⟨x,.own xs,.ref a,f⟩::L)=a::cQ L:=by refine aa vA ?_;try rfl
   have more:=@more;rw[hzc] at VV hnd hz more h3;refine be (pN.mp hnd) λn1 n2=>?_;refine be (hz a (.head _)) λz1 z2=>?_;refine PH (P:=cQ L++P) S VV hx z2 (λq=>(bo.mp q).elim n1 z1) h1 h2 h3 λs1 S1 k1 V1=>?_;refine aA (vB L (put σ x (.own xs)) ((x,a)::ee own x) s1 S1 V1 (more k1 λb hb=>?_) n2 (λb hb=>hz b (.tail _ hb)) hrest) (λζ s2 h_1=>dS h_1 λown2 S2 k2 o2 V2=>?_) λζ ζ f=>f
   ·rcases bo.mp hb with q|q
    ·exact bI _ (cg _ q)
    ·rcases av.mp q with q|q
     ·exact bI _ (av.mpr (.inl q))
     ·exact bO _ (gw q)
   ·refine pt own2 S2 ((k1.mono λb hb=>bI _ hb).trans (k2.mono λb hb=>?_)) (λb hb=>?_) V2
    ·refine aa hzc ?_;rcases bo.mp hb with q|q
     ·unfold aV at q ⊢;rcases av.mp q with q|q
      ·exact bI _ (av.mpr (.inl q))
      ·rcases bo.mp q with q|q
       ·exact bI _ (cg _ (bI _ q))
       ·rcases av.mp q with q|q
        ·exact bO _ (av.mpr (.inl q))
        ·exact bI _ (cg _ (bO _ (gw q)))
     ·exact bO _ (cg _ q)
    ·rcases o2 b hb with q|q
     ·rcases av.mp q with q|q
      ·exact .inr (by refine aa hzc ?_;exact av.mpr (.inl q))
      ·exact .inl (gw q)
     ·exact .inr (by refine aa hzc ?_;exact cg _ q)
theorem K5 {e:ab} {ent:Ent} (h:fA O n sc σ e=some ent):dT e=true:=by
 induction e using bE with
 |Starred v p=>
  have h:(match pe O n sc σ (.Starred v p) with|some (.list xs)=>some (.sh (.list xs))|some d=>some (.sh d)|none=>none)=some ent:=h;have q:pe O n sc σ (.Starred v p)=none:=by induction n using e8<;>rfl
  replace h:=q▸h;exact ac h
 |_=>rfl
noncomputable def iR (W:List Addr) (h:Heap):List Ent->List Value->List Addr->Prop
 |[],vs,Z=>vs=[]/\Z=[]
 |e::es,vs,Z=>∃v r,vs=v::r/\ko W h e v/\match lU e v with
  |some a=>∃Z',Z=a::Z'/\iR W h es r Z'
  |none=>iR W h es r Z
set_option tactic.hygienic true in
theorem iR.kb {W W' V:List Addr} {h h':Heap} (k:Kb V h h') (hv:∀b∈V,b∈W\/h.get? b=none\/∀o,h.get? b=some o->∀its n,o.data≠.seq its n) (hs:∀b∈W',b∈W\/h.get? b=none):∀(es:List Ent) (vs:List Value) (Z:List Addr),(∀a∈Z,a∉V)->iR W h es vs Z->iR W' h' es vs Z
 |[],vs,Z,_,r=>r
 |e::es,vs,Z,hz,r=>by
  skip;refine bJ r λv u e2_ h1 h2=>?_;clear r;subst e2_;refine gF v u rfl (h1.kb k hv hs λa ha=>?_) ?_
  ·replace h2:=ha▸h2;refine ah h2 λZ' e1_ ζ=>?_;clear h2;subst e1_;exact hz a (.head _)
  ·split
   ·rename_i a ha;replace h2:=ha▸h2;refine ah h2 λZ' e1_ h3=>?_;clear h2;subst e1_;exact az Z' rfl (iR.kb k hv hs es u Z' (λb hb=>hz b (.tail _ hb)) h3)
   ·rename_i ha;replace h2:=ha▸h2;exact iR.kb k hv hs es u Z hz h2
theorem wJ (OK:bq X O k) (R:aK A (k+2)) {pos:Pos}:∀(es:List ab) (ents:List Ent) (P:List Addr) (s:ae),aY (fA O n sc σ) es=some ents->ai X s->am X sc env σ own P s.heap->Ev X A s (ez (bZ pos (bY es env))) (λvs s'=>∃Z,(∀a∈Z,s.heap.get? a=none)/\Z.Nodup/\am X sc env σ own (Z++P) s'.heap/\iR ((Z++P)++ay own) s'.heap ents vs Z)
 |[],ents,P,s,h,S,VV=>by have h_:=aj h;clear h;subst h_;exact Ev.pure S ⟨[],λζ q=>(nomatch q),uQ,VV,rfl,rfl⟩
 |e::es,ents,P,s,h,S,VV=>by
  refine bJ (l8 h) λent r h1 h2 e4_=>?_;subst e4_;refine aa (qj (K5 h1)) (aa qq ?_)
  show Ev X A s (do
   let v <- aG e env
   let here <- (pure [v]:bw (List Value))
   return here++(<- holding here (ez (bZ pos (bY es env))))) _
  refine Ev.bind (BM OK R h1 S VV) λv s1 S1 k1 rv=>?_;refine Ev.bind (P:=λl s'=>l=[v]/\s'=s1) (Ev.pure S1 ⟨rfl,rfl⟩) λl s2 S2 k2 h_2=>be h_2 λe1 e2=>?_;subst e1 e2;have V2:=VV.keep k1.kb
  induction ent using Ent.casesOn with
  |sh d=>
   refine Ev.bind (Ev.holding (wJ OK R es r P s2 h2 S2 V2)) λvs s3 S3 k3 h_3=>dS h_3 λZ z1 z2 z3 z4=>?_;refine Ev.pure S3 ⟨Z,λa ha=>k1.none (z1 a ha),z2,z3,?_⟩;refine gF v vs rfl (ao.kb k3.kb (λζ q=>nomatch q) (λb hb=>?_) d v rv) z4;rcases bo.mp hb with q|q
   ·rcases bo.mp q with q|q
    ·exact .inr (z1 b q)
    ·exact .inl (bI _ q)
   ·exact .inl (bO _ q)
  |own xs=>
   refine fw rv λa us m e3_ a1 a2 a3 a4=>?_;clear rv;subst e3_
   have V3:am X sc env σ own (a::P) s2.heap:=VV.pins k1.kb (λb hb=>by
    rcases av.mp hb with q|q
    ·exact az _ (q▸a2) rfl
    ·exact V2.pin b q) λb hb=>(av.mp hb).elim (λq=>.inr (q▸a1)) .inl
   refine Ev.bind (Ev.holding (wJ OK R es r (a::P) s2 h2 S2 V3)) λvs s3 S3 k3 h_4=>dS h_4 λZ z1 z2 z3 z4=>?_;have haZ:a∉Z:=λq=>by have:=z1 a q;replace this:=a2▸this;cases this
   have sub:∀b,b∈(a::Z)++P->b∈Z++(a::P):=λb hb=>by
    rcases bo.mp hb with q|q
    ·rcases av.mp q with q|q
     ·exact bO _ (av.mpr (.inl q))
     ·exact bI _ q
    ·exact bO _ (cg _ q)
   refine Ev.pure S3 ⟨a::Z,λb hb=>?_,pN.mpr ⟨haZ,z2⟩,z3.sub sub,?_⟩
   ·rcases av.mp hb with q|q
    ·exact q▸a1
    ·exact k1.none (z1 b q)
   ·refine⟨.ref a,vs,rfl,⟨a,us,m,rfl,k3.kb a _ (λq=>nomatch q) rfl a2,a3,ax.kb k3.kb (λζ q=>nomatch q) (λb hb=>?_) xs us a4⟩,Z,rfl,?_⟩
    ·rcases bo.mp hb with q|q
     ·rcases bo.mp (sub b q) with q|q
      ·exact .inr (z1 b q)
      ·rcases av.mp q with q|q
       ·exact .inl (av.mpr (.inl q))
       ·exact .inl (cg _ (bI _ q))
     ·exact .inl (cg _ (bO _ q))
    ·refine iR.kb (V:=[]) Kb.refl (λζ q=>nomatch q) (λb hb=>.inl ?_) r vs Z (λζ ζ q=>nomatch q) z4;rcases bo.mp hb with q|q
     ·exact bI _ (sub b q)
     ·exact bO _ q
end
theorem Cy {α:Type} {l:List α} (h:l.Nodup):l.reverse.Nodup:=by unfold List.Nodup at h ⊢;rw[List.pairwise_reverse];exact h.imp λq z=>q z.symm
theorem Hj {t:ab} {x:Str} (h:fv t=some x):∃p,t=.Name x p:=by
 induction t using bE with
 |Name y p=>exact⟨p,congrArg (λz=>Q1 z p) (aj h)⟩
 |_=>exact ac h
theorem BN {α β:Type} {f:α->Option β}:∀{l:List α} {r:List β},aY f l=some r->r.length=l.length
 |[],r,h=>by have h:=aj h;subst h;rfl
 |a::l,r,h=>by refine bJ (l8 h) λy r' ζ h2 e4_=>?_;subst e4_;simp[BN h2]
theorem xT {f:ab->Option Str}:∀(ts:List ab),(ts.filterMap f).length<=ts.length
 |[]=>bf _
 |t::ts=>by
  refine aa kv ?_;have:=xT (f:=f) ts;cases f t
  ·simp;exact uZ (by assumption)
  ·exact yu this
theorem An {f:ab->Option Str} (hf:∀t x,f t=some x->fv t=some x):∀{ts:List ab} {xs:List Str},aY fv ts=some xs->(ts.filterMap f).length=ts.length->ts.filterMap f=xs
 |[],xs,h,_=>by have h:=aj h;subst h;rfl
 |t::ts,xs,h,hl=>by
  refine bJ (l8 h) λy r' h1 h2 e4_=>?_;subst e4_;rw[kv] at hl ⊢;cases hft:f t with
  |none=>replace hl:=hft▸hl;have:=xT (f:=f) ts;simp at hl;exact (Bl hl this).elim
  |some z=>replace hl:=hft▸hl;have e:=hf t z hft;replace e:=h1▸e;have h_:=aj e;clear e;subst h_;have:=An hf h2 (kq hl);exact aa this rfl
theorem wm:∀(l:List (Str×Ent)) (σ:Sg) (x:Str),jR (l.map (·.1))=true->(bP σ l).lookup x=(match l.lookup x with|some e=>some e|none=>σ.lookup x)
 |[],σ,x,_=>rfl
 |(y,e)::l,σ,x,h=>by
  simp only[cS,BS,bF,kz] at h;refine aa O7 ?_;refine aa (wm l _ x h.2) ?_;rewrite[dp];refine aa cM ?_
  by_cases hxy:x=y
  ·subst hxy;have:l.lookup x=none:=by
    rw[List.lookup_eq_none_iff];intro p hp;rw[bne_iff_ne];intro q;have h1:=h.1;have:(l.map (·.1)).contains x=true:=by rw[List.contains_iff_exists_mem_beq];exact az p.1 (mG hp) (decide_eq_true q)
    replace h1:=this▸h1;exact dz h1
   refine aa this ?_;simp
  ·have h6:(x==y)=false:=decide_eq_false hxy;exact aa h6 (aa (if_neg hxy) rfl)
theorem xw:∀(l:List Str),jR l=true↔l.Nodup
 |[]=>by decide
 |x::r=>by
  simp only[BS,bF,kz,pN,xw r];constructor
  ·rintro ⟨h1,h2⟩;exact⟨λq=>by simp[q] at h1,h2⟩
  ·rintro ⟨h1,h2⟩;exact⟨by simpa using h1,h2⟩
theorem xN:∀{l:List (Str×Ent)} {x:Str} {e:Ent},(l.map (·.1)).Nodup->(x,e)∈l->l.lookup x=some e
 |(y,f)::l,x,e,hn,h=>by
  simp only[cS,pN] at hn;rcases av.mp h with q|q
  ·cases q;simp[d9]
  ·have hne:(x==y)=false:=by
    cases hb:x==y with
    |false=>rfl
    |true=>exact absurd (by refine aH (bh hb) ?_;exact mG q) hn.1
   refine aa cM (aa hne ?_);exact xN hn.2 q
theorem Ny (l:List (Str×Ent)) (σ:Sg) (x:Str) (h:jR (l.map (·.1))=true):(bP σ l).lookup x=(bP σ l.reverse).lookup x:=by
 have hn:=(xw _).mp h;have hr:(l.reverse.map (·.1)).Nodup:=by refine aa u0 ?_;exact Cy hn
 refine aa (wm l σ x h) (aa (wm l.reverse σ x ((xw _).mpr hr)) ?_);cases e:l.lookup x with
 |some f=>exact aa (xN hr (oa.mpr (cm e))) rfl
 |none=>
  cases e2:l.reverse.lookup x with
  |none=>rfl
  |some f=>have:=xN hn (oa.mp (cm e2));replace this:=e▸this;exact ac this
set_option backward.match.sparseCases true in
noncomputable def uc (env:Env) (l:Nat):ab->Option Str
 |.Name id pos=>if env.kindOf id==some .local&&pos.line==l then some id else none
 |_=>none
theorem EG {env:Env} {l:Nat} (t:ab) (x:Str) (h:uc env l t=some x):fv t=some x:=by
 induction t using bE with
 |Name id q=>
  have h:(if (env.kindOf id==some .local&&q.line==l)=true then some id else none)=some x:=h;revert h;refine aX (env.kindOf id==some .local&&q.line==l) λc h=>?_
  induction c using d8
  ·exact ac h
  ·exact h
 |_=>exact ac h
set_option backward.match.sparseCases true in
theorem LO {env:Env} {ts vs:List ab} {tn vn:Nat} {tp vp:Pos}:∃(b1 b2 b3:Bool) (f:ab->Option Str) (m:bw (Option (List Str))),(∀t x,f t=some x->fv t=some x)/\jX [.Tuple ts tn tp] (.Tuple vs vn vp) env=(if b1=true then pure none else if b2=true then pure none else if ((ts.filterMap f).length != ts.length||b3)=true then pure none else
   if vs.all (mR 8)=true then pure none else if vs.all (mQ 8)=true then m else pure (some (ts.filterMap f))):=
 ⟨!(ts.length==2||ts.length==3)||vs.length != ts.length||env.blockKind != .function,_,(ts.filterMap (uc env ((ts.head?.map (·.pos.line)).getD 0))).eraseDups.length != (ts.filterMap (uc env ((ts.head?.map (·.pos.line)).getD 0))).length,uc env ((ts.head?.map (·.pos.line)).getD 0),_,EG,by
  delta jX;dsimp only
  rfl⟩
theorem Av {env:Env} {ts vs:List ab} {tn vn:Nat} {tp vp:Pos}:jX [.Tuple ts tn tp] (.Tuple vs vn vp) env=pure none\/∃f:ab->Option Str,(∀t x,f t=some x->fv t=some x)/\(ts.filterMap f).length=ts.length/\((!(vs.all (mQ 8))||vs.all (mR 8))=true->jX [.Tuple ts tn tp] (.Tuple vs vn vp) env=pure none\/jX [.Tuple ts tn tp] (.Tuple vs vn vp) env=pure (some (ts.filterMap f))):=by
 obtain ⟨b1,b2,b3,f,m,hf,e⟩:=LO (env:=env) (ts:=ts) (vs:=vs) (tn:=tn) (vn:=vn) (tp:=tp) (vp:=vp);refine aa e ?_;clear e
 induction b1 using d8
 ·induction b2 using d8
  ·refine aa (if_neg iZ) (aa (if_neg iZ) ?_);cases hl:((ts.filterMap f).length != ts.length||b3)
   ·refine .inr ⟨f,hf,of_decide_eq_true (by cases h:decide ((ts.filterMap f).length=ts.length) with|true=>rfl|false=>rw[bne,beq_false_of_ne (of_decide_eq_false h)] at hl;exact dz hl),?_⟩;cases vs.all (mR 8)
    ·cases vs.all (mQ 8)
     ·exact λζ=>.inr rfl
     ·exact λh=>aZ h
    ·exact λζ=>.inl rfl
   ·exact .inl rfl
  ·exact .inl rfl
 ·exact .inl rfl
section
variable {X:Cx} {A:aO} {s s0 s':ae} {env:Env} {sc:Scope} {σ σ':Sg} {own own':List (Str×Addr)} {P P' V:List Addr} {W:List Addr} {O:Orc} {k n:Nat}
theorem K3 {ts vs:List ab} {tn vn:Nat} {tp vp:Pos} {xs:List Str} (hb:env.blockKind=.function) (hx:aY fv ts=some xs) (hg:(!(vs.all (mQ 8))||vs.all (mR 8))=true):jX [.Tuple ts tn tp] (.Tuple vs vn vp) env=pure none\/jX [.Tuple ts tn tp] (.Tuple vs vn vp) env=pure (some xs):=by
 rcases Av (env:=env) (ts:=ts) (vs:=vs) (tn:=tn) (vn:=vn) (tp:=tp) (vp:=vp) with h|⟨f,hf,hl,h⟩
 ·exact .inl h
 ·replace h:=(An hf hx hl)▸h;exact h hg
noncomputable def gr:List Str->List Ent->List Value->List (Value->bw Unit)->List kl
 |x::xs,e::es,v::vs,f::fs=>⟨x,e,v,f⟩::gr xs es vs fs
 |_,_,_,_=>[]
theorem vT {W h}:∀{es:List Ent} {vs:List Value} {Z:List Addr},iR W h es vs Z->vs.length=es.length
 |[],vs,Z,r=>by rw[r.1];rfl
 |e::es,vs,Z,r=>by
  skip;refine bJ r λv u e2_ ζ h2=>?_;clear r;subst e2_
  split at h2
  ·refine ah h2 λZ' ζ h3=>?_;clear h2;simp[vT h3]
  ·simp[vT h2]
set_option tactic.hygienic true in
theorem wd {W h}:∀(xs:List Str) (es:List Ent) (vs:List Value) (fs:List (Value->bw Unit)) (Z:List Addr),xs.length=es.length->fs.length=es.length->iR W h es vs Z->cQ (gr xs es vs fs)=Z/\(gr xs es vs fs).map (·.v)=vs/\(gr xs es vs fs).map (·.f)=fs/\((gr xs es vs fs).map λt=>(t.x,t.e))=xs.zip es/\(∀t∈gr xs es vs fs,ko W h t.e t.v)/\(∀t∈gr xs es vs fs,(t.x,t.f)∈xs.zip fs)
 |[],[],vs,fs,Z,_,hf,r=>by refine be r λe0_ e1_=>?_;clear r;subst e0_;subst e1_;have:fs=[]:=xV.mp hf;subst this;exact tR rfl rfl rfl rfl (λζ q=>(nomatch q)) (λζ q=>(nomatch q))
 |[],e::es,_,_,_,hx,_,_=>pM hx
 |x::xs,[],_,_,_,hx,_,_=>pM hx
 |x::xs,e::es,vs,fs,Z,hx,hf,r=>by
  skip;refine bJ r λv u e2_ h1 h2=>?_;clear r;subst e2_
  induction fs using aP with
  |nil=>exact pM hf
  |cons f fs=>
   have go:∀Z',iR W h es u Z'->_:=λZ' q=>wd xs es u fs Z' (kq hx) (kq hf) q;have fin:∀Z',iR W h es u Z'->(Z=match lU e v with|some a=>a::Z'|none=>Z')->
     cQ (gr (x::xs) (e::es) (v::u) (f::fs))=Z/\(gr (x::xs) (e::es) (v::u) (f::fs)).map (·.v)=v::u/\(gr (x::xs) (e::es) (v::u) (f::fs)).map (·.f)=f::fs/\
     ((gr (x::xs) (e::es) (v::u) (f::fs)).map λt=>(t.x,t.e))=(x::xs).zip (e::es)/\(∀t∈gr (x::xs) (e::es) (v::u) (f::fs),ko W h t.e t.v)/\(∀t∈gr (x::xs) (e::es) (v::u) (f::fs),(t.x,t.f)∈(x::xs).zip (f::fs)):=by
    intro Z' q hZ;refine pd (go Z' q) λg1 g2 g3 g4 g5 g6=>?_;have et:gr (x::xs) (e::es) (v::u) (f::fs)=⟨x,e,v,f⟩::gr xs es u fs:=rfl;refine aa et ?_;refine tR ?_ (congrArg (_:: ·) (by assumption)) (congrArg (_:: ·) (by assumption)) (congrArg (_:: ·) (by assumption)) (λt ht=>?_) (λt ht=>?_)
    ·refine aa vA (aa g1 (aa hZ ?_));try rfl
    ·rcases av.mp ht with rfl|q
     ·exact h1
     ·exact g5 t q
    ·rcases av.mp ht with rfl|q
     ·exact js
     ·exact cg _ (g6 t q)
   split at h2
   ·rename_i a ha;refine ah h2 λZ' e1_ h3=>?_;clear h2;subst e1_;exact fin Z' h3 (aa ha rfl)
   ·rename_i ha;exact fin Z h2 (aa ha rfl)
theorem IL (L:List kl):cQ L.reverse=(cQ L).reverse:=by unfold cQ;exact aa List.filterMap_reverse rfl
theorem F6 {L:List kl} {Z:List Addr} (S0:ai X s0) (V0:am X sc env σ own P s0.heap) (S:ai X s) (k1:af [] s0 s) (hz:cQ L=Z\/cQ L=Z.reverse) (hZ:∀a∈Z,s0.heap.get? a=none) (hn:Z.Nodup) (VV:am X sc env σ own (Z++P) s.heap) (hp:∀t∈L,bb sc t.x=true/\ko ((Z++P)++ay own) s.heap t.e t.v) (hf:∀t∈L,∀v Q E s,aq (aw X.prog X.w) A (jU env t.x v) Q E s->aq (aw X.prog X.w) A (t.f v) Q E s) (hs:∀x,(bP σ (L.map λt=>(t.x,t.e))).lookup x=σ'.lookup x):aq (aw X.prog X.w) A (pQ (L.map (·.f)) (L.map (·.v))) (λζ s'=>fS X sc env own P s0 σ' s') (λζ ζ=>False) s:=by
 have hm:∀a,a∈cQ L↔a∈Z:=λa=>by rcases hz with h|h<;>simp[h]
 have hnd:(cQ L).Nodup:=by
  rcases hz with h|h
  ·exact h▸hn
  ·refine aa h ?_;exact Cy hn
 have sub:∀b,b∈cQ L++P->b∈Z++P:=λb hb=>(bo.mp hb).elim (λq=>bI _ ((hm b).mp q)) λq=>bO _ q;refine aA (vB (P:=P) L σ own s S (VV.sub sub) (λt ht=>⟨(hp t ht).1,(hp t ht).2.kb (V:=[]) Kb.refl (λζ q=>nomatch q) (λb hb=>.inl ?_) λζ ζ q=>nomatch q⟩) hnd (λa ha=>?_) hf) (λζ s2 h_0=>dS h_0 λown2 S2 k2 o2 V2=>?_) λζ ζ f=>f
 ·exact (bo.mp hb).elim (λq=>bI _ (sub b q)) λq=>bO _ q
 ·have h1:=hZ a ((hm a).mp ha);exact⟨λq=>(by refine ah (V0.pin a q) λo e ζ=>?_;replace e:=h1▸e;exact ac e),S0.fresh h1⟩
 ·refine pt own2 S2 ?_ (λb hb=>(o2 b hb).imp_right λq=>hZ b ((hm b).mp q)) (V2.congr λx=>(hs x).symm);refine⟨λb o hb ht e=>k2.kb b o (λq=>?_) ht (k1.kb b o (λq=>nomatch q) ht e),λb o e=>?_,al k1.gsz k2.gsz,λi hi=>(k2.gk i (b9 hi k1.gsz)).trans (k1.gk i hi)⟩
  ·rcases bo.mp q with q|q
   ·exact hb q
   ·replace e:=(hZ b ((hm b).mp q))▸e;exact ac e
  ·refine aE (k1.th b o e) λo1 e1=>?_;exact k2.th b o1 e1
end
section
variable {X:Cx} {A:aO} {s s0 s':ae} {env:Env} {sc:Scope} {σ σ':Sg} {own own':List (Str×Addr)} {P P' V:List Addr} {W:List Addr} {O:Orc} {k n:Nat}
theorem zR:∀{ts:List ab} {xs:List Str},aY fv ts=some xs->(gO ts env).length=xs.length/\(gO ts env).findIdx? (·.1)=none/\∀x f,(x,f)∈xs.zip ((gO ts env).map (·.2))->∃p,f=jv (.Name x p) env
 |[],xs,h=>by have h:=aj h;subst h;exact fx rfl rfl (λζ ζ q=>nomatch q)
 |t::ts,xs,h=>by
  refine bJ (l8 h) λy r' h1 h2 e4_=>?_;subst e4_;refine aE (Hj h1) λp e1_=>?_;subst e1_;refine aI (zR h2) λg1 g2 g3=>?_;refine aa (wC rfl) ?_;refine fx (congrArg pD (by assumption)) ?_ (λx f q=>?_)
  ·refine aa QL ?_;simp[g2]
  ·rcases av.mp q with q|q
   ·cases q;exact⟨p,rfl⟩
   ·exact g3 x f q
theorem z9 {α β:Type} {l:List α} {r:List β} {a:α} {b:β} (h:(a,b)∈l.zip r):a∈l:=(List.of_mem_zip h).1
theorem MN (OK:bq X O k) (R:aK A (k+2)) {ts vs:List ab} {tn vn:Nat} {tp vp pos:Pos} {xs:List Str} {ents:List Ent} (hx:aY fv ts=some xs) (hst:xs.all (bb sc)=true) (hnd:jR xs=true) (hlen:xs.length=vs.length) (hg:(!(vs.all (mQ 8))||vs.all (mR 8))=true) (hsz:vs.length<=1000) (h:aY (fA O n sc σ) vs=some ents) (S:ai X s) (VV:am X sc env σ own P s.heap):aq (aw X.prog X.w) A (dR (.Assign [.Tuple ts tn tp] (.Tuple vs vn vp) pos) env) (λf s'=>dC X sc env own P s (.nx (bP σ (xs.zip ents))) f s') (λζ ζ=>False) s:=by
 have e:dR (.Assign [.Tuple ts tn tp] (.Tuple vs vn vp) pos) env=(do
   ea pos
   let v <- aG (.Tuple vs vn vp) env
   DN env v (<- jX [.Tuple ts tn tp] (.Tuple vs vn vp) env) ((gO [.Tuple ts tn tp] env).map (·.2))):=rfl
 refine aa e ?_;have hle:ents.length=vs.length:=BN h;refine ak (eb (ak (QS (aA (wJ OK R vs ents P s h S VV) (λvals s1 h_=>aI h_ λS1 k1 h_=>dS h_ λZ z1 z2 V1 r1=>?_) λζ ζ f=>f))));have hvl:vals.length=ents.length:=vT r1;have hle2:vals.length<=sizeLine:=by refine aa hvl (aa hle ?_);exact al hsz (by decide)
 refine⟨hle2,?_⟩;have kp:∀b o,s1.heap.get? b=some o->(s1.heap.push {cls:=.type "tuple",data:=.seq vals.toArray}).get? b=some o:=bK;have ht:Dd (s1.heap.push {cls:=.type "tuple",data:=.seq vals.toArray}) s1.heap.objs.size vals.toArray:=zY;refine cn (({s1 with heap:=s1.heap.push {cls:=.type "tuple",data:=.seq vals.toArray}}:ae)) λs2 hs2=>?_;have S2:ai X s2:=hs2▸S1.keep kp;have k2:af [] s s2:=hs2▸k1.trans (af.keep kp);have k12:∀b o,s1.heap.get? b=some o->s2.heap.get? b=some o:=λb o e=>by refine aH hs2 ?_;exact kp b o e
 have ht2:s2.heap.IsTuple s1.heap.objs.size vals.toArray:=hs2▸ht;have fin:∀(h3:Heap) (L:List kl),n4 s2.heap.objs.size s2.heap h3->(cQ L=Z\/cQ L=Z.reverse)->(∀t∈L,bb sc t.x=true/\ko ((Z++P)++ay own) s1.heap t.e t.v)->
   (∀t∈L,∀v Q E s,aq (aw X.prog X.w) A (jU env t.x v) Q E s->aq (aw X.prog X.w) A (t.f v) Q E s)->
   (∀x,(bP σ (L.map λt=>(t.x,t.e))).lookup x=(bP σ (xs.zip ents)).lookup x)->
   aq (aw X.prog X.w) A (pQ (L.map (·.f)) (L.map (·.v))) (λζ s'=>fS X sc env own P s (bP σ (xs.zip ents)) s') (λζ ζ=>False) {s2 with heap:=h3}:=by
  intro h3 L hk hz hp hf hs;have k3:∀b o,s1.heap.get? b=some o->h3.get? b=some o:=λb o e=>hk b o (ku (fJ (k12 b o e))) (k12 b o e);have k23:∀b o,s2.heap.get? b=some o->h3.get? b=some o:=λb o e=>hk b o (ku (fJ e)) e;exact F6 S VV (S2.keep (tk:=s2.toks) k23) (k2.trans (af.keep (tk:=s2.toks) k23)) hz z1 z2 (V1.keep (Kb.of_keep k3))
   (λt ht=>⟨(hp t ht).1,(hp t ht).2.kb (V:=[]) (Kb.of_keep k3) (λζ q=>nomatch q) (λb hb=>.inl hb) λζ ζ q=>nomatch q⟩) hf hs
 rcases K3 (tn:=tn) (tp:=tp) (vn:=vn) (vp:=vp) (M2 VV) hx hg with hsw|hsw
 ·refine aa hsw ?_;refine ak (aS ?_);refine (?_:aq _ A (do yv (.ref s1.heap.objs.size) [jv (.Tuple ts tn tp) env];pure Flow.next) _ _ s2);refine aI (zR (env:=env) hx) λg1 g2 g3=>?_;have hfl:((gO ts env).map (·.2)).length=ents.length:=by (rewrite[bx];exact aa g1 (aa hlen (aa hle rfl)))
  refine pd (wd xs ents vals ((gO ts env).map (·.2)) Z (aa hlen (aa hle rfl)) hfl r1) λt1 t2 t3 t4 t5 t6=>?_;refine ak (QM R.hh ht2 (by refine aa g1 (aa hlen (aH hle ?_));simp[hvl]) g2 λh3 hk=>?_);have:=fin h3 (gr xs ents vals ((gO ts env).map (·.2))) hk (.inl t1) (λt ht=>⟨?_,t5 t ht⟩) (λt ht v Q E s q=>?_) (λx=>by exact aa t4 rfl)
  ·replace this:=t2▸this;replace this:=t3▸this;have e2:vals.toArray.toList=vals:=by rfl
   refine aa e2 ?_;exact aA this (λζ s' h'=>aS ⟨rfl,h'⟩) λζ ζ f=>f
  ·exact c9.mp hst _ (z9 (t6 t ht))
  ·refine aE (g3 _ _ (t6 t ht)) λp e=>?_;refine aa e ?_;exact DG q
 ·refine aa hsw ?_;refine ak (aS ?_);refine (?_:aq _ A (Qi "assign.swapped-stores" >>=λζ=>DF (.ref s1.heap.objs.size) xs.length none>>=λitems=>pQ (xs.reverse.map λn=>u4 env n) items.reverse>>=λζ=>pure Flow.next) _ _ s2);have hxl:xs.length=vals.toArray.size:=by refine aa hlen (aH hle ?_);simp[hvl]
  refine pd (wd xs ents vals (xs.map λn=>u4 env n) Z (aa hlen (aa hle rfl)) (by (rewrite[bx];exact aa hlen (aa hle rfl))) r1) λt1 t2 t3 t4 t5 t6=>?_;refine aa hxl ?_;refine ak (uO (ak (wpAny_unpackItems_tuple R.hh ht2 λh3 hk=>?_)));have:=fin h3 (gr xs ents vals (xs.map λn=>u4 env n)).reverse hk (.inr (by (rewrite[IL];exact aa t1 rfl))) (λt ht=>⟨?_,t5 t (oa.mp ht)⟩) (λt ht v Q E s q=>?_) (λx=>?_)
  ·replace this:=u0▸this;replace this:=u0▸this;replace this:=t2▸this;replace this:=t3▸this;have e2:vals.toArray.toList=vals:=by rfl
   refine aa e2 (aa u0 ?_);exact ak (aA this (λζ s' h'=>aS ⟨rfl,h'⟩) λζ ζ f=>f)
  ·exact c9.mp hst _ (z9 (t6 t (oa.mp ht)))
  ·have hm:=t6 t (oa.mp ht);have:t.f=u4 env t.x:=by
    replace hm:=List.zip_map_right▸hm;obtain ⟨⟨a,b⟩,hab,e3⟩:=dG.mp hm;have hab2:a=b:=by
     have:∀{l:List Str} {a b},(a,b)∈l.zip l->a=b:=by
      intro l
      induction l with
      |nil=>intro a b q;nomatch q
      |cons y l ih=>
       intro a b q;rcases av.mp q with q|q
       ·cases q;rfl
       ·exact ih q
     exact this hab
    subst hab2;have e4:=DO e3;refine aH e4.1 (aH e4.2 ?_);rfl
   refine aa this ?_;exact Q2 q
  ·refine aa u0 (aa t4 ?_)
   exact (Ny _ σ x (by
    have:(xs.zip ents).map (·.1)=xs:=by rw[List.map_fst_zip];exact ON hlen hle
    refine aa this ?_;exact hnd)).symm
end
section
variable {X:Cx} {A:aO} {s s0 s':ae} {env:Env} {sc:Scope} {σ σ':Sg} {own own':List (Str×Addr)} {P P' V:List Addr} {W:List Addr} {O:Orc} {k n:Nat} {E:Value->ae->Prop}
theorem Bw {f:ab->Option Str} (hf:∀t x,f t=some x->fv t=some x):∀{ts:List ab},(ts.filterMap f).length=ts.length->∃xs,aY fv ts=some xs
 |[],_=>⟨[],rfl⟩
 |t::ts,hl=>by
  replace hl:=kv▸hl;cases hft:f t with
  |none=>replace hl:=hft▸hl;have:=xT (f:=f) ts;simp at hl;exact (Bl hl this).elim
  |some z=>replace hl:=hft▸hl;refine aE (Bw hf (ts:=ts) (kq hl)) λxs h=>?_;exact⟨z::xs,aN (hf t z hft) h⟩
theorem OI {ts vs:List ab} {tn vn:Nat} {tp vp:Pos} (hx:aY fv ts=none):jX [.Tuple ts tn tp] (.Tuple vs vn vp) env=pure none:=by
 rcases Av (env:=env) (ts:=ts) (vs:=vs) (tn:=tn) (vn:=vn) (tp:=tp) (vp:=vp) with h|⟨f,hf,hl,h⟩
 ·exact h
 ·refine aE (Bw hf hl) λxs q=>?_;replace q:=hx▸q;exact ac q
theorem NA (OK:bq X O k) (R:aK A (k+2)) {ts vs:List ab} {tn vn:Nat} {tp vp pos:Pos} {d:PV} (hx:aY fv ts=none) (h:pe O n sc σ (.Tuple vs vn vp)=some d) (h2:bu false sc 4 σ (.Tuple ts tn tp) d=some σ') (S:ai X s) (VV:am X sc env σ own P s.heap):aq (aw X.prog X.w) A (dR (.Assign [.Tuple ts tn tp] (.Tuple vs vn vp) pos) env) (λf s'=>dC X sc env own P s (.nx σ') f s') (λζ ζ=>False) s:=by
 have e:dR (.Assign [.Tuple ts tn tp] (.Tuple vs vn vp) pos) env=(do
   ea pos
   let v <- aG (.Tuple vs vn vp) env
   DN env v (<- jX [.Tuple ts tn tp] (.Tuple vs vn vp) env) ((gO [.Tuple ts tn tp] env).map (·.2))):=rfl
 refine aa e (aa (OI hx) ?_);refine ak (eb (ak (aA (dP OK R n sc σ env own P _ d s h S VV) (λv s1 h_0=>aI h_0 λS1 k1 r1=>?_) λζ ζ f=>f)));refine ak (aS ?_);refine (?_:aq _ A (do yv v [jv (.Tuple ts tn tp) env];pure Flow.next) _ _ s1);refine ak (aA (nH R.hh 4 σ _ d σ' s1 own v h2 S1 (VV.keep k1.kb) r1) (λζ s2 h_1=>dS h_1 λown2 S2 k2 o2 V2=>aS ⟨rfl,own2,S2,k1.nil.trans k2,?_,V2⟩) λζ ζ f=>f);exact λb hb=>(m4 (s:=s) o2) b hb
theorem IV (OK:bq X O k) (R:aK A (k+2)) {ts:List ab} {e:ab} {tn:Nat} {tp pos:Pos} {d:PV} (he:dM e=false) (h:pe O n sc σ e=some d) (h2:bu false sc 4 σ (.Tuple ts tn tp) d=some σ') (S:ai X s) (VV:am X sc env σ own P s.heap):aq (aw X.prog X.w) A (dR (.Assign [.Tuple ts tn tp] e pos) env) (λf s'=>dC X sc env own P s (.nx σ') f s') (λζ ζ=>False) s:=by
 have hsw:Q3 [.Tuple ts tn tp] e pos.line env=pure false:=by
  refine (?_:sa e (some (.Tuple ts tn tp)) pos.line env=pure false)
  induction e using bE<;>rfl
 have hss:jX [.Tuple ts tn tp] e env=pure none:=by
  induction e using bE<;>first|rfl|exact dz he
 have e1:dR (.Assign [.Tuple ts tn tp] e pos) env=(do
   ea pos
   if <- Q3 [.Tuple ts tn tp] e pos.line env then do
    QZ e env λv=>yv v ((gO [.Tuple ts tn tp] env).map (·.2))
    pure .next
   else do
    let v <- aG e env
    DN env v (<- jX [.Tuple ts tn tp] e env) ((gO [.Tuple ts tn tp] env).map (·.2))):=rfl
 refine aa e1 (aa hsw (aa hss ?_));refine ak (eb (ak (aS ?_)));refine aa (if_neg iZ) ?_;refine ak (aA (dP OK R n sc σ env own P _ d s h S VV) (λv s1 h_2=>aI h_2 λS1 k1 r1=>?_) λζ ζ f=>f);refine ak (aS ?_);refine (?_:aq _ A (do yv v [jv (.Tuple ts tn tp) env];pure Flow.next) _ _ s1);refine ak (aA (nH R.hh 4 σ _ d σ' s1 own v h2 S1 (VV.keep k1.kb) r1) (λζ s2 h_3=>dS h_3 λown2 S2 k2 o2 V2=>aS ⟨rfl,own2,S2,k1.nil.trans k2,?_,V2⟩) λζ ζ f=>f);exact λb hb=>(m4 (s:=s) o2) b hb
theorem L5 (OK:bq X O k) (R:aK A (k+2)) {x:Str} {np pos:Pos} {op:mz} {e:ab} {a b d:PV} (hx:bb sc x=true) (hv:bj sc x=true) (ha:gS σ x=some a) (hb:pe O n sc σ e=some b) (h:ml op a b=some d) (S:ai X s) (VV:am X sc env σ own P s.heap):aq (aw X.prog X.w) A (dR (.AugAssign (.Name x np) op e pos) env) (λf s'=>dC X sc env own P s (.nx (put σ x (.sh d))) f s') (λζ ζ=>False) s:=by
 have e1:dR (.AugAssign (.Name x np) op e pos) env=(do
  ea np
  let old <- loadName env x
  let v <- holding [old] (aG e env)
  ea pos
  let new <- uG [old,v] (inplaceOp op old v)
  ea np
  u4 env x new
  pure .next):=rfl
 refine aa e1 ?_
 ·have hlk:=zw ha;refine ah (VV.vars x a hlk) λv hv' r=>?_;have hnm:=oW VV hv;unfold cw at hnm;simp only[bF,bne_iff_ne,ne_eq] at hnm;refine ak (eb (ak (CC VV hv' hnm.2 ?_)));refine ak (fi (aA (dP OK R n sc σ env own P e b s hb S VV) (λu s1 h_4=>aI h_4 λS1 k1 r1=>?_) λζ ζ f=>f));refine ak (eb (ak ?_));have key:Ev X A s1 (inplaceOp op v u) (λw s2=>ao (P++ay own) s2.heap d w):=by
   induction op using P7 with
   |Add=>
    induction a using PV.casesOn with
    |int x=>
     induction b using PV.casesOn with
     |int y=>have h:=aj h;subst h;obtain ⟨t,rfl⟩:=r;obtain ⟨t2,rfl⟩:=r1;exact SV ⟨S1.tok,af.toks,⟨_,rfl⟩⟩
     |_=>exact ac h
    |_=>exact ac h
   |Sub=>
    induction a using PV.casesOn with
    |int x=>
     induction b using PV.casesOn with
     |int y=>have h:=aj h;subst h;obtain ⟨t,rfl⟩:=r;obtain ⟨t2,rfl⟩:=r1;exact SW ⟨S1.tok,af.toks,⟨_,rfl⟩⟩
     |_=>exact ac h
    |_=>exact ac h
   |BitXor=>
    induction a using PV.casesOn with
    |int x=>
     induction b using PV.casesOn with
     |int y=>have h:=aj h;subst h;obtain ⟨t,rfl⟩:=r;obtain ⟨t2,rfl⟩:=r1;exact SX ⟨S1.tok,af.toks,⟨_,rfl⟩⟩
     |_=>exact ac h
    |_=>exact ac h
   |_=>exact ac h
  refine aA (wR key) (λw s2 h_5=>aI h_5 λS2 k2 r2=>?_) λζ ζ f=>f;refine ak (eb (ak (Q2 (oz S2 ((VV.keep k1.kb).keep k2.kb) hx r2 λs3 S3 k3 V3=>aS ?_))));exact⟨rfl,_,S3,(k1.trans k2).nil.trans k3,λb hb=>.inl (gw hb),V3⟩
theorem E9 {o:ab} {name:Str} {apos pos:Pos} {args:List ab} {id:String} {Q:List Value->ae->Prop} {QO QF:Value->ae->Prop} (h0:ke o=false) (hp:(apos.endLine==pos.line)=true) (hl:args.length<30) (hn:∀e∈args,dT e=true) (h1:Ev X A s (aG o env) QO) (hg:∀ov s1 pl (Q:Value×List Value->ae->Prop),ai X s1->af [] s s1->QO ov s1->Q (.builtin id,[ov]) s1->aq (aw X.prog X.w) A (mI ov name pl) Q (λζ ζ=>False) s1) (he:∀ov s',ai X s'->af [] s s'->QO ov s'->Ev X A s' (ez (bZ pos (bY args env))) Q) (hc:∀ov vs s1 s2,ai X s1->af [] s s1->QO ov s1->ai X s2->af [] s1 s2->Q vs s2->aq (aw X.prog X.w) A (call (.builtin id) (ov::vs)) QF (λζ ζ=>False) s2):aq (aw X.prog X.w) A (aG (.Call (.Attribute o name apos) args [] pos) env) QF (λζ ζ=>False) s:=by
 refine (?_:aq _ A (DH o name env (aG o env)>>=λov=>ea apos.atName>>=λζ=>ym o name apos pos env ov (args.length+0) (bZ pos (bY args env)) []) _ _ s);refine aa (zu h0) ?_;refine ak (aA h1 (λov s2 h_6=>aI h_6 λS2 k1 r1=>?_) λζ ζ f=>f);refine ak (eb ?_);have hf:yn (args.length+0) (bZ pos (bY args env)) []=true:=by unfold yn;refine aa (xi hn) ?_;exact decide_eq_true hl
 unfold ym;refine aa hf ?_;have hcal:∀ov,calleeOf true o env ov name=mI ov name (do return (<- QU o env).getD true):=λζ=>rfl;rw[hcal];refine ak (fi (hg ov s2 _ _ S2 k1 r1 ?_));have hpos:rU true o env apos pos=pure pos:=by unfold rU;refine aa hp ?_;rfl
 refine (?_:aq _ A (rU true o env apos pos>>=_) _ _ s2);refine aa hpos ?_;refine ak (aS ?_);exact H0 (λa q=>by cases q) hn (he ov s2 S2 k1 r1) λvs s' S' k' q=>hc ov vs s2 s' S2 k1 r1 S' k' q
end
section
variable {X:Cx} {A:aO} {s s0 s':ae} {env:Env} {sc:Scope} {σ σ':Sg} {own own':List (Str×Addr)} {P P' V:List Addr} {W:List Addr} {O:Orc} {k n:Nat} {E:Value->ae->Prop}
theorem CW {x:Str} {xs:List PV} (h:gW σ x=some xs):σ.lookup x=some (.own xs):=by
 revert h;delta gW;refine cn (σ.lookup x) λo e=>?_
 induction o using bW with
 |none=>exact ac
 |some k=>induction k using Ent.casesOn with
  |own d=>exact λq=>congrArg (λz=>some (Ent.own z)) (aj q)
  |sh ds=>exact ac
theorem Cq (VV:am X sc env σ own P s.heap):od env=false:=by unfold od;refine aa VV.kind ?_;rfl
theorem Gv (OK:bq X O k) (R:aK A (k+2)) {x m:Str} {id:String} {xp apos pos spos:Pos} {e:ab} {xs ys:List PV} {d:PV} (hx:bj sc x=true) (hp:(apos.endLine==pos.line)=true) (ho:gW σ x=some xs) (hd:pe O n sc σ e=some d) (S:ai X s) (VV:am X sc env σ own P s.heap) (hg:∀(a:Addr) (s1:ae) its j pl (Q:Value×List Value->ae->Prop),s1.heap.get? a=some {cls:=.type "list",data:=.seq its j}->Q (.builtin id,[.ref a]) s1->aq (aw X.prog X.w) A (mI (.ref a) m pl) Q (λζ ζ=>False) s1)
  (hc:∀(a:Addr) (vs:List Value) (j:Nat) (v:Value) (s1:ae) (Q:Value->ae->Prop),s1.heap.get? a=some {cls:=.type "list",data:=.seq vs.toArray j}->vs.length=xs.length->ao (P++ay own) s1.heap d v->ax (P++ay own) s1.heap xs vs->
   (∀h' ws j',iX a s1.heap h'->h'.get? a=some {cls:=.type "list",data:=.seq (ws:List Value).toArray j'}->ws.length<=sizeLine->ax (P++ay own) s1.heap ys ws->Q .none {s1 with heap:=h'})->
   aq (aw X.prog X.w) A (call (.builtin id) [.ref a,v]) Q (λζ ζ=>False) s1):
  aq (aw X.prog X.w) A (dR (.Expr (.Call (.Attribute (.Name x xp) m apos) [e] [] pos) spos) env) (λf s'=>dC X sc env own P s (.nx (put σ x (.own ys))) f s') (λζ ζ=>False) s:=by
 have hlk:=CW ho;refine fw (VV.owns x xs hlk) λa vs0 j0 h1 h2 h3 h4 h5=>?_;refine yw (Cq VV |> λh=>?_) (Cq VV) rfl;refine E9 (id:=id) (QO:=λov s1=>ov=.ref a) (Q:=λvs s2=>ax (P++ay own) s2.heap [d] vs) rfl hp (show 1<30 by decide) (λe2 he=>by simp at he;subst he;exact tv hd)
  (iM VV h2 (oW VV hx) ⟨S,af.refl,rfl⟩) (λov s1 pl Q S1 k1 r1 q=>?_) (λov s1 S1 k1 r1=>?_) λov us s1 s2 S1 k1 r1 S2 k2 r2=>?_
 ·subst r1;exact hg a s1 _ _ pl Q (k1.kb a _ (λq=>nomatch q) rfl h3) q
 ·exact gU (dP OK R n) (es:=[e]) (ds:=[d]) (aN hd bC) S1 (VV.keep k1.kb)
 ·subst r1;refine bJ r2 λv r' e2_ r3 e4_=>?_;clear r2;subst e2_;subst e4_;have k12:=k1.trans k2;have V2:=VV.keep k12.kb;have h3':=k12.kb a _ (λq=>nomatch q) rfl h3;refine hc a vs0 j0 v s2 _ h3' h5.length r3 (h5.keep k12.kb) λh' ws j' hs he hl hr=>?_;refine aI (zL S2 V2 hlk h1 hs he hl hr) λS3 k3 V3=>?_;exact⟨rfl,own,S3,k12.nil.trans k3,dD.refl,V3⟩
theorem G0 (OK:bq X O k) (R:aK A (k+2)) {x:Str} {xp apos pos spos:Pos} {e:ab} {xs:List PV} {d:PV} (hx:bj sc x=true) (hp:(apos.endLine==pos.line)=true) (ho:gW σ x=some xs) (hd:pe O n sc σ e=some d) (hl:bt (xs.length+1)=true) (S:ai X s) (VV:am X sc env σ own P s.heap):aq (aw X.prog X.w) A (dR (.Expr (.Call (.Attribute (.Name x xp) "append" apos) [e] [] pos) spos) env) (λf s'=>dC X sc env own P s (.nx (put σ x (.own (xs++[d])))) f s') (λζ ζ=>False) s:=by
 refine Gv (id:= "list.append") OK R hx hp ho hd S VV (λa s1 its j pl Q e q=>?_) λa vs j v s1 Q e hvl rv rl hQ=>?_
 ·exact Q4 (T:= "list") ⟨_,e,rfl⟩ SY SZ Ta (λb q=>by cases q;exact az _ e rfl) q
 ·have hle:=eH hl;refine QW (items:=vs.toArray) ⟨j,e⟩ (λh' h_ hs=>aE h_ λj' e'=>?_) (by simp;exact Og hvl hle);refine hQ h' (vs++[v]) j' hs (by refine aa e' ?_;simp) (by simp;exact Gm hvl hle) (rl.append (ax.one rv))
theorem Gg (OK:bq X O k) (R:aK A (k+2)) {x:Str} {xp ip pos:Pos} {i:ab} {xs:List PV} {kk:Int} {j:Nat} (hx:bj sc x=true) (ho:gW σ x=some xs) (hd:pe O n sc σ i=some (.int kk)) (hj:iD kk xs.length=some j) (h1: -1000<=kk) (h2:kk<1000) (S:ai X s) (VV:am X sc env σ own P s.heap):aq (aw X.prog X.w) A (dR (.Delete [.Subscript (.Name x xp) i ip] pos) env) (λf s'=>dC X sc env own P s (.nx (put σ x (.own (xs.eraseIdx j)))) f s') (λζ ζ=>False) s:=by
 have hlk:=CW ho;refine fw (VV.owns x xs hlk) λa vs0 j0 a1 a2 a3 a4 a5=>?_
 have e1:dR (.Delete [.Subscript (.Name x xp) i ip] pos) env=(do
  ea pos
  (do
   (do
    let ov <- aG (.Name x xp) env
    let iv <- holding [ov] (aG i env)
    ea ip
    holding [ov,iv] (delItem ov iv)
    Di [ov,iv] [])
   pure ())
  pure Flow.next):=rfl
 refine aa e1 ?_;refine ak (eb (ak (ak (ak (iM VV a2 (oW VV hx) ?_)))));refine ak (fi (aA (dP OK R n sc σ env own P i _ s hd S VV) (λiv s1 h_0=>aI h_0 λS1 k1 r1=>?_) λζ ζ f=>f));refine aE r1 λt e1_=>?_;clear r1;subst e1_;have a3':=k1.kb a _ (λq=>nomatch q) rfl a3;have hjl:vs0.toArray.size=xs.length:=by simp[a5.length]
 refine ak (eb (ak (fi ?_)));refine wpAny_delItem_plain (items:=vs0.toArray) (k:=j) ⟨j0,a3'⟩ (by unfold P6;simp;exact NY h1 h2) (by refine aa hjl ?_;exact hj) (λh' h_ hs=>aE h_ λj' e'=>?_) (by simpa using a4);have hr:ax (P++ay own) s1.heap (xs.eraseIdx j) (vs0.eraseIdx j):=by rw[Q5,Q5];exact ((a5.keep k1.kb).take j).append ((a5.keep k1.kb).drop (j+1))
 have he2:vs0.toArray.eraseIdxIfInBounds j=(vs0.eraseIdx j).toArray:=by simp
 replace e':=he2▸e'
 obtain ⟨S2,k2,V2⟩:=zL S1 (VV.keep k1.kb) hlk a1 hs e' (by
  have:=List.length_eraseIdx_le vs0 j
  exact al (by assumption) (by assumption)) hr
 refine aA (zq (X:=X) (A:=A) (P:=λζ s'=>s'={s1 with heap:=h'}) _ _ S2 rfl) (λζ s3 h_1=>aI h_1 λζ ζ e3=>?_) λζ ζ f=>f;subst e3;exact aS (aS ⟨rfl,own,S2,k1.nil.trans k2,dD.refl,V2⟩)
end
structure Lq where
 X:Cx
 A:aO
 sc:Scope
 env:Env
 own:List (Str×Addr)
 P:List Addr
 tgt:ab
 it:Value
 xs:List PV
 cs:List PV
 cvs:List Value
 St:Nat->ae->Prop
 fp:List Addr
 wr:List Addr
 s0:ae
structure nJ (L:Lq):Prop where
 it:ix L.X L.A L.tgt L.it L.xs L.cs L.cvs L.St L.fp L.wr L.s0.gens.size
 fp:∀b∈L.fp,b∉L.P/\b≠L.env.locals/\b∉qP L.sc L.env
 wl:∀b∈L.wr,L.s0.heap.get? b=none
 wc:∀b∈L.wr,b≠L.env.locals/\∀x,(x,b)∉L.env.cells
 hh:L.A.handled=none
structure gx (L:Lq) (σ:Sg) (own:List (Str×Addr)) (j:Nat) (s:ae):Prop where
 S:ai L.X s
 V:am L.X L.sc L.env σ own (L.wr++L.P) s.heap
 st:L.St j s
 cs:ax ((L.wr++L.P)++ay own) s.heap L.cs L.cvs
 fo:∀b∈L.fp,b∉ay own
 oin:dD L.own own L.s0
 stp:af (aV L.sc L.env L.own) L.s0 s
section
variable {L:Lq} {σ σ':Sg} {own own':List (Str×Addr)} {j:Nat} {s s':ae}
theorem gx.go (K:nJ L) (F:gx L σ own j s) (S':ai L.X s') (k:af (aV L.sc L.env own) s s') (o:dD own own' s) (V':am L.X L.sc L.env σ' own' (L.wr++L.P) s'.heap):gx L σ' own' j s' where
 S:=S'
 V:=V'
 st:=K.it.frame j s s' F.st k.gsz (λb hb o e=>by
  refine ah (K.it.live j s F.st b hb) λo' e' ht=>?_;replace e':=e▸e';have h_:=aj e';clear e';subst h_;refine k.kb b o (λq=>?_) ht e;unfold aV at q;rcases av.mp q with q|q
  ·exact (K.fp b hb).2.1 q
  ·rcases bo.mp q with q|q
   ·exact (K.fp b hb).2.2 q
   ·exact F.fo b hb q) k.gk
 cs:=F.cs.stp F.V k o
 fo:=λb hb q=>(o b q).elim (F.fo b hb) λz=>by refine ah (K.it.live j s F.st b hb) λo' e' ζ=>?_;replace e':=z▸e';exact ac e'
 oin:=F.oin.trans F.stp o
 stp:=F.stp.trans_own F.oin k
theorem gx.nx (K:nJ L) (F:gx L σ own j s) (h:fS L.X L.sc L.env own (L.wr++L.P) s σ' s'):∃own',gx L σ' own' j s':=by refine dS h λown' S' k' o' V'=>?_;clear h;exact⟨own',F.go K S' k' o' V'⟩
theorem gx.item (K:nJ L) (F:gx L σ own j s) {d:PV} {Q:Option Value->ae->Prop} (hd:L.xs[j]?=some d) (h:∀v s1,aq (aw L.X.prog L.X.w) L.A (ly L.tgt L.it v) (λζ s'=>gx L σ own (j+1) s'/\ao ((L.wr++L.P)++ay own) s'.heap d v) (λζ ζ=>False) s1->Q (some v) s1):aq (aw L.X.prog L.X.w) L.A (f8 L.it) Q (λζ ζ=>False) s:=by
 have hwin:cy ((L.wr++L.P)++ay own) s.heap:=F.V.win;refine aA (K.it.item j d ((L.wr++L.P)++ay own) s hd F.st F.S hwin F.cs (λb hb=>bI _ (bI _ hb))) (λr s1 h_=>ah h_ λv e q=>?_) λζ ζ f=>f;subst e;refine h v s1 (aA q (λζ s' h_=>gq h_ λr st S' k=>⟨?_,r⟩) λζ ζ f=>f);have hv:∀b∈L.wr,b∈(L.wr++L.P)++ay own\/s.heap.get? b=none\/∀o,s.heap.get? b=some o->∀its n,o.data≠.seq its n:=λb hb=>.inl (bI _ (bI _ hb))
 refine⟨S',F.V.moveO k.kb (λb hb=>.inl (bI _ hb)) (λb hb=>F.fo b (K.it.sub b hb)) (λq=>(K.wc _ q).1 rfl) (λx c hm q=>(K.wc c q).2 x hm) (λb hb=>?_) (λb hb=>.inl hb),st,ax.kb k.kb hv (λb hb=>.inl hb) _ _ F.cs,
  F.fo,F.oin,bG.after F.stp k K.wl (bf _)⟩
 rcases bo.mp hb with q|q
 ·exact K.it.live _ _ st b (K.it.sub b q)
 ·refine ah (F.V.pin b (bO _ q)) λo e ht=>?_;exact az o (k.kb b o (λz=>(K.fp b (K.it.sub b z)).1 q) ht e) ht
theorem gx.nxp (F:gx L σ own j s):fS L.X L.sc L.env L.own L.P L.s0 σ s:=
 ⟨own,F.S,F.stp,F.oin,F.V.sub λb hb=>bO _ hb⟩
theorem gx.done (K:nJ L) (F:gx L σ own L.xs.length s) {Q:Option Value->ae->Prop} (h:∀s',fS L.X L.sc L.env L.own L.P L.s0 σ s'->Q none s'):aq (aw L.X.prog L.X.w) L.A (f8 L.it) Q (λζ ζ=>False) s:=by refine aA (K.it.done s F.st F.S) (λr s' h_=>aI h_ λe S' k=>?_) λζ ζ f=>f;subst e;refine h s' ⟨own,S',bG.after F.stp k K.wl (bf _),F.oin,F.V.moveO k.kb (λb hb=>.inl (bI _ hb)) (λb hb=>F.fo b (K.it.sub b hb)) (λq=>(K.wc _ q).1 rfl) (λx c hm q=>(K.wc c q).2 x hm) (λb hb=>?_) (λb hb=>.inl (bO _ hb))⟩;refine ah (F.V.pin b (bO _ hb)) λo e ht=>?_;exact az o (k.kb b o (λz=>(K.fp b (K.it.sub b z)).1 hb) ht e) ht
noncomputable def j6 (X:Cx) (A:aO) (sc:Scope) (env:Env) (body:List aL) (f:Sg->Option Out):Prop:=
 ∀σ own P s o,f σ=some o->ai X s->am X sc env σ own P s.heap->aq (aw X.prog X.w) A (dw body env) (λfl s'=>dC X sc env own P s o fl s') (λζ ζ=>False) s
noncomputable def lY (sc:Scope) (t:ab) (f g:Sg->Option Out) (xs:List PV) (σ:Sg) (o:Out):Prop:=
 (match bU (λσ d=>match bu false sc 4 σ t d with|some σ1=>f σ1|none=>none) xs σ with
   |some (.nx σ')=>g σ'
   |some (.bk σ')=>some (.nx σ')
   |r=>r)=some o
noncomputable def vH (sc:Scope) (t:ab) (f g:Sg->Option Out) (ds:List PV) (o:Out):Out->Prop
 |.nx σ5=>lY sc t f g ds σ5 o
 |.bk σ5=>o=.nx σ5
 |.rt d=>o=.rt d
theorem lY.cons {sc:Scope} {t:ab} {f g:Sg->Option Out} {d:PV} {ds:List PV} {σ:Sg} {o:Out} (h:lY sc t f g (d::ds) σ o):∃σ2 o1,bu false sc 4 σ t d=some σ2/\f σ2=some o1/\vH sc t f g ds o o1:=by
 unfold lY at h;rw[ue] at h;cases ha:bu false sc 4 σ t d with
 |none=>replace h:=ha▸h;exact ac h
 |some σ2=>
  replace h:=ha▸h;simp only at h;cases hf:f σ2 with
  |none=>replace h:=hf▸h;exact ac h
  |some o1=>
   replace h:=hf▸h;refine gF σ2 o1 rfl hf ?_;cases o1 with
   |nx σ5=>exact h
   |bk σ5=>exact (aj h).symm
   |rt d=>exact (aj h).symm
noncomputable def ph (X:Cx) (sc:Scope) (env:Env) (own:List (Str×Addr)) (P:List Addr) (s0:ae) (o:Out) (r:Except Value fk) (s':ae):Prop:=∃fl,r=.ok fl/\dC X sc env own P s0 o fl s'
noncomputable def Cm (L:Lq) (f g:Sg->Option Out) (o:Out) (m:Nat) (s':ae):Prop:=∃i σ1 own1,i+m=L.xs.length/\gx L σ1 own1 i s'/\lY L.sc L.tgt f g (L.xs.drop i) σ1 o
section
variable {body orelse:List aL} {f g:Sg->Option Out} {o:Out} {σ1 σ2:Sg} {own1 own4:List (Str×Addr)} {i:Nat} {m:Nat} {s1 s4:ae}
theorem FX {o1:Out} {fl:fk} {s5:ae} {G:Prop} (K:nJ L) (hi:i+(m+1)=L.xs.length) (F4:gx L σ2 own4 (i+1) s4) (ht:vH L.sc L.tgt f g (L.xs.drop (i+1)) o o1) (h5:dC L.X L.sc L.env own4 (L.wr++L.P) s4 o1 fl s5) (nx:fl=.next->Cm L f g o m s5->G) (bk:fl=.brk->ph L.X L.sc L.env L.own L.P L.s0 o (.ok .next) s5->G) (rt:∀w,fl=.ret w->ph L.X L.sc L.env L.own L.P L.s0 o (.ok (.ret w)) s5->G):G:=by
 cases o1 with
 |nx σ5=>
  rcases h5 with ⟨rfl,h5⟩
  rcases F4.nx K h5 with ⟨own5,F5⟩
  exact nx rfl ⟨i+1,σ5,own5,s9 hi,F5,ht⟩
 |bk σ5=>
  rcases h5 with ⟨rfl,h5⟩
  rcases F4.nx K h5 with ⟨own5,F5⟩
  have ht:o=.nx σ5:=ht;subst ht;exact bk rfl ⟨.next,rfl,rfl,F5.nxp⟩
 |rt d=>refine dS h5 λw e1_ S5 k5 r5=>?_;clear h5;subst e1_;have ht:o=.rt d:=ht;subst ht;exact rt w rfl ⟨.ret w,rfl,w,rfl,S5,F4.stp.trans_own F4.oin k5,r5.sub λb hb=>bO _ hb⟩
end
theorem F9 {body orelse:List aL} {f g:Sg->Option Out} {o:Out} (K:nJ L) (F:gx L σ L.own 0 s) (hb:j6 L.X L.A L.sc L.env body f) (hg:j6 L.X L.A L.sc L.env orelse g) (h:lY L.sc L.tgt f g L.xs σ o):lB (aw L.X.prog L.X.w) L.A (.forLoop L.tgt L.it body orelse L.env) (ph L.X L.sc L.env L.own L.P L.s0 o) s:=by
 refine Q6 (Cm L f g o) (λm s1 hI=>?_) L.xs.length ⟨0,σ,L.own,e9 _,F,h⟩;refine jH hI λi σ1 own1 hi F1 hr=>?_;clear hI
 induction m using e8 with
 |zero=>have hi:i=L.xs.length:=hi;subst hi;replace hr:=yp▸hr;exact aA (F1.done K λs2 h_=>dS h_ λown2 S2 k2 o2 V2=>aA (hg σ1 own2 L.P s2 o hr S2 V2) (λfl s3 h3=>⟨fl,rfl,h3.after k2 o2⟩) λζ ζ f=>f.elim) (λζ ζ q=>q) λζ ζ f=>f.elim
 |succ m=>
  have hlt:i<L.xs.length:=wv hi;replace hr:=(lz hlt)▸hr;refine bJ hr.cons λσ2 o1 ha hf ht=>?_
  exact aA (F1.item K (el hlt) λv s2 hlet=>aA hlet (λζ s3 h_=>be h_ λF3 r3=>
   aA (nH K.hh 4 σ1 L.tgt _ σ2 s3 own1 v ha F3.S F3.V r3) (λζ s4 h_=>dS h_ λown4 S4 k4 o4 V4=>
    aA (hb σ2 own4 (L.wr++L.P) s4 o1 hf S4 V4) (λfl s5 h5=>FX K hi (F3.go K S4 k4 (m4 o4) V4) ht h5 (λe q=>by subst e;exact az m (i0 _) q) (λe q=>by subst e;exact q) λw e q=>by subst e;exact q) λζ ζ f=>f.elim)
    λζ ζ f=>f.elim) λζ ζ f=>f.elim) (λζ ζ q=>q) λζ ζ f=>f.elim
end
structure Lg where
 X:Cx
 A:aO
 sc:Scope
 env:Env
 own:List (Str×Addr)
 P:List Addr
 tgt:ab
 it:Value
 xs:List PV
 St:Nat->List Addr->List Addr->ae->Prop
 gm:Nat
 s0:ae
structure ox (L:Lg):Prop where
 it:mv L.X L.A L.it L.xs L.St L.gm
 gm:L.s0.gens.size<=L.gm
 hh:L.A.handled=none
structure iy (L:Lg) (σ:Sg) (own:List (Str×Addr)) (j:Nat) (s:ae) (fp wr:List Addr):Prop where
 S:ai L.X s
 V:am L.X L.sc L.env σ own L.P s.heap
 st:L.St j fp wr s
 fo:∀b∈fp,b∉L.P/\b≠L.env.locals/\(∀x,(x,b)∉L.env.cells)/\b∉ay own
 wl:∀b∈wr,L.s0.heap.get? b=none
 oin:dD L.own own L.s0
 stp:af (aV L.sc L.env L.own) L.s0 s
section
variable {L:Lg} {σ σ':Sg} {own own':List (Str×Addr)} {j:Nat} {s s':ae} {fp wr:List Addr}
theorem mv.lower {X:Cx} {A:aO} {it:Value} {xs:List PV} {St gm gm'} (I:mv X A it xs St gm') (h:gm<=gm'):mv X A it xs St gm:=
 {I with
  item:=λi d fp wr W s h1 h2 h3 h4 h5=>aA (I.item i d fp wr W s h1 h2 h3 h4 h5) (λr s' h_=>i5 h_ λv fp' wr' h_=>pd h_ λa b c d e f=>⟨v,fp',wr',a,b,c,d,e.mono (λζ z=>z) h,f⟩) λζ ζ f=>f
  done:=λfp wr s h1 h2=>aA (I.done fp wr s h1 h2) (λr s' h_1=>aI h_1 λa b c=>⟨a,b,c.mono (λζ z=>z) h⟩) λζ ζ f=>f}
theorem iy.go (K:ox L) (F:iy L σ own j s fp wr) (S':ai L.X s') (k:af (aV L.sc L.env own) s s') (o:dD own own' s) (V':am L.X L.sc L.env σ' own' L.P s'.heap):iy L σ' own' j s' fp wr where
 S:=S'
 V:=V'
 st:=K.it.frame j fp wr s s' F.st k.gsz (λb hb o e=>by
  refine ah (K.it.live j fp wr s F.st b hb) λo' e' ht=>?_;replace e':=e▸e';have h_:=aj e';clear e';subst h_;refine k.kb b o (λq=>?_) ht e;unfold aV at q;refine gq (F.fo b hb) λζ f2 f3 f4=>?_;rcases av.mp q with q|q
  ·exact f2 q
  ·rcases bo.mp q with q|q
   ·refine ah (er q) λx hm ζ=>?_;exact f3 x hm
   ·exact f4 q) k.gk
 fo:=λb hb=>by
  refine gq (F.fo b hb) λf1 f2 f3 f4=>?_
  exact⟨f1,f2,f3,λq=>(o b q).elim f4 λz=>by
   refine ah (K.it.live j fp wr s F.st b hb) λo' e' ζ=>?_
   replace e':=z▸e';exact ac e'⟩
 wl:=F.wl
 oin:=F.oin.trans F.stp o
 stp:=F.stp.trans_own F.oin k
theorem iy.item (K:ox L) (F:iy L σ own j s fp wr) {d:PV} {Q:Option Value->ae->Prop} (hd:L.xs[j]?=some d) (h:∀v s1 fp' wr',iy L σ own (j+1) s1 fp' wr'->ao (L.P++ay own) s1.heap d v->Q (some v) s1):aq (aw L.X.prog L.X.w) L.A (f8 L.it) Q (λζ ζ=>False) s:=by
 refine aA (K.it.item j d fp wr (L.P++ay own) s hd F.st F.S F.V.win (λb hb q=>(bo.mp q).elim (F.fo b hb).1 (F.fo b hb).2.2.2)) (λr s1 h_=>i5 h_ λv fp' wr' h_=>Jp h_ λe r st S1 k hfp hwr=>?_) λζ ζ f=>f;subst e;have hns:=K.it.nseq j fp wr s F.st;have hsub:=K.it.sub j fp wr s F.st;have V1:am L.X L.sc L.env σ own L.P s1.heap:=F.V.moveO k.kb (λb hb=>.inr (.inr (hns b hb))) (λb hb=>(F.fo b (hsub b hb)).2.2.2) (λq=>(F.fo _ (hsub _ q)).2.1 rfl) (λx c hm q=>(F.fo c (hsub c q)).2.2.1 x hm)
  (λb hb=>by
   refine ah (F.V.pin b hb) λo e ht=>?_
   exact az o (k.kb b o (λz=>(F.fo b (hsub b z)).1 hb) ht e) ht) λb hb=>.inl hb
 refine h v s1 fp' wr' ⟨S1,V1,st,λb hb=>?_,λb hb=>(hwr b hb).elim (F.wl b) λz=>F.stp.none z,F.oin,bG.after F.stp k F.wl K.gm⟩ r;rcases hfp b hb with q|q
 ·exact F.fo b q
 ·refine i9 (λz=>by (refine ah (F.V.pin b z) λo e ζ=>?_;replace e:=q▸e;exact ac e)) (λz=>?_) (λx hm=>?_) (λz=>?_)
  ·obtain ⟨m,o,_,_,e,_⟩:=F.V.ns;replace e:=(eh z)▸e;replace e:=q▸e;exact ac e
  ·refine bR (F.V.cells x b hm) λv o e ζ=>?_;replace e:=q▸e;exact ac e
  ·obtain ⟨⟨x,a⟩,hm,rfl⟩:=dG.mp z;obtain ⟨_,its,n,e⟩:=F.V.ownF x a hm;replace e:=q▸e;exact ac e
theorem iy.nxp (F:iy L σ own j s fp wr):fS L.X L.sc L.env L.own L.P L.s0 σ s:=⟨own,F.S,F.stp,F.oin,F.V⟩
theorem iy.done (K:ox L) (F:iy L σ own L.xs.length s fp wr) {Q:Option Value->ae->Prop} (h:∀s',fS L.X L.sc L.env L.own L.P L.s0 σ s'->Q none s'):aq (aw L.X.prog L.X.w) L.A (f8 L.it) Q (λζ ζ=>False) s:=by refine aA (K.it.done fp wr s F.st F.S) (λr s' h_3=>aI h_3 λe S' k=>?_) λζ ζ f=>f;subst e;have hns:=K.it.nseq _ fp wr s F.st;have hsub:=K.it.sub _ fp wr s F.st;refine h s' ⟨own,S',bG.after F.stp k F.wl K.gm,F.oin,F.V.moveO k.kb (λb hb=>.inr (.inr (hns b hb))) (λb hb=>(F.fo b (hsub b hb)).2.2.2) (λq=>(F.fo _ (hsub _ q)).2.1 rfl) (λx c hm q=>(F.fo c (hsub c q)).2.2.1 x hm) (λb hb=>?_) (λb hb=>.inl hb)⟩;refine ah (F.V.pin b hb) λo e ht=>?_;exact az o (k.kb b o (λz=>(F.fo b (hsub b z)).1 hb) ht e) ht
noncomputable def Ct (L:Lg) (f g:Sg->Option Out) (o:Out) (m:Nat) (s':ae):Prop:=∃i σ1 own1 fp1 wr1,i+m=L.xs.length/\iy L σ1 own1 i s' fp1 wr1/\lY L.sc L.tgt f g (L.xs.drop i) σ1 o
theorem Oh {f g:Sg->Option Out} {σ2:Sg} {own4:List (Str×Addr)} {i m:Nat} {s4 s5:ae} {fp3 wr3:List Addr} {o o1:Out} {fl:fk} {G:Prop} (K:ox L) (hi:i+(m+1)=L.xs.length) (F4:iy L σ2 own4 (i+1) s4 fp3 wr3) (ht:vH L.sc L.tgt f g (L.xs.drop (i+1)) o o1) (h5:dC L.X L.sc L.env own4 L.P s4 o1 fl s5) (nx:fl=.next->Ct L f g o m s5->G) (bk:fl=.brk->ph L.X L.sc L.env L.own L.P L.s0 o (.ok .next) s5->G) (rt:∀w,fl=.ret w->ph L.X L.sc L.env L.own L.P L.s0 o (.ok (.ret w)) s5->G):G:=by
 cases o1 with
 |nx σ5=>obtain ⟨rfl,own5,S5,k5,o5,V5⟩:=h5;exact nx rfl ⟨i+1,σ5,own5,fp3,wr3,s9 hi,F4.go K S5 k5 o5 V5,ht⟩
 |bk σ5=>obtain ⟨rfl,own5,S5,k5,o5,V5⟩:=h5;have ht:o=.nx σ5:=ht;subst ht;exact bk rfl ⟨.next,rfl,rfl,(F4.go K S5 k5 o5 V5).nxp⟩
 |rt d=>refine dS h5 λw e1_ S5 k5 r5=>?_;clear h5;subst e1_;have ht:o=.rt d:=ht;subst ht;exact rt w rfl ⟨.ret w,rfl,w,rfl,S5,F4.stp.trans_own F4.oin k5,r5⟩
theorem Na {body orelse:List aL} {f g:Sg->Option Out} {o:Out} (K:ox L) (F:iy L σ L.own 0 s fp wr) (hb:j6 L.X L.A L.sc L.env body f) (hg:j6 L.X L.A L.sc L.env orelse g) (h:lY L.sc L.tgt f g L.xs σ o):lB (aw L.X.prog L.X.w) L.A (.forLoop L.tgt L.it body orelse L.env) (ph L.X L.sc L.env L.own L.P L.s0 o) s:=by
 refine Q6 (Ct L f g o) (λm s1 hI=>?_) L.xs.length ⟨0,σ,L.own,fp,wr,e9 _,F,h⟩;obtain ⟨i,σ1,own1,fp1,wr1,hi,F1,hr⟩:=hI
 induction m using e8 with
 |zero=>have hi:i=L.xs.length:=hi;subst hi;replace hr:=yp▸hr;exact aA (F1.done K λs2 h_4=>dS h_4 λown2 S2 k2 o2 V2=>aA (hg σ1 own2 L.P s2 o hr S2 V2) (λfl s3 h3=>⟨fl,rfl,h3.after k2 o2⟩) λζ ζ f=>f.elim) (λζ ζ q=>q) λζ ζ f=>f.elim
 |succ m=>
  have hlt:i<L.xs.length:=wv hi;replace hr:=(lz hlt)▸hr;refine bJ hr.cons λσ2 o1 ha hf ht=>?_
  exact aA (F1.item K (el hlt) λv s3 fp3 wr3 F3 r3=>aA (K.it.plain _ _ _ _ _ _ _ F3.st
   (aA (nH K.hh 4 σ1 L.tgt _ σ2 s3 own1 v ha F3.S F3.V r3) (λζ s4 h_=>dS h_ λown4 S4 k4 o4 V4=>
    aA (hb σ2 own4 L.P s4 o1 hf S4 V4) (λfl s5 h5=>Oh K hi (F3.go K S4 k4 (m4 o4) V4) ht h5 (λe q=>by subst e;exact az m (i0 _) q) (λe q=>by subst e;exact q) λw e q=>by subst e;exact q) λζ ζ f=>f.elim)
    λζ ζ f=>f.elim)) (λζ ζ z=>z) λζ ζ f=>f.elim) (λζ ζ q=>q) λζ ζ f=>f.elim
end
section
variable {X:Cx} {A:aO} {s s0 s':ae} {env:Env} {sc:Scope} {σ σ':Sg} {own own':List (Str×Addr)} {P P' V:List Addr} {W:List Addr} {O:Orc} {k n:Nat} {E:Value->ae->Prop}
noncomputable def xQ (X:Cx) (A:aO) (O:Orc) (n:Nat):Prop:=∀sc env σ own P st o s,px O n sc σ st=some o->ai X s->am X sc env σ own P s.heap->
 aq (aw X.prog X.w) A (dR st env) (λfl s'=>dC X sc env own P s o fl s') (λζ ζ=>False) s
noncomputable def rz (X:Cx) (A:aO) (O:Orc) (n:Nat):Prop:=∀sc env σ own P sts o s,aJ O n sc σ sts=some o->ai X s->am X sc env σ own P s.heap->
 aq (aw X.prog X.w) A (dw sts env) (λfl s'=>dC X sc env own P s o fl s') (λζ ζ=>False) s
theorem Nx (OK:bq X O k) (R:aK A (k+2)) {t it:ab} {b orelse:List aL} {pos:Pos} {xs:List PV} {o:Out} {f g:Sg->Option Out} (hi:cr O n sc σ (dM t) it=some xs) (hb:j6 X A sc env b f) (hg:j6 X A sc env orelse g) (h:(match bU (λσ d=>match bu false sc 4 σ t d with|some σ1=>f σ1|none=>none) xs σ with
   |some (.nx σ')=>g σ'
   |some (.bk σ')=>some (.nx σ')
   |r=>r)=some o) (S:ai X s) (VV:am X sc env σ own P s.heap):aq (aw X.prog X.w) A (dR (.For t it b orelse pos) env) (λfl s'=>dC X sc env own P s o fl s') (λζ ζ=>False) s:=by
 refine be (wz OK R n sc σ env own P t it xs s hi S VV) λhs hev=>?_;refine wpAny_For (aA hev (λx s1 h_0=>aI h_0 λS1 k1 h1=>aA h1 (λv s2 h_1=>aI h_1 λS2 k2 h2=>?_) λζ ζ f=>f.elim) λζ ζ f=>f.elim) hs;obtain ⟨cs,cvs,St,fp,wr,It,hst,hcs,hwr,hfp⟩:=h2;have k02:=k1.trans k2
 let L:Lq:={X:=X,A:=A,sc:=sc,env:=env,own:=own,P:=P,tgt:=t,it:=v,xs:=xs,cs:=cs,cvs:=cvs,St:=St,fp:=fp,wr:=wr,s0:=s}
 have K:nJ L:=
  {it:=It,wl:=hwr,hh:=R.hh
   fp:=λb hb=>⟨λq=>(hfp b hb).1 (bI _ q),λq=>(hfp b hb).2 (av.mpr (.inl q)),λq=>(hfp b hb).2 (cg _ (bI _ q))⟩
   wc:=λb hb=>⟨λq=>(by
    have q:b=env.locals:=q;obtain ⟨m,o,_,_,e,_⟩:=VV.ns
    replace e:=(eh q)▸e;replace e:=(hwr b hb)▸e;exact ac e),λx hm=>(by
    have hm:(x,b)∈env.cells:=hm;refine bR (VV.cells x b hm) λv o e ζ=>?_
    replace e:=(hwr b hb)▸e;exact ac e)⟩}
 have F:gx L σ own 0 s2:=
  {S:=S2
   V:=VV.pins k02.kb (λb hb=>(bo.mp hb).elim (λq=>It.live 0 s2 hst b (It.sub b q)) λq=>(VV.keep k02.kb).pin b q) λb hb=>(bo.mp hb).elim (λq=>.inr (hwr b q)) .inl
   st:=hst
   cs:=hcs.sub λb hb=>by
    rcases bo.mp hb with q|q
    ·rcases bo.mp q with q|q
     ·exact bI _ q
     ·exact bO _ (bI _ q)
    ·exact bO _ (bO _ q)
   fo:=λb hb q=>(hfp b hb).1 (bO _ q)
   oin:=dD.refl
   stp:=k02.nil}
 refine yq (F9 K F hb hg h) λr s3 h_2=>ah h_2 λfl e h3=>?_;subst e;exact h3
theorem Kl (OK:bq X O k) (R:aK A (k+2)) {t it:ab} {b orelse:List aL} {pos:Pos} {xs:List PV} {o:Out} {f g:Sg->Option Out} (hi:j8 O n sc σ it=some xs) (hb:j6 X A sc env b f) (hg:j6 X A sc env orelse g) (h:(match bU (λσ d=>match bu false sc 4 σ t d with|some σ1=>f σ1|none=>none) xs σ with
   |some (.nx σ')=>g σ'
   |some (.bk σ')=>some (.nx σ')
   |r=>r)=some o) (S:ai X s) (VV:am X sc env σ own P s.heap):aq (aw X.prog X.w) A (dR (.For t it b orelse pos) env) (λfl s'=>dC X sc env own P s o fl s') (λζ ζ=>False) s:=by
 obtain ⟨f0,fp0,a,p0,rfl,hgl,d,hd,hi⟩:=EA hi
 ···obtain ⟨_,hnm,fa,hmg,⟨o',fd,ho,hcl,hdd⟩,hc⟩:=OK.gen f0 _ xs hi;have hm:aY (pe O n sc σ) [a]=some [d]:=aN hd bC;have hev:Ev X A s (aG (.Call (.Name f0 fp0) [a] [] p0) env) (λx s1=>Ev X A s1 (f9 x) (λit s2=>∃St fp wr,mv X A it xs St s.gens.size/\St 0 fp wr s2/\∀b∈fp,s.heap.get? b=none)):=by refine J9 S VV hgl hnm hmg ho hcl hdd (jE hm) (λs' S' k'=>gU (dP OK R n) hm S' (VV.keep k'.kb)) λvs s' S' k' r=>?_;refine aA (hc A s' (P++ay own) vs (R.mono (fI _ _)) S' (VV.keep k'.kb).win r) (λx s1 h_3=>aI h_3 λS1 k1 q1=>⟨S1,k1,?_⟩) λζ ζ f=>f;refine aA q1 (λit s2 h_=>aI h_ λS2 k2 h_=>i5 h_ λSt fp wr h_=>aI h_ λIt hst hfp=>⟨S2,k2,St,fp,wr,It.lower k'.gsz,hst,λb hb=>k'.none (hfp b hb)⟩) λζ ζ f=>f
    refine wpAny_For (aA hev (λx s1 h_=>aI h_ λS1 k1 h1=>aA h1 (λv s2 h_=>aI h_ λS2 k2 h_=>i5 h_ λSt fp wr h_=>aI h_ λIt hst hfp=>?_) λζ ζ f=>f.elim) λζ ζ f=>f.elim) (λζ=>rfl);have k02:=k1.trans k2
    let L:Lg:={X:=X,A:=A,sc:=sc,env:=env,own:=own,P:=P,tgt:=t,it:=v,xs:=xs,St:=St,gm:=s.gens.size,s0:=s}
    have K:ox L:={it:=It,gm:=bf _,hh:=R.hh}
    have F:iy L σ own 0 s2 fp wr:=
     {S:=S2,V:=VV.keep k02.kb,st:=hst,wl:=λb hb=>hfp b (It.sub _ _ _ _ hst b hb),oin:=dD.refl,stp:=k02.nil
      fo:=λb hb=>by
       have hn:=hfp b hb;have h1:=VV.new_out hn;refine i9 (λq=>h1.1 (bI _ q)) (λq=>h1.2 (av.mpr (.inl q))) (λx hm=>?_) (λq=>h1.1 (bO _ q));have hm:(x,b)∈env.cells:=hm;refine bR (VV.cells x b hm) λv o e ζ=>?_
       replace e:=hn▸e;exact ac e}
    refine yq (Na K F hb hg h) λr s3 h_7=>ah h_7 λfl e h3=>?_;subst e;exact h3
theorem EO (hS:xQ X A O n) (ih:rz X A O n):rz X A O (n+1):=by
 intro sc env σ own P sts o s h S VV
 induction sts using aP with
 |nil=>have h:=aj h;subst h;exact sb ⟨rfl,own,S,af.refl,dD.refl,VV⟩
 |cons st r=>
  replace h:=oH▸h;refine gQ ?_;have go:∀(Q:fk->ae->Prop),(∀s',aq (aw X.prog X.w) A (dw r env) (λfl s'=>dC X sc env own P s o fl s') (λζ ζ=>False) s'->Q .next s')->(∀f s',f≠.next->dC X sc env own P s o f s'->Q f s')->
    ∀σ0 own0 o1,px O n sc σ0 st=some o1->am X sc env σ0 own0 P s.heap->dD own own0 s->af (aV sc env own) s s->(∀b∈aV sc env own0,b∈aV sc env own)->
    (match (some o1:Option Out) with|some (.nx σ')=>aJ O n sc σ' r|o=>o)=some o->
    aq (aw X.prog X.w) A (dR st env) Q (λζ ζ=>False) s:=by
   intro Q hq1 hq2 σ0 own0 o1 h1 V0 ho _ hsub hr;have lift:∀{o fl s'},dC X sc env own0 P s o fl s'->dC X sc env own P s o fl s':=λ{o fl s'} q=>q.after (s:=s) af.refl ho;refine aA (hS sc env σ0 own0 P st o1 s h1 S V0) (λf s1 hf=>?_) λζ ζ f=>f;cases o1 with
   |nx σ1=>obtain ⟨rfl,own1,S1,k1,o1,V1⟩:=lift hf;exact hq1 _ (aA (ih sc env σ1 own1 P r o s1 hr S1 V1) (λfl s2 h2=>h2.after k1 o1) λζ ζ f=>f)
   |bk σ1=>have hr:=aj hr;subst hr;exact hq2 _ _ (λq=>by replace q:=hf.1▸q;nomatch q) (lift hf)
   |rt d=>have hr:=aj hr;subst hr;exact hq2 _ _ (aE hf λv e q=>by replace q:=e.1▸q;nomatch q) (lift hf)
  cases h1:px O n sc σ st with
  |some o1=>
   replace h:=h1▸h;refine go _ (λs' h=>h) (λf s' hf h=>?_) σ own o1 h1 VV dD.refl af.refl (λb hb=>hb) h
   induction f using pS<;>first|exact absurd rfl hf|exact h
  |none=>
   replace h:=h1▸h;simp only at h;cases h3:px O n sc (unown1 σ (lZ st)) st with
   |some o1=>
    replace h:=h3▸h;refine ah (VV.unown1 (lZ st)) λown1 V1 ho1=>?_;refine go _ (λs' h=>h) (λf s' hf h=>?_) (unown1 σ (lZ st)) own1 o1 h3 V1 (λb hb=>.inl (ho1 b hb)) af.refl (λb hb=>vY ho1 hb) h
    induction f using pS<;>first|exact absurd rfl hf|exact h
   |none=>
    replace h:=h3▸h;simp only at h;cases h2:px O n sc (unown σ) st with
    |none=>replace h:=h2▸h;exact ac h
    |some o1=>
     replace h:=h2▸h;refine go _ (λs' h=>h) (λf s' hf h=>?_) (unown σ) [] o1 h2 VV.unown (λb hb=>absurd hb bz) af.refl (λb hb=>vY (λc hc=>absurd hc bz) hb) h
     induction f using pS<;>first|exact absurd rfl hf|exact h
theorem qw {t:ab} {b o:List aL} {pos:Pos}:dR (.If t b o pos) env=(do
  ea pos if <- isTrue t env (aG t env) then dw b env else dw o env):=rfl
section
variable {o:Out} {pos:Pos} (OK:bq X O k) (R:aK A (k+2)) (ih:rz X A O n) (S:ai X s) (VV:am X sc env σ own P s.heap)
noncomputable def jD (X:Cx) (A:aO) (sc:Scope) (env:Env) (own:List (Str×Addr)) (P:List Addr) (st:aL) (o:Out) (s:ae):Prop:=
 aq (aw X.prog X.w) A (dR st env) (λfl s'=>dC X sc env own P s o fl s') (λζ ζ=>False) s
include OK R S VV
theorem Gq {ts:List ab} {e:ab} (h:px O (n+1) sc σ (.Assign ts e pos)=some o):jD X A sc env own P (.Assign ts e pos) o s:=by
 induction ts using aP with
 |nil=>exact ac h
 |cons t r=>
  induction r using aP with
  |cons _ _=>induction t using bE<;>exact ac h
  |nil=>
   induction t using bE with
   |Name x xp=>
    have h:(if bb sc x=true then (match fA O n sc σ e with|some d=>some (Out.nx (put σ x d))|none=>none) else none)=some o:=h;refine ifs h λhx h=>?_
    set_option smartUnfolding false in refine om h λd hd h=>?_
    have h:=aj h;subst h;exact KW OK R hx hd S VV
   |Tuple ts tn tp=>
    cases hte:dM e with
    |true=>
     induction e using bE with
     |Tuple vs vn vp=>
      have h:(match aY fv ts with
        |some xs=>if (xs.all (bb sc)&&jR xs&&xs.length==vs.length&&(!(vs.all (mQ 8))||vs.all (mR 8))&&my vs.length 1000)=true
          then (match aY (fA O n sc σ) vs with|some ents=>some (Out.nx (bP σ (xs.zip ents)))|none=>none) else none
        |none=>(match pe O n sc σ (.Tuple vs vn vp) with
          |some d=>(match bu false sc 4 σ (.Tuple ts tn tp) d with|some σ'=>some (.nx σ')|none=>none)
          |none=>none))=some o:=h
      revert h;refine cn (aY fv ts) λw hx=>?_;intro h
      induction w using bW with
      |some xs=>
       refine ifs h λhc h=>?_;simp only[bF] at hc
       set_option smartUnfolding false in refine om h λents he h=>?_
       have h:=aj h;subst h;exact MN OK R hx hc.1.1.1.1 hc.1.1.1.2 (bh hc.1.1.2) hc.1.2 (jt hc.2) he S VV
      |none=>
       set_option smartUnfolding false in refine om h λd hd h=>?_
       set_option smartUnfolding false in refine om h λσ1 h1 h=>?_
       have h:=aj h;subst h;exact NA OK R hx hd h1 S VV
     |_=>first|exact aZ hte|exact dz hte
    |false=>
     have h:(match pe O n sc σ e with
       |some d=>(match bu false sc 4 σ (.Tuple ts tn tp) d with|some σ'=>some (Out.nx σ')|none=>none)
       |none=>none)=some o:=by
      refine aH h ?_
      induction e using bE<;>first|rfl|exact aZ hte|exact dz hte
     set_option smartUnfolding false in refine om h λd hd h=>?_
     set_option smartUnfolding false in refine om h λσ1 h1 h=>?_
     have h:=aj h;subst h;exact IV OK R hte hd h1 S VV
   |_=>exact ac h
theorem Io {t e:ab} {op:mz} (h:px O (n+1) sc σ (.AugAssign t op e pos)=some o):jD X A sc env own P (.AugAssign t op e pos) o s:=by
 induction t using bE with
 |Name x np=>
  have h:(if (bb sc x&&bj sc x)=true then (match gS σ x,pe O n sc σ e with
    |some a,some b=>(match ml op a b with|some d=>some (Out.nx (put σ x (.sh d)))|none=>none)
    |_,_=>none) else none)=some o:=h
  refine ifs h λhx h=>?_;simp only[bF] at hx
  set_option smartUnfolding false in refine j2 h λa b ha hb h=>?_
  set_option smartUnfolding false in refine om h λd hd h=>?_
  have h:=aj h;subst h;exact L5 OK R hx.1 hx.2 ha hb hd S VV
 |_=>exact ac h
theorem Nd {x m:Str} {xp apos p:Pos} {e:ab} (h:(if (bj sc x&&apos.endLine==p.line)=true then (match gW σ x,pe O n sc σ e with
    |some xs,some d=>if (m== "append")=true then (if bt (xs.length+1)=true then some (Out.nx (put σ x (.own (xs++[d])))) else none)
      else none
    |_,_=>none) else none)=some o):jD X A sc env own P (.Expr (.Call (.Attribute (.Name x xp) m apos) [e] [] p) pos) o s:=by
 refine ifs h λhx h=>dm hx λhx1 hx2=>?_
 set_option smartUnfolding false in refine j2 h λxs d ho hd h=>?_
 refine ifs h λhm h=>ifs h λhl h=>?_;have h:=aj h;have hm:=bh hm;subst h;subst hm;exact G0 OK R hx1 hx2 ho hd hl S VV
theorem Oc {e:ab} (h:px O (n+1) sc σ (.Expr e pos)=some o):jD X A sc env own P (.Expr e pos) o s:=by
 induction e using bE with
 |Call f args kws p=>
  induction f using bE with
  |Attribute v m apos=>
   induction v using bE with
   |Name x xp=>
    induction args using aP with
    |nil=>exact ac h
    |cons e r=>
     induction r using aP with
     |cons _ _=>exact ac h
     |nil=>
      induction kws using aP with
      |cons _ _=>exact ac h
      |nil=>exact Nd OK R S VV h
   |_=>exact ac h
  |_=>exact ac h
 |_=>exact ac h
theorem HF {x:Str} {xp ip:Pos} {i:ab} (h:(if bj sc x=true then (match gW σ x,pe O n sc σ i with
    |some xs,some (.int k)=>(match iD k xs.length with|some j=>if (decide (-1000<=k)&&decide (k<1000))=true then some (Out.nx (put σ x (.own (xs.eraseIdx j)))) else none|none=>none)
    |_,_=>none) else none)=some o):jD X A sc env own P (.Delete [.Subscript (.Name x xp) i ip] pos) o s:=by
 refine ifs h λhx h=>?_
 set_option smartUnfolding false in refine Kz h λxs kk ho hd h=>?_
 set_option smartUnfolding false in refine om h λj hj h=>?_
 refine ifs h λhb h=>dm hb λhb1 hb2=>?_;have h:=aj h;subst h;exact Gg OK R hx ho hd hj (of_decide_eq_true hb1) (of_decide_eq_true hb2) S VV
theorem HB {ts:List ab} (h:px O (n+1) sc σ (.Delete ts pos)=some o):jD X A sc env own P (.Delete ts pos) o s:=by
 induction ts using aP with
 |nil=>exact ac h
 |cons t r=>
  induction t using bE with
  |Subscript v i ip=>
   induction v using bE with
   |Name x xp=>
    induction r using aP with
    |cons _ _=>exact ac h
    |nil=>exact HF OK R S VV h
   |_=>exact ac h
  |_=>exact ac h
include ih
theorem LZ {t:ab} {b e:List aL} (h:px O (n+1) sc σ (.If t b e pos)=some o):jD X A sc env own P (.If t b e pos) o s:=by
 have h:(match pT O n sc σ t with
    |some true=>aJ O n sc σ b
    |some false=>aJ O n sc σ e
    |none=>none)=some o:=h
 unfold jD;refine aa qw ?_;refine ak (eb (ak ?_));refine xJ h (λht h=>?_) λht h=>?_
 ·refine aA (kF OK R n sc σ env own P t true s ht S VV) (λc s1 h_8=>aI h_8 λS1 k1 e1=>?_) λζ ζ f=>f;subst e1;exact aA (ih sc env σ own P b o s1 h S1 (VV.keep k1.kb)) (λζ ζ q=>q.keep k1) λζ ζ f=>f
 ·refine aA (kF OK R n sc σ env own P t false s ht S VV) (λc s1 h_9=>aI h_9 λS1 k1 e1=>?_) λζ ζ f=>f;subst e1;exact aA (ih sc env σ own P e o s1 h S1 (VV.keep k1.kb)) (λζ ζ q=>q.keep k1) λζ ζ f=>f
theorem IN {t it:ab} {b e:List aL} (h:px O (n+1) sc σ (.For t it b e pos)=some o):jD X A sc env own P (.For t it b e pos) o s:=by
 have hb:j6 X A sc env b λσ=>aJ O n sc σ b:=λσ own P s o q S V=>ih sc env σ own P b o s q S V;have hg:j6 X A sc env e λσ=>aJ O n sc σ e:=λσ own P s o q S V=>ih sc env σ own P e o s q S V
 have h:(match (match cr O n sc σ (dM t) it with|some xs=>some (false,xs)|none=>(match j8 O n sc σ it with|some xs=>some (true,xs)|none=>none)) with
    |some (_,xs)=>(match bU (λσ d=>match bu false sc 4 σ t d with|some σ1=>aJ O n sc σ1 b|none=>none) xs σ with
      |some (.nx σ')=>aJ O n sc σ' e
      |some (.bk σ')=>some (.nx σ')
      |r=>r)
    |none=>none)=some o:=h
 cases hx:cr O n sc σ (dM t) it with
 |some xs=>replace h:=hx▸h;exact Nx OK R hx hb hg h S VV
 |none=>
  replace h:=hx▸h;cases hx':j8 O n sc σ it with
  |some xs=>replace h:=hx'▸h;exact Kl OK R hx' hb hg h S VV
  |none=>replace h:=hx'▸h;exact ac h
omit ih
theorem MU {e:Option ab} (h:px O (n+1) sc σ (.Return e pos)=some o):jD X A sc env own P (.Return e pos) o s:=by
 induction e using bW with
 |none=>have h:=aj h;subst h;refine (?_:aq _ A (ea pos>>=λζ=>(pure (DQ .none):bw fk)) _ _ s);exact ak (eb (aS ⟨_,rfl,S,af.refl,rfl⟩))
 |some e=>
  have h:(match pe O n sc σ e with|some d=>some (Out.rt d)|none=>none)=some o:=h
  set_option smartUnfolding false in refine om h λd hd h=>?_
  ·have h:=aj h;subst h;exact sd (aA (dP OK R n sc σ env own P e d s hd S VV) (λv s1 h_10=>aI h_10 λS1 k1 r1=>⟨v,rfl,S1,k1.nil,r1.sub λb hb=>bI _ hb⟩) λζ ζ f=>f)
theorem L0 {t:ab} {m:Option ab} (h:px O (n+1) sc σ (.Assert t m pos)=some o):jD X A sc env own P (.Assert t m pos) o s:=by
 have h:(match pT O n sc σ t with|some true=>some (Out.nx σ)|_=>none)=some o:=h;refine HW h λht h=>?_
 ·have h:=aj h;subst h;exact wpAny_Assert_holds (aA (kF OK R n sc σ env own P t true s ht S VV) (λc s1 h_11=>aI h_11 λS1 k1 e1=>⟨e1,rfl,own,S1,k1.nil,dD.refl,VV.keep k1.kb⟩) λζ ζ f=>f)
end
theorem MZ (OK:bq X O k) (R:aK A (k+2)) (ih:rz X A O n):xQ X A O (n+1):=by
 intro sc env σ own P st o s h S VV
 induction st using Stmt.casesOn with
 |Assign ts e pos=>exact Gq OK R S VV h
 |AugAssign t op e pos=>exact Io OK R S VV h
 |Expr e pos=>exact Oc OK R S VV h
 |Delete ts pos=>exact HB OK R S VV h
 |If t b e pos=>exact LZ OK R ih S VV h
 |For t it b e pos=>exact IN OK R ih S VV h
 |Return e pos=>exact MU OK R S VV h
 |Assert t m pos=>exact L0 OK R S VV h
 |Break pos=>have h:=aj h;subst h;exact wpAny_Break ⟨rfl,own,S,af.refl,dD.refl,VV⟩
 |Pass pos=>have h:=aj h;subst h;exact wpAny_Pass ⟨rfl,own,S,af.refl,dD.refl,VV⟩
 |_=>exact ac h
theorem qp (OK:bq X O k) (R:aK A (k+2)):∀n,xQ X A O n/\rz X A O n
 |0=>⟨λsc env σ own P st o s h=>ac h,λsc env σ own P st o s h=>ac h⟩
 |n+1=>by refine be (qp OK R n) λh1 h2=>?_;exact⟨MZ OK R h2,EO h1 h2⟩
end
section
variable {X:Cx} {A:aO} {s:ae} {E:Value->ae->Prop} {W:List Addr} {sc:Scope}
theorem ta:∀(ps:List Str) (as:List PV) (vs:List Value) (env:Env) (σ:Sg) (s:ae),ps.length=as.length->(∀p∈ps,bb sc p=true)->ai X s->am X sc env σ [] W s.heap->ax W s.heap as vs->aq (aw X.prog X.w) A (lA (ps.zip vs) yx (λx ζ=>do jU env x.1 x.2;pure (mN yx):Str×Value->PUnit->bw (ForInStep PUnit)))
   (λζ s'=>ai X s'/\af (aV sc env []) s s'/\am X sc env (bP σ (ps.zip (as.map .sh))) [] W s'.heap) (λζ ζ=>False) s
 |[],[],vs,env,σ,s,_,_,S,V,r=>by refine (?_:aq _ A (lA [] yx _) _ _ s);refine aa uS ?_;exact aS ⟨S,af.refl,V⟩
 |[],_::_,_,_,_,_,h,_,_,_,_=>pM h
 |_::_,[],_,_,_,_,h,_,_,_,_=>pM h
 |p::ps,a::as,vs,env,σ,s,hl,hp,S,V,r=>by
  refine bJ r λv u e2_ r1 r2=>?_;clear r;subst e2_;refine (?_:aq _ A (lA ((p,v)::ps.zip u) yx _) _ _ s);rw[rS];refine ak (ak (oz S V (hp p (.head _)) (by rw[lg];exact r1) λs1 S1 k1 V1=>aS ?_));have r3:ax W s1.heap as u:=by have:=ax.stp (own':=[]) (P:=W) (own:=[]) (d:=as) (v:=u) (by rw[lg];exact r2) V k1 dD.refl;rw[lg] at this;exact this
  refine aA (ta ps as u env _ s1 (kq hl) (λq hq=>hp q (.tail _ hq)) S1 V1 r3) (λζ s2 h_0=>aI h_0 λS2 k2 V2=>⟨S2,k1.trans k2,V2⟩) λζ ζ f=>f
structure mn (X:Cx) (fa:Addr) (fd:gz) (ps:List Str) (body:List aL):Prop where
 ho:∃o,X.h0.get? fa=some o/\o.cls=.type "function" /\o.data=.func fd
 gl:fd.globals=dF
 bi:fd.builtins=kx
 cl:fd.closure=[]
 bd:fd.body=.stmts body
 co:fd.scope.isCoroutine=false
 ge:fd.scope.isGenerator=false
 kd:fd.scope.kind=.function
 nd:gg fd.scope.names=true
 nm:∀x k,(x,k)∈fd.scope.names->cw x=true
 nf:∀x,fd.scope.names.lookup x≠some .free
 pst:∀p∈ps,bb fd.scope p=true
 cd:∀h,pF X.h0 h->h.CodeRec fd.code fd.qualname
 bind:∀vs:List Value,vs.length=ps.length->lC fd ⟨vs,[]⟩=pure (ps.zip vs)
theorem JB {O:Orc} {k n:Nat} {fa:Addr} {fd:gz} {ps:List Str} {body:List aL} {as:List PV} {d:PV} {vs:List Value} (OK:bq X O k) (F:mn X fa fd ps body) (hl:ps.length=as.length) (h:aJ O n fd.scope (bP [] (ps.zip (as.map .sh))) body=some (.rt d)\/(∃σ',aJ O n fd.scope (bP [] (ps.zip (as.map .sh))) body=some (.nx σ')/\d=.none)) (R:aK A (k+3)) (S:ai X s) (w:cy W s.heap) (r:ax W s.heap as vs):Ev X A s (call (.ref fa) vs) (λv s'=>ao W s'.heap d v):=by
 refine bB F.ho λo ho hcl hd=>?_;have hof:=S.old.get_of_cls ho (by refine aa hcl ?_;nofun);refine DR (Q7 R.depth hof hd F.co F.ge F.bd (F.cd s.heap S.old) ?_);rw[F.bind vs (aa r.length (aa hl rfl)),F.cl,F.gl,F.bi];refine aS ?_;simp only[r0,yk,ey,if_false];refine ak (yr ?_);refine ak (yt _ (λζ ζ ζ=>rfl) _ _ _ _ ?_);refine aa (show ({s with heap:=s.heap.push {cls:=.type "frame",data:=.dict #[]}}:ae).heap.objs.size=s.heap.objs.size+1 from iF ..) ?_;refine cn (({s with heap:=mP (s.heap.push {cls:=.type "frame",data:=.dict #[]}) fd.scope.names}:ae)) λs1 hs1=>?_;have kk:∀b o,s.heap.get? b=some o->s1.heap.get? b=some o:=λb o e=>by refine aH hs1 ?_;exact rX _ _ _ _ (bK _ _ e)
 have S1:ai X s1:=by have:=S.keep (tk:=s.toks) (h':=s1.heap) kk;rw[<- hs1] at this ⊢;exact this
 have k1:af [] s s1:=by have:=af.keep (W:=[]) (s:=s) (tk:=s.toks) (h':=s1.heap) kk;rw[<- hs1] at this ⊢;exact this
 refine cn (({scope:=fd.scope,locals:=s.heap.objs.size,globals:=dF,cells:=em (s.heap.objs.size+1) fd.scope.names [],qual:=fd.qualname++ ".<locals>.",func:=some fa,code:=fd.code,frame:=some s.heap.objs.size,builtins:=kx}:Env)) λenv henv=>?_;have kd:∀x,env.kindOf x=fd.scope.names.lookup x:=λx=>by refine aH henv ?_;rfl
 have V1:am X fd.scope env [] [] W s1.heap:=by
  refine aH hs1 ?_;refine sI (cl:=[]) S F.nd F.nm (by refine aH henv ?_;exact F.kd) (aH henv rfl) (aH henv rfl) (aH henv rfl) (aH henv rfl) (λx hx=>(kd x).trans hx) (λx hx=>?_) (λx hx=>?_) (λx c q=>nomatch q) (λx y c q=>nomatch q) (λx hx=>absurd hx (F.nf x)) w (λx e he=>ac he)
  ·exact rm hx (λe=>.inl ((kd x).trans e)) λe=>.inr ((kd x).trans e)
  ·exact (kd x).trans (uv hx)
 refine ak (aA (ta ps as vs env [] s1 hl F.pst S1 V1 (r.keep k1.kb)) (λζ s2 h_1=>aI h_1 λS2 k2 V2=>?_) λζ ζ f=>f.elim);refine aS ⟨S2.lim,Q8 ?_⟩;have fresh:∀b∈aV fd.scope env [],s.heap.get? b=none:=λb hb=>by
  have hge:s.heap.objs.size<=b:=by
   unfold aV at hb;rcases av.mp hb with q|q
   ·refine aa q (aH henv ?_);exact bf _
   ·rcases bo.mp q with q|q
    ·refine ah (er q) λx hm ζ=>?_;have hm:(x,b)∈em (s.heap.objs.size+1) fd.scope.names []:=by replace hm:=(eh henv)▸hm;exact hm
     rcases oo _ _ _ _ _ hm with z|z
     ·exact nomatch z
     ·exact nZ z.1
    ·exact nomatch q
  cases e:s.heap.get? b with
  |none=>rfl
  |some o=>exact absurd (fJ e) (pP hge)
 have k02:af [] s s2:=bG.after k1 (bG.of k2) fresh k1.gsz;have Rb:aK (A.deeper env) (k+2):=(show aK A ((k+2)+1) from R).deeper env;have fin:∀{o},aJ O n fd.scope (bP [] (ps.zip (as.map .sh))) body=some o->aq (aw X.prog X.w) (A.deeper env) (dw body env) (λfl s'=>dC X fd.scope env [] W s2 o fl s') (λζ ζ=>False) s2:=λ{o} q=>
  (qp OK Rb n).2 fd.scope env _ [] W body o s2 q S2 V2
 have up:∀{s3},af (aV fd.scope env []) s2 s3->af [] s s3:=λ{s3} k3=>bG.after k02 ((bG.of k3).mono (λb hb=>hb) (bf _)) fresh k02.gsz;rcases h with h|⟨σ',h,rfl⟩
 ·refine aA (fin h) (λfl s3 h3=>?_) λζ ζ f=>f.elim;refine dS h3 λv e1_ S3 k3 r3=>?_;clear h3;subst e1_;exact fx S3 (up k3) r3
 ·refine aA (fin h) (λfl s3 h3=>?_) λζ ζ f=>f.elim;obtain ⟨rfl,own3,S3,k3,o3,V3⟩:=h3;exact fx S3 (up k3) rfl
end
section
variable {prog:Program} {w:iC} {A:aO} {E:Value->ae->Prop} {s:ae}
end
section
variable {prog:Program} {w:iC} {A:aO} {R:GenEnd} {Y:Protocol} {n:Nat} {s₀:ae} {fs:List mS} {s:ae} {env:Env} {c:lD}
 {K:fk->bw Fin} {H:Value->bw Fin} {gd:Bool->Bool} {lv:List Value->List Value}
noncomputable def y6 (env:Env) (K:fk->bw Fin) (H:Value->bw Fin) (gd:Bool->Bool) (lv:List Value->List Value):rW->bw Fin:=λr=>((match r with|.ok f=>(.pure f:bw fk)|.error e=>.raise e).onRaise λ(x:Value)=>do
    if (<- mL x 1)==Value.none then unsupported "frame.own-activation:exception-without-traceback"
    setFlight x env.frame).wrap K H gd lv
end
section
variable {prog:Program} {w:iC} {A:aO} {R:GenEnd} {Y:Protocol} {n:Nat} {s₀:ae} {fs:List mS} {s:ae} {env:Env}
noncomputable def A0 (c:lD):fk->bw Fin:=λf=>match f with
 |.next|.cont=>.pure (.again c)
 |.brk=>.pure (.done .next)
 |.ret v=>.pure (.done (.ret v))
noncomputable def BZ (env:Env):Value->bw Fin:=λe=>(do uW e env;yo e:bw Unit).wrap (λζ=>.raise e) .raise id id
end
open Sem (wp)
noncomputable def bN (M:se) (A:aO) (F:End->ae->Prop) (c:lD) (t:bw Fin) (fs:List mS) (s:ae):Prop:=
 ∀Γ p,Γ.code=c->Γ.Woken A->∃e s',Runs M Γ p t fs s e s'/\F e s'
section
variable {M:se} {A:aO} {F:End->ae->Prop} {c:lD} {fs:List mS} {s:ae}
theorem jL {α:Type} {m:bw α} {K:α->bw Fin} {H:Value->bw Fin} {gd lv} (h:aq M (A.over c fs) m (λa s'=>bN M A F c (K a) fs s') (λζ ζ=>False) s):bN M A F c (m.wrap K H gd lv) fs s:=by
 rintro Γ p rfl hΓ
 exact runs_wrap_of_wp K H gd lv m (h (Γ.over fs) p (hΓ.over fs)) (λa p' s' h'=>h' Γ p' rfl hΓ) (λx p' s' h'=>h'.elim)
theorem qZ {p':Pos} {k:Unit->bw Fin} (h:bN M A F c (k ()) fs s):bN M A F c (.at p' k) fs s:=
 jL (m:=ea p') (K:=k) (H:=.raise) (gd:=id) (lv:=id) (eb h)
theorem KR {l:List Value} {k:Unit->bw Fin} (h:bN M A F c (k ()) fs s):bN M A F c (.point l k) fs s:=
 jL (m:=point) (K:=k) (H:=.raise) (gd:=id) (lv:=λζ=>l) (x3 h)
theorem Pl {c':lD} {h g l} {k:rW->bw Fin} (hc:∀p,bN M A F c' (M.den c') (.ret k h g l c p []::fs) s):bN M A F c (.call c' h g l k) fs s:=by
 rintro Γ p rfl hΓ
 refine bR (hc p (Γ.goto c') p rfl (hΓ.goto c')) λe s' hr he=>?_;exact gE e s' (runs_call_seg hr) he
theorem Np {k h g l c₁ p₁ kp} (r:rW) (hk:bN M A F c₁ (k r) fs s):bN M A F c (DS r) (.ret k h g l c₁ p₁ kp::fs) s:=by
 rintro Γ p rfl hΓ
 refine bR (hk (Γ.goto c₁) p₁ rfl (hΓ.goto c₁)) λe s' hr he=>?_;exact gE e s' (Runs.pop r hr) he
theorem uq {c':lD} (hq:c'.quiet=true) (hc:bN M A F c' (M.den c') fs s):bN M A F c (.pure (.again c')) fs s:=by
 rintro Γ p rfl hΓ
 refine bR (hc (Γ.goto c') p rfl (hΓ.goto c')) λe s' hr he=>?_;exact gE e s' (Runs.head (c₁:=c') (λζ ζ x=>.again hq x) hr) he
theorem AM (r:rW) (h:F (.ret r) s):bN M A F c (DS r) [] s:=by
 rintro Γ p rfl _
 exact gE (.ret r) s (Runs.leaf r) h
theorem OR {v g l} {k:Resume->bw Fin} (hfs:yy fs=none) (h:∀p,F (.susp v g l k c p fs) s):bN M A F c (.yield v g l k) fs s:=by
 rintro Γ p rfl _
 exact gE _ s (Runs.yield' fs hfs) (h p)
noncomputable def wy (M:se) (A:aO) (F:End->ae->Prop) (gs:sf) (s:ae):Prop:=
 match gs with
 |.fresh c=>bN M A F c (M.den c) [] s
 |.suspended k _ c _ fs _=>bN M A F c (k (.send .none)) fs s
 |_=>False
theorem KA {E:Value->ae->Prop} {g:Nat} {gs:sf} {l:List Value} {α:Type} {k:GenResult->bw α} {Q:α->ae->Prop} (hg:s.gens[g]?=some gs) (hgo:wy M A F gs (s.setGen g .running)) (hqt:∀e s₁,F e s₁->e.quiet=true) (h:∀e s₁,F e s₁->aq M A (k e.result) Q E (s₁.setGen g e.genState)):aq M A (.resume g (.send .none) l k) Q E s:=by
 intro Γ p hΓ;rw[Sem.wp_resume];have hB:∀c,(Γ.wake c p).Woken A:=λc=>hΓ.wake c p;cases gs with
 |fresh c=>refine bR (hgo (Γ.wake c p) p rfl (hB c)) λe₁ s₁ hr he=>?_;exact gE _ _ (by unfold Wakes;refine aa hg ?_;exact⟨e₁,s₁,hr,hqt e₁ s₁ he,rfl,rfl⟩) (h e₁ s₁ he Γ p hΓ)
 |suspended k₀ l₀ c₀ p₀ fs₀ cl=>refine bR (hgo (Γ.wake c₀ p) p₀ rfl (hB c₀)) λe₁ s₁ hr he=>?_;exact gE _ _ (by unfold Wakes;refine aa hg ?_;exact⟨e₁,s₁,hr,hqt e₁ s₁ he,rfl,rfl⟩) (h e₁ s₁ he Γ p hΓ)
 |running=>exact hgo.elim
 |finished=>exact hgo.elim
end
section
variable {prog:Program} {w:iC} {A:aO} {F:End->ae->Prop} {c:lD} {fs:List mS} {s:ae} {env:Env}
 {K:fk->bw Fin} {H:Value->bw Fin} {gd:Bool->Bool} {lv:List Value->List Value}
set_option backward.match.sparseCases true in
theorem jG {st:aL} {rest:List aL} (h:bN (aw prog w) A F c ((dR st env).wrap (λf=>match f with|.next=>(dw rest env).wrap K H gd lv|f=>K f) H gd lv) fs s):bN (aw prog w) A F c ((dw (st::rest) env).wrap K H gd lv) fs s:=by rw[execs_cons_wrap];exact h
theorem Ji {e:ab} {ypos pos:Pos} (hfs:yy fs=none) (hco:env.scope.isCoroutine=false) (hi:od env=false) (h:aq (aw prog w) (A.over c fs) (aG e env) (λv s'=>∀g l p k,g=gd false->(∀F' s'',bN (aw prog w) A F' c (K .next) fs s''->bN (aw prog w) A F' c (k (.send .none)) fs s'')->F (.susp v g l k c p fs) s') (λζ ζ=>False) s):bN (aw prog w) A F c ((dR (.Expr (.Yield (some e) ypos) pos) env).wrap K H gd lv) fs s:=by
 refine aa (exec_Expr env _ pos hi rfl) ?_
 show bN (aw prog w) A F c (.at pos λζ=>((aG e env>>=λv=>(ea ypos>>=λζ=>DT env v))>>=λx=>
  dropValue (.Yield (some e) ypos) pos x).wrap K H gd lv) fs s
 have hy:∀v,DT env v=yieldValue v:=λv=>by simp only[DT,hco,ey,if_false]
 simp only[hy];refine qZ ?_;rw[kB,kB,jy,jy];refine jL (aA h (λv s' h'=>?_) λζ ζ x=>x);refine qZ (OR hfs λp=>?_);exact h' _ _ _ _ rfl λF' s'' hx=>hx
theorem Fm {t:ab} {b o:List aL} {pos:Pos} (h:aq (aw prog w) (A.over c fs) (isTrue t env (aG t env)) (λr s'=>bN (aw prog w) A F c ((if r=true then dw b env else dw o env).wrap K H gd lv) fs s') (λζ ζ=>False) s):bN (aw prog w) A F c ((dR (.If t b o pos) env).wrap K H gd lv) fs s:=by refine aa qw ?_;refine (?_:bN (aw prog w) A F c (.at pos λζ=>(isTrue t env (aG t env)>>=λr=>if r=true then dw b env else dw o env).wrap K H gd lv) fs s);refine qZ ?_;rw[kB,jy];exact jL h
theorem FI {body:List aL} (h:bN (aw prog w) A F (.func body env) ((dw body env).wrap (λf=>.pure (.done (.ret (match f with|.ret v=>v|_=>.none))))
   (λe=>(DU env e).wrap (λζ=>.raise e) .raise id id) id id) fs s):bN (aw prog w) A F (.func body env) ((aw prog w).den (.func body env)) fs s:=by
 refine (?_:bN _ A F _ (.point [] λζ=>((dw body env).onRaise (DU env))>>=_) fs s);refine KR ?_;rw[DV,kB,jy]
 rw[Q9 (dw body env) _ _ (K':=λf=>.pure (.done (.ret (match f with|.ret v=>v|_=>.none))))
  (H':=λe=>(DU env e).wrap (λζ=>.raise e) .raise id id) (λf=>by induction f using pS<;>rfl)
  (λe=>by rw[DW,jy];rfl)]
 exact h
theorem GY {target iter:ab} {body orelse:List aL} {pos:Pos} (hs:∀x,pR iter env x=pure x) (h:aq (aw prog w) (A.over c fs) (aG iter env) (λx s1=>aq (aw prog w) (A.over c fs) (f9 x) (λit s2=>
   ∀p,bN (aw prog w) A F (.forLoop target it body orelse env) ((aw prog w).den (.forLoop target it body orelse env)) (.ret (y6 env K H gd lv) none (gd false) (lv []) c p []::fs) s2) (λζ ζ=>False) s1) (λζ ζ=>False) s):bN (aw prog w) A F c ((dR (.For target iter body orelse pos) env).wrap K H gd lv) fs s:=by
 refine (?_:bN (aw prog w) A F c (.at pos λζ=>((aG iter env>>=λx=>(pR iter env x>>=λx=>(ea iter.pos>>=λζ=>(holding [x] (f9 x)>>=λit=>DI (.forLoop target it body orelse env) env))))).wrap K H gd lv) fs s);simp only[hs];refine qZ ?_;rw[kB,jy];refine jL (aA h (λx s1 h1=>?_) λζ ζ f=>f.elim);refine (?_:bN (aw prog w) A F c (.at iter.pos λζ=>(holding [x] (f9 x)>>=λit=>DI (.forLoop target it body orelse env) env).wrap K H gd lv) fs s1);refine qZ ?_;rw[kB,jy];refine jL (fi (aA h1 (λit s2 h2=>?_) λζ ζ f=>f.elim));exact Pl h2
theorem Bk {target:ab} {it:Value} {body orelse:List aL} (h:aq (aw prog w) (A.over (.forLoop target it body orelse env) fs) (f8 it) (λr s1=>match r with
    |none=>bN (aw prog w) A F (.block orelse env) ((aw prog w).den (.block orelse env)) fs s1
    |some v=>aq (aw prog w) (A.over (.forLoop target it body orelse env) fs) (ly target it v) (λζ s2=>aq (aw prog w) (A.over (.forLoop target it body orelse env) fs) (jv target env v) (λζ s3=>
      bN (aw prog w) A F (.forLoop target it body orelse env) ((dw body env).wrap (A0 (.forLoop target it body orelse env)) (BZ env) id id) fs s3) (λζ ζ=>False) s2) (λζ ζ=>False) s1) (λζ ζ=>False) s):bN (aw prog w) A F (.forLoop target it body orelse env) ((aw prog w).den (.forLoop target it body orelse env)) fs s:=by
 refine (?_:bN _ A F _ ((forTurn target it body orelse env).onRaise (λx=>do uW x env;yo x)) fs s);unfold forTurn;rw[DV];rw[kB,jy];refine jL (eb ?_);rw[kB,jy,DV,jy];refine jL (aA h (λr s1 h1=>?_) λζ ζ f=>f.elim)
 induction r using bW with
 |none=>exact uq rfl h1
 |some v=>
  refine (?_:bN _ A F _ (Sem.wrap _ _ _ _ (ly target it v>>=λζ=>jv target env v>>=λζ=>dw body env>>=_)) fs s1);rw[kB,jy];refine jL (aA h1 (λζ s2 h2=>?_) λζ ζ f=>f.elim);rw[kB,jy];refine jL (aA h2 (λζ s3 h3=>?_) λζ ζ f=>f.elim);rw[kB,jy]
  rw[Q9 (dw body env) _ _ (K':=A0 (.forLoop target it body orelse env)) (H':=BZ env)
    (λf=>by induction f using pS<;>rfl)
    (λe=>by first|exact DW _ _|(show (do uW e env;yo e:bw Unit).bind (λζ=>.raise e)=_;rw[DW];rfl))]
  exact h3
theorem CQ {a:Addr} {g:Nat} {gs:sf} {E:Value->ae->Prop} {Q:Option Value->ae->Prop} (hh:A.handled=none) (hl:s.heap.NoLimit) (hroom:A.depth<recursionLimit) (hg:s.heap.IsGen a g) (hgs:s.gens[g]?=some gs) (hgo:wy (aw prog w) A.in1 F gs (s.setGen g .running)) (hqt:∀e s₁,F e s₁->e.quiet=true) (hr:∀r s₁,F (.ret r) s₁->r=.ok (.ret .none)/\∀h',(∀b o,s₁.heap.get? b=some o->h'.get? b=some o)->Q none {s₁.setGen g .finished with heap:=h'})
  (hY:∀v gu l k c p fs s₁,F (.susp v gu l k c p fs) s₁->Q (some v) (s₁.setGen g (End.susp v gu l k c p fs).genState)):
  aq (aw prog w) A (f8 (.ref a)) Q E s:=by
 unfold f8
 refine ak (DA (uM (name:=ag "__next__") hg.typeIs Ra
  (uN Ra hg.typeIs entry_gen_next ?_ (args_gen_next _))))
 refine (?_:aq _ A.in1 (Rc (.ref a) (.send .none)) _ _ s);unfold Rc;refine ak (fi (wpAny_genNumber hg (ak (wpAny_genState hgs ?_))));cases gs with
 |running=>exact hgo.elim
 |finished=>exact hgo.elim
 |_=>
  refine ak (wpAny_roomToWake hl hroom ?_);refine (?_:aq _ A.in1 (.resume g (.send .none) [] _) _ _ s);refine KA hgs hgo hqt λe s₁ he=>?_;cases e with
  |ret r=>
   obtain ⟨rfl,hp⟩:=hr r s₁ he;refine (?_:aq _ A.in1 (yd (.type "StopIteration") []>>=_) _ _ _);refine ak ?_;simp only[yd,newTuple];refine ak (pL ?_ (by size_fits));refine ak (m:=ye _ _) (Dv (a:=Value.none) (by first|rfl|(simp only[ye];rfl)) ?_);refine pL ?_ (by size_fits);refine ak (ak (Qq ?_))
   first|refine aa (show A.in1.handled=none from hh) ?_|rw[hh]
   refine Qr ?_;refine ak (QC (T:= "StopIteration") (b:=true) ⟨_,dH _ rfl,rfl⟩ QD ?_);exact aS (hp _ λb o hb=>cG _ (cG _ hb))
  |susp v gu l k c p fs=>exact aS ⟨v,rfl,aS (hY v gu l k c p fs s₁ he)⟩
end
structure nr (a:Addr) (g:Nat) (fp wr:List Addr) (s:ae):Prop where
 sub:∀b∈wr,b∈fp
 live:∀b∈fp,∃o,s.heap.get? b=some o/\cK o=false
 nseq:∀b∈wr,∀o,s.heap.get? b=some o->∀its n,o.data≠.seq its n
 mem:a∈fp
 nw:a∉wr
 isg:s.heap.IsGen a g
structure zi (g:Nat) (fp:List Addr) (s s':ae):Prop where
 sz:s.gens.size<=s'.gens.size
 hp:∀b∈fp,∀o,s.heap.get? b=some o->s'.heap.get? b=some o
 gk:∀j,j<s.gens.size->j≠g->s'.gens[j]?=s.gens[j]?
 run:s'.gens[g]?=some .running
noncomputable def nO (X:Cx) (A:aO) (a:Addr) (g gm:Nat):List PV->List Addr->List Addr->ae->End->ae->Prop
 |[],_,wr,s₀,e,s'=>e=.ret (.ok (.ret .none))/\ai X s'/\bG wr gm s₀ s'
 |d::rem,fp,wr,s₀,e,s'=>∃v gu l k c p fs fp' wr',e=.susp v gu l k c p fs/\e.quiet=true/\(∀W,cy W s₀.heap->(∀b∈fp,b∉W)->ao W s'.heap d v)/\ai X s'/\bG wr gm s₀ s'/\nr a g fp' wr' s'/\
   (∀b∈fp',b∈fp\/s₀.heap.get? b=none)/\(∀b∈wr',b∈wr\/s₀.heap.get? b=none)/\
   ∀s'',zi g fp' s' s''->ai X s''->bN (aw X.prog X.w) A (nO X A a g gm rem fp' wr' s'') c (k (.send .none)) fs s''
noncomputable def y8 (X:Cx) (A:aO) (a:Addr) (g gm:Nat) (xs:List PV) (i:Nat) (fp wr:List Addr) (s:ae):Prop:=
 nr a g fp wr s/\∃gs,s.gens[g]?=some gs/\∀s'',zi g fp s s''->ai X s''->wy (aw X.prog X.w) A.in1 (nO X A.in1 a g gm (xs.drop i) fp wr s'') gs s''
section
variable {X:Cx} {A:aO} {a:Addr} {g gm:Nat} {xs:List PV} {s:ae}
theorem ai.setGen (S:ai X s) {gs:sf} (h:gs.bare=true):ai X (s.setGen g gs):=
 {x:=S.x,old:=S.old,g:=S.g,b:=S.b,lim:=S.lim,tab:=S.tab,os:=S.os
  bare:=λy hy=>by
   have hy:y∈s.gens.setIfInBounds g gs:=hy
   rw[Array.mem_iff_getElem] at hy
   obtain ⟨i,hi,rfl⟩:=hy
   have hi':i<s.gens.size:=by simpa using hi
   refine aa (Array.getElem_setIfInBounds hi') ?_
   split
   ·exact h
   ·exact S.bare _ (Array.getElem_mem hi')}
theorem mX {s:ae} {gs:sf} {j:Nat} (h:j≠g):(s.setGen g gs).gens[j]?=s.gens[j]?:=(Rd s g gs).2 j h
theorem kQ {s:ae} {gs:sf}:(s.setGen g gs).gens.size=s.gens.size:=(Rd s g gs).1
theorem LU {tgt:ab} {v:Value} {Q:Unit->ae->Prop} (hg:s.heap.IsGen a g) (h:Q () s):aq (aw X.prog X.w) A (ly tgt (.ref a) v) Q (λζ ζ=>False) s:=by refine jH hg λo nm qn ho hc ζ=>?_;clear hg;exact qE ho (by unfold rB;refine aa hc ?_;rfl) h
theorem nr.frame {fp wr:List Addr} {s s':ae} (L:nr a g fp wr s) (hp:∀b∈fp,∀o,s.heap.get? b=some o->s'.heap.get? b=some o):nr a g fp wr s':=
 {sub:=L.sub,mem:=L.mem,nw:=L.nw
  live:=λb hb=>ah (L.live b hb) λo e ht=>⟨o,hp b hb o e,ht⟩
  nseq:=λb hb o e=>by
   refine ah (L.live b (L.sub b hb)) λo' e' ζ=>?_
   have:=hp b (L.sub b hb) o' e'
   replace this:=e▸this;have h_:=aj this;clear this;subst h_
   exact L.nseq b hb _ e'
  isg:=jQ L.isg λo nm qn ho r=>⟨o,nm,qn,hp a L.mem o ho,r⟩}
theorem G8 (R:aK A 1) (hgm:gm<=g):mv X A (.ref a) xs (y8 X A a g gm xs) gm where
 sub:=λi fp wr s st=>st.1.sub
 live:=λi fp wr s st=>st.1.live
 nseq:=λi fp wr s st=>st.1.nseq
 frame:=λi fp wr s s' st sz hp gk=>by obtain ⟨L,gs,hgs,hgo⟩:=st;have hlt:g<s.gens.size:=(u6.mp hgs).1;refine⟨L.frame hp,gs,(gk g hlt).trans hgs,λs'' F S=>hgo s'' ⟨al sz F.sz,λb hb o e=>F.hp b hb o (hp b hb o e),λj hj hne=>(F.gk j (b9 hj sz) hne).trans (gk j hj),F.run⟩ S⟩
 plain:=λi fp wr s tgt v Q st h=>LU st.1.isg h
 item:=λi d fp wr W s hd st S hW hWf=>by
  obtain ⟨L,gs,hgs,hgo⟩:=st;have hlt:g<s.gens.size:=(u6.mp hgs).1;have hrun:(s.setGen g .running).gens[g]?=some .running:=DX hgs;have hdr:xs.drop i=d::xs.drop (i+1):=by refine aE (pU.mp hd) λhi e1_=>?_;subst e1_;exact lz hi
  have go:=hgo (s.setGen g .running) ⟨iA kQ.symm,λb ζ o e=>e,λj ζ hne=>mX hne,hrun⟩ (S.setGen rfl);replace go:=hdr▸go;refine CQ R.hh S.lim R.depth L.isg hgs go (λe s₁ he=>?_) (λr s₁ he=>?_) λv gu l k c p fs s₁ he=>?_
  ·obtain ⟨_,_,_,_,_,_,_,_,_,rfl,hq,_⟩:=he;exact hq
  ·obtain ⟨_,_,_,_,_,_,_,_,_,q,_⟩:=he;cases q
  ·obtain ⟨_,_,_,_,_,_,_,fp',wr',q,hq,hr,S1,k1,L1,hf,hw,hk⟩:=he;cases q;have hg1:g<s₁.gens.size:=b9 hlt (al (iA kQ.symm) k1.gsz);refine IC v fp' wr' rfl (hr W hW hWf) ⟨L1.frame λb ζ o e=>e,_,DX (Array.getElem?_eq_getElem hg1),λs'' F S''=>?_⟩ (S1.setGen (End.bare_of_quiet hq)) ⟨k1.kb,k1.th,?_,λj hj=>?_⟩ hf hw
   ·exact hk s'' ⟨al (iA kQ.symm) F.sz,F.hp,λj hj hne=>(F.gk j (by refine aa kQ ?_;exact hj) hne).trans (mX hne),F.run⟩ S''
   ·refine aa kQ ?_;exact al (iA kQ.symm) k1.gsz
   ·have hne:j≠g:=ku (b9 hj hgm);exact (mX hne).trans ((k1.gk j hj).trans (mX hne))
 done:=λfp wr s st S=>by
  obtain ⟨L,gs,hgs,hgo⟩:=st;have hrun:(s.setGen g .running).gens[g]?=some .running:=DX hgs;have go:=hgo (s.setGen g .running) ⟨iA kQ.symm,λb ζ o e=>e,λj ζ hne=>mX hne,hrun⟩ (S.setGen rfl);replace go:=yp▸go;refine CQ R.hh S.lim R.depth L.isg hgs go (λe s₁ he=>?_) (λr s₁ he=>?_) λv gu l k c p fs s₁ he=>?_
  ·obtain ⟨rfl,_⟩:=he;rfl
  ·refine aI he λq S1 k1=>?_;clear he;cases q;refine⟨rfl,λh' hk=>⟨rfl,?_,?_⟩⟩
   ·exact (S1.setGen (g:=g) (gs:=.finished) rfl).keep (tk:=s₁.toks) (h':=h') hk
   ·refine⟨k1.kb.trans (Kb.of_keep hk),λb o hb e=>?_,?_,λj hj=>?_⟩
    ·refine aE (k1.th b o hb e) λo' e'=>?_;exact⟨o',hk b o' e'⟩
    ·refine (?_:s.gens.size<=(s₁.setGen g .finished).gens.size);refine aa kQ ?_;exact al (iA kQ.symm) k1.gsz
    ·have hne:j≠g:=ku (b9 hj hgm);exact (mX hne).trans ((k1.gk j hj).trans (mX hne))
  ·refine be he λq ζ=>?_;clear he;cases q
end
theorem GL {A:aO} {body:List aL} {env:Env} (R:aK A 8):aK (A.in1.over (.func body env) []) 3:=by
 refine⟨R.hh,?_,?_⟩
 ·have:=R.d;have e:(A.in1.over (.func body env) []).depth=A.depth+1:=rfl;exact CL this e
 ·have:=R.u;have e:(A.in1.over (.func body env) []).units=A.units+1+0+3:=rfl;exact M9 this e
theorem NS {A:aO} {body b o:List aL} {t:ab} {it:Value} {env:Env} {k p} (R:aK A 8):aK (A.in1.over (.forLoop t it b o env) [.ret k none false [] (.func body env) p []]) 3:=by
 refine⟨R.hh,?_,?_⟩
 ·have:=R.d;have e:(A.in1.over (.forLoop t it b o env) [.ret k none false [] (.func body env) p []]).depth=A.depth+1:=rfl;exact CL this e
 ·have:=R.u;have e:(A.in1.over (.forLoop t it b o env) [.ret k none false [] (.func body env) p []]).units=A.units+1+3:=rfl;exact OA this e
theorem fX {W W' h h'}:∀{ds:List PV} {vs},(∀d∈ds,d.flat=true)->ax W h ds vs->ax W' h' ds vs
 |[],_,_,r=>by skip;exact r
 |d::ds,_,hf,r=>by skip;refine bJ r λv u e r1 r2=>?_;clear r;exact gF v u e (r1.flat (hf d (.head _))) (fX (λx hx=>hf x (.tail _ hx)) r2)
noncomputable def jB (σ:Sg):Prop:=∀x e,σ.lookup x=some e->∃d,e=.sh d/\d.flat=true
section
variable {X:Cx} {A:aO} {a:Addr} {g gm:Nat} {s s' s₀:ae} {env:Env} {sc:Scope} {σ σ':Sg} {P:List Addr} {O:Orc} {k n:Nat} {wr wr0:List Addr}
theorem am.flatK {h h':Heap} {own P} (V:am X sc env σ own P h) (hc:env.cells=[]) (hf:jB σ) {P':List Addr} (hP:∀b∈P',∃o,h'.get? b=some o/\cK o=false) (kk:∀o,h.get? env.locals=some o->h'.get? env.locals=some o):am X sc env σ [] P' h':=
 {V with
  ns:=aE V.ns λm h_=>jQ h_ λo es ep e r=>⟨m,o,es,ep,kk o e,r⟩
  cells:=λx c hm=>by replace hm:=hc▸hm;cases hm
  vars:=λx d e=>by
   refine ah (V.vars x d e) λv h1 h2=>?_
   refine ah (hf x _ e) λd' q hd=>?_
   cases q
   refine az v ?_ (h2.flat hd)
   rcases h1 with ⟨r1,m,⟨o,es,ep,e1,r⟩,r2⟩|⟨_,c,e1,_⟩
   ·exact .inl ⟨r1,m,⟨o,es,ep,kk o e1,r⟩,r2⟩
   ·replace e1:=hc▸e1;exact ac e1
  owns:=λx xs e=>by refine ah (hf x _ e) λd q ζ=>?_;cases q
  ownA:=λx y a h=>nomatch h
  ownF:=λx a h=>nomatch h
  ownU:=λx a b h=>nomatch h
  ownP:=λx a h=>nomatch h
  pin:=hP}
noncomputable def o8 (h:Heap):List Addr:=(cL h.objs.size).filter λb=>match h.get? b with|some o=> !cK o|none=>false
theorem N0 {h:Heap}:∀b∈o8 h,∃o,h.get? b=some o/\cK o=false:=λb hb=>by
 unfold o8 at hb;refine be (lp.mp hb) λζ h2=>?_
 set_option smartUnfolding false in refine Fk h2 λo e h2=>?_
 exact az o e ((kz _).mp h2)
theorem PG {h:Heap} {b o} (e:h.get? b=some o) (ht:cK o=false):b∈o8 h:=by unfold o8;refine lp.mpr ⟨hU.mpr (fJ e),?_⟩;refine aa e ?_;simp[ht]
structure GS (X:Cx) (a:Addr) (g gm:Nat) (sc:Scope) (env:Env) (wr0 wr:List Addr) (s₀:ae) (σ:Sg) (s:ae):Prop where
 S:ai X s
 V:am X sc env σ [] [] s.heap
 fl:jB σ
 run:s.gens[g]?=some .running
 isg:s.heap.IsGen a g
 live:∀b∈wr,∃o,s.heap.get? b=some o/\cK o=false/\∀its n,o.data≠.seq its n
 k:bG wr0 gm s₀ s
 nw:∀b∈wr,b∈wr0\/s₀.heap.get? b=none
 hm:env.locals∈wr
 na:a∉wr
theorem z8 {h:Heap} (x:h.IsGen a g):∃o,h.get? a=some o/\cK o=false:=jH x λo ζ ζ e hc ζ=>⟨o,e,eM hc⟩
theorem GS.move {V wr':List Addr} {g':Nat} (G:GS X a g gm sc env wr0 wr s₀ σ s) (hg:g<g') (hgm:gm<=g') (S':ai X s') (k:bG V g' s s') (hV:∀b∈V,b∈wr) (V':am X sc env σ' [] [] s'.heap) (fl':jB σ') (hw:∀b∈wr',b∈wr) (hm:env.locals∈wr') (hl:∀b∈V,b∈wr'->∃o,s'.heap.get? b=some o/\cK o=false/\∀its n,o.data≠.seq its n):GS X a g gm sc env wr0 wr' s₀ σ' s' where
 S:=S'
 V:=V'
 fl:=fl'
 run:=(k.gk g hg).trans G.run
 isg:=by refine jH G.isg λo nm qn ho hc r=>?_;exact EW o nm qn (k.kb a o (λq=>G.na (hV a q)) (eM hc) ho) hc r
 live:=λb hb=>by
  by_cases q:b∈V
  ·exact hl b q hb
  ·refine bB (G.live b (hw b hb)) λo e ht hs=>?_;exact io o (k.kb b o q ht e) ht hs
 k:=by
  have ne:∀b o,b∉wr0->s₀.heap.get? b=some o->b∉V:=λb o hb e q=>(G.nw b (hV b q)).elim hb λz=>by replace e:=z▸e;exact ac e
  exact⟨λb o hb ht e=>k.kb b o (ne b o hb e) ht (G.k.kb b o hb ht e),λb o hb e=>aE (G.k.th b o hb e) λo' e'=>k.th b o' (ne b o hb e) e',al G.k.gsz k.gsz,λi hi=>(k.gk i (b9 hi hgm)).trans (G.k.gk i hi)⟩
 nw:=λb hb=>G.nw b (hw b hb)
 hm:=hm
 na:=λq=>G.na (hw a q)
theorem GS.lt (G:GS X a g gm sc env wr0 wr s₀ σ s):g<s.gens.size:=(u6.mp G.run).1
theorem GS.stp (G:GS X a g gm sc env wr0 wr s₀ σ s) (hgm:gm<=g) (S':ai X s') (k:af [] s s'):GS X a g gm sc env wr0 wr s₀ σ s':=
 G.move G.lt (al hgm (dE G.lt)) S' (bG.of k) (λζ q=>nomatch q) (G.V.keep k.kb) G.fl (λζ z=>z) G.hm λζ q=>nomatch q
theorem GS.set (G:GS X a g gm sc env wr0 wr s₀ σ s) (hgm:gm<=g) (hc:env.cells=[]) (fl':jB σ') (h:fS X sc env [] [] s σ' s'):GS X a g gm sc env wr0 wr s₀ σ' s':=by
 refine dS h λown' S' k' ζ V'=>?_;clear h;have hW:∀b∈aV sc env [],b=env.locals:=λb hb=>by
  unfold aV at hb;rcases av.mp hb with q|q
  ·exact q
  ·rcases bo.mp q with q|q
   ·refine ah (er q) λx hm ζ=>?_;replace hm:=hc▸hm;cases hm
   ·exact nomatch q
 refine G.move G.lt (al hgm (dE G.lt)) S' (bG.of k') (λb hb=>hW b hb▸G.hm) (V'.flatK hc fl' (λζ q=>nomatch q) λζ e=>e) fl' (λζ z=>z) G.hm λb hb ζ=>?_;refine aa (hW b hb) ?_;obtain ⟨m,o,es,ep,e,hd,_⟩:=V'.ns;exact io o e (fy (λvs q=>by replace q:=hd▸q;cases q)) (λits n q=>by replace q:=hd▸q;cases q)
theorem xU {I:ae->Prop} {c:lD} {fs:List mS} {K:fk->bw Fin} {H:Value->bw Fin} {gd:Bool->Bool} {lv:List Value->List Value} {e:ab} {ypos pos:Pos} {ds rem:List PV} (G:GS X a g gm sc env wr0 wr s₀ σ s) (OK:bq X O k) (R:aK (A.over c fs) (k+2)) (hgm:gm<=g) (hc:env.cells=[]) (hfs:yy fs=none) (hco:env.scope.isCoroutine=false) (hi:od env=false) (hgd:gd false=false) (hfg:fs.any Re=false) (hd:pe O n sc σ e=some (.tup ds)) (hfl:∀d∈ds,d.flat=true) (hI:I s) (hIf:∀s s',I s->s.gens.size<=s'.gens.size->(∀b∈wr,∀o,s.heap.get? b=some o->s'.heap.get? b=some o)->(∀j,j<s.gens.size->s'.gens[j]?=s.gens[j]?)->I s') (next:∀s'',GS X a g gm sc env wr wr s'' σ s''->I s''->bN (aw X.prog X.w) A (nO X A a g gm rem (a::wr) wr s'') c (K .next) fs s''):bN (aw X.prog X.w) A (nO X A a g gm (.tup ds::rem) (a::wr0) wr0 s₀) c ((dR (.Expr (.Yield (some e) ypos) pos) env).wrap K H gd lv) fs s:=by
 refine Ji hfs hco hi ?_;have VP:am X sc env σ [] (o8 s.heap) s.heap:=G.V.flatK hc G.fl N0 λζ e=>e;refine aA (dP OK R n sc σ env [] (o8 s.heap) e _ s hd G.S VP) (λv s1 h_ gu l p k hgu hk=>aI h_ λS1 k1 r1=>?_) λζ ζ f=>f.elim;have G1:=G.stp hgm S1 k1;rw[lg] at r1;have L1:nr a g (a::wr) wr s1:=
  {sub:=λb hb=>.tail _ hb,mem:=.head _,nw:=G.na,isg:=G1.isg
   live:=λb hb=>by
    rcases av.mp hb with q|q
    ·refine aa q ?_;exact z8 G1.isg
    ·refine bB (G1.live b q) λo e ht ζ=>?_;exact az o e ht
   nseq:=λb hb o e=>by
    refine bB (G1.live b hb) λo' e' ζ hs=>?_
    replace e':=e▸e';have h_:=aj e';clear e';subst h_;exact hs}
 refine⟨v,gu,l,k,c,p,fs,a::wr,wr,rfl,by simp[End.quiet,hgu,hgd,hfg],λW hW hWf=>?_,S1,G1.k,L1,λb hb=>?_,G.nw,λs'' F S''=>?_⟩
 ·skip;refine bJ r1 λl vs e2_ hl r=>?_;clear r1;subst e2_;refine j4 l vs rfl (λhm=>hl ?_) r.1 r.2.1 ?_
  ·refine ah (hW l hm) λo e ht=>?_;exact PG (G.k.kb l o (λq=>hWf l (.tail _ q) hm) ht e) ht
  ·exact fX hfl r.2.2
 ·rcases av.mp hb with q|q
  ·exact .inl (q▸.head _)
  ·exact (G.nw b q).imp_left λz=>.tail _ z
 ·refine hk _ s'' (next s'' ?_ ?_)
  ·exact
   {S:=S'',V:=G1.V.flatK hc G.fl (λζ q=>nomatch q) (F.hp _ (.tail _ G.hm)),fl:=G.fl,run:=F.run
    isg:=(L1.frame F.hp).isg
    live:=λb hb=>ah (G1.live b hb) λo e r=>⟨o,F.hp b (.tail _ hb) o e,r⟩
    k:=bG.of af.refl |>.mono (λζ z=>z) (al hgm (dE (u6.mp F.run).1)),nw:=λζ z=>.inl z,hm:=G.hm,na:=G.na}
  ·refine hIf s1 s'' (hIf s s1 hI k1.gsz (λb hb o e=>?_) k1.gk) F.sz (λb hb=>F.hp b (.tail _ hb)) λj hj=>?_
   ·refine bB (G.live b hb) λo' e' ht ζ=>?_;replace e':=e▸e';have h_:=aj e';clear e';subst h_;exact k1.kb b o (λq=>nomatch q) ht e
   ·by_cases q:j=g
    ·exact aa q (aa F.run (aa G1.run rfl))
    ·exact F.gk j hj q
end
noncomputable def fz:Str:=ag "\\"
noncomputable def fG (i:Nat) (e:Bool):List Str->List PV
 |[]=>if e then [.tup [.int ((i:Int) - 1),.str fz]] else []
 |c::r=>if e then .tup [.int i,.str (fz++c)]::fG (i+1) false r else if c==fz then fG (i+1) true r else .tup [.int i,.str c]::fG (i+1) false r
theorem BH {i e}:fG i e []=if e then [.tup [.int ((i:Int) - 1),.str fz]] else []:=rfl
theorem rC {i e c r}:fG i e (c::r)=if e then .tup [.int i,.str (fz++c)]::fG (i+1) false r else if c==fz then fG (i+1) true r else .tup [.int i,.str c]::fG (i+1) false r:=rfl
noncomputable def j5 (p:Nat->Pos):ab:=.Tuple [.Name (ag "pos") (p 10),.Name (ag "ch") (p 11)] 0 (p 12)
noncomputable def tG (p:Nat->Pos):ab:=.Call (.Name (ag "enumerate") (p 13)) [.Name (ag "addr") (p 14)] [] (p 15)
noncomputable def wA (p:Nat->Pos):ab:=.Tuple [.Name (ag "pos") (p 20),.BinOp (.Constant (.str (ag "\\")) 0 (p 21)) .Add (.Name (ag "ch") (p 22)) (p 23)] 0 (p 24)
noncomputable def v8 (p:Nat->Pos):ab:=.Tuple [.Name (ag "pos") (p 30),.Name (ag "ch") (p 31)] 0 (p 32)
noncomputable def vt (p:Nat->Pos):ab:=.Tuple [.Name (ag "pos") (p 40),.Constant (.str (ag "\\")) 0 (p 41)] 0 (p 42)
noncomputable def qS (b:Bool) (p q r:Pos):aL:=.Assign [.Name (ag "escape") p] (.Constant (.bool b) 0 q) r
noncomputable def lM (p:Nat->Pos):List aL:=[
 .If (.Name (ag "escape") (p 50)) [.Expr (.Yield (some (wA p)) (p 51)) (p 52),qS false (p 53) (p 54) (p 55)]
  [.If (.Compare (.Name (ag "ch") (p 56)) [.Eq] [.Constant (.str (ag "\\")) 0 (p 57)] (p 58)) [qS true (p 60) (p 61) (p 62)]
   [.Expr (.Yield (some (v8 p)) (p 63)) (p 64)] (p 65)] (p 66)]
noncomputable def vW (p:Nat->Pos):List aL:=[.If (.Name (ag "escape") (p 70)) [.Expr (.Yield (some (vt p)) (p 71)) (p 72)] [] (p 73)]
noncomputable def l9 (p:Nat->Pos):List aL:=[
 .Assign [.Name (ag "pos") (p 0)] (.Constant (.int 0) 0 (p 1)) (p 2),qS false (p 3) (p 4) (p 5),
 .For (j5 p) (tG p) (lM p) [] (p 16)]++vW p
noncomputable def cq:Scope:={
 kind:=.function
 names:=[(ag "addr",.local),(ag "pos",.local),(ag "escape",.local),(ag "ch",.local),(ag "enumerate",.globalImplicit)]
 isGenerator:=true,isCoroutine:=false,more:=[]}
section
variable {X:Cx} {A:aO} {a:Addr} {g gm:Nat} {s s' s₀:ae} {env:Env} {σ σ':Sg} {O:Orc} {k n:Nat} {wr wr0:List Addr} {p:Nat->Pos}
theorem vK:bj cq (ag "pos")=true:=by decide
theorem CX:bj cq (ag "escape")=true:=by decide
theorem v5:bj cq (ag "ch")=true:=by decide
theorem F8:bj cq (ag "addr")=true:=by decide
theorem L2:bb cq (ag "pos")=true:=by decide
theorem Fj:bb cq (ag "escape")=true:=by decide
theorem nD {x:Str} {d:PV} (h:σ.lookup x=some (.sh d)):gS σ x=some d:=by unfold gS;exact aa h rfl
theorem aF {x:Str} {d:PV} (h:σ.lookup x=some (.sh d)):iu σ x=some d:=by unfold iu;exact aa h rfl
theorem nb {x:Str} {d:PV} {q:Pos} {sc:Scope} (hx:bj sc x=true) (h:σ.lookup x=some (.sh d)):pe O (n+1) sc σ (.Name x q)=some d:=by refine aa rA (aa (if_pos hx) ?_);exact nD h
theorem Cs {x:Str} {d:PV} {q:Pos} {sc:Scope} (hx:bj sc x=true) (h:σ.lookup x=some (.sh d)):pa O (n+1) sc σ (.Name x q)=some d:=by exact (if_pos hx).trans (aF h)
theorem jP {x:Str} {d:PV} {q:Pos} {sc:Scope} (hx:bj sc x=true) (h:σ.lookup x=some (.sh d)):pT O (n+2) sc σ (.Name x q)=eO d:=by refine (?_:(match pa O (n+1) sc σ (.Name x q) with|some d=>eO d|none=>none)=_);exact aa (Cs hx h) rfl
theorem Gu {i:Int} {c:Str} (h1:σ.lookup (ag "pos")=some (.sh (.int i))) (h2:σ.lookup (ag "ch")=some (.sh (.str c))):pe O 9 cq σ (v8 p)=some (.tup [.int i,.str c]):=by unfold v8;refine aa xr ?_;rw[aN (nb vK h1) (aN (nb v5 h2) bC)];rfl
theorem wX {q:Pos}:pe O (n+1) cq σ (.Constant (.str (ag "\\")) 0 q)=some (.str fz):=by refine aa Gj ?_;rfl
theorem Ko {i:Int} {c:Str} (h1:σ.lookup (ag "pos")=some (.sh (.int i))) (h2:σ.lookup (ag "ch")=some (.sh (.str c))) (hc:c.length=1):pe O 9 cq σ (wA p)=some (.tup [.int i,.str (fz++c)]):=by
 unfold wA;refine aa xr ?_;have e:pe O 8 cq σ (.BinOp (.Constant (.str (ag "\\")) 0 (p 21)) .Add (.Name (ag "ch") (p 22)) (p 23))=some (.str (fz++c)):=by refine aa xl ?_;refine aa wX (aa (nb v5 h2) ?_);refine (?_:(if bt (fz.length+c.length)=true then some (PV.str (fz++c)) else none)=_);refine aa hc ?_;rfl
 rw[aN (nb vK h1) (aN e bC)];rfl
theorem Fq {i:Int} (h1:σ.lookup (ag "pos")=some (.sh (.int i))):pe O 9 cq σ (vt p)=some (.tup [.int i,.str fz]):=by unfold vt;refine aa xr ?_;rw[aN (nb vK h1) (aN wX bC)];rfl
theorem wL {b:Bool} {q1 q2 q3:Pos}:px O 9 cq σ (qS b q1 q2 q3)=some (.nx (put σ (ag "escape") (.sh (.bool b)))):=by exact (qN (q:=q1)).trans (if_pos Fj)
theorem KM {q1 q2 q3:Pos}:px O 9 cq σ (.Assign [.Name (ag "pos") q1] (.Constant (.int 0) 0 q2) q3)=some (.nx (put σ (ag "pos") (.sh (.int 0)))):=by exact qN.trans (if_pos L2)
theorem Ka {c:Str} {q1 q2 q3:Pos} (h2:σ.lookup (ag "ch")=some (.sh (.str c))):pT O 9 cq σ (.Compare (.Name (ag "ch") q1) [.Eq] [.Constant (.str (ag "\\")) 0 q2] q3)=some (c==fz):=by
 have e:pa O 8 cq σ (.Compare (.Name (ag "ch") q1) [.Eq] [.Constant (.str (ag "\\")) 0 q2] q3)=some (.bool (c==fz)):=by
  refine (?_:pe O 7 cq σ (.Compare (.Name (ag "ch") q1) [.Eq] [.Constant (.str (ag "\\")) 0 q2] q3)=_);refine aa tD ?_;have e1:pa O 6 cq σ (.Constant (.str (ag "\\")) 0 q2)=some (.str fz):=by refine (?_:pe O 5 cq σ (.Constant (.str (ag "\\")) 0 q2)=_);exact wX
  exact aa (Cs v5 h2) (aa e1 rfl)
 refine (?_:(match pa O 8 cq σ _ with|some d=>eO d|none=>none)=_);exact aa e rfl
theorem kY {x:Str} {d:PV} (h:jB σ) (hd:d.flat=true):jB (put σ x (.sh d)):=λy e q=>by rw[dp] at q;exact qI q (λζ q=>az d (aj q).symm hd) λζ q=>h y e q
end
noncomputable def qk (wr:List Addr) (env:Env) (I:ae->Prop):Prop:=∀s s',I s->(∀b∈wr,b≠env.locals->∀o,s.heap.get? b=some o->s'.heap.get? b=some o)->I s'
section
variable {X:Cx} {A:aO} {a:Addr} {g gm:Nat} {s s' s₀:ae} {env:Env} {sc:Scope} {σ σ':Sg} {O:Orc} {k n:Nat} {wr wr0:List Addr} {p:Nat->Pos} {F:End->ae->Prop}
theorem td {I:ae->Prop} {c:lD} {fs:List mS} {K:fk->bw Fin} {H:Value->bw Fin} {gd:Bool->Bool} {lv:List Value->List Value} {st:aL} (G:GS X a g gm sc env wr0 wr s₀ σ s) (OK:bq X O k) (R:aK (A.over c fs) (k+2)) (hgm:gm<=g) (hc:env.cells=[]) (h:px O n sc σ st=some (.nx σ')) (fl':jB σ') (hI:I s) (hIf:qk wr env I) (next:∀s',GS X a g gm sc env wr0 wr s₀ σ' s'->I s'->bN (aw X.prog X.w) A F c (K .next) fs s'):bN (aw X.prog X.w) A F c ((dR st env).wrap K H gd lv) fs s:=by
 refine jL (aA ((qp OK R n).1 sc env σ [] [] st _ s h G.S G.V) (λfl s1 h1=>?_) λζ ζ f=>f.elim);refine be h1 λe0_ hn=>?_;clear h1;subst e0_;refine next s1 (G.set hgm hc fl' hn) (hIf s s1 hI λb hb hne o e=>?_);refine dS hn λown' S' k' ζ V'=>?_;clear hn;refine bB (G.live b hb) λo' e' ht ζ=>?_;replace e':=e▸e';have h_:=aj e';clear e';subst h_;refine k'.kb b o (λq=>?_) ht e;unfold aV at q;rcases av.mp q with q|q
 ·exact hne q
 ·rcases bo.mp q with q|q
  ·refine ah (er q) λx hm ζ=>?_;replace hm:=hc▸hm;cases hm
  ·exact nomatch q
theorem xm {I:ae->Prop} {c:lD} {fs:List mS} {K:fk->bw Fin} {H:Value->bw Fin} {gd:Bool->Bool} {lv:List Value->List Value} {t:ab} {b o:List aL} {pos:Pos} {r:Bool} (G:GS X a g gm sc env wr0 wr s₀ σ s) (OK:bq X O k) (R:aK (A.over c fs) (k+2)) (hgm:gm<=g) (h:pT O n sc σ t=some r) (hI:I s) (hIf:qk wr env I) (next:∀s',GS X a g gm sc env wr0 wr s₀ σ s'->I s'->bN (aw X.prog X.w) A F c ((if r=true then dw b env else dw o env).wrap K H gd lv) fs s'):bN (aw X.prog X.w) A F c ((dR (.If t b o pos) env).wrap K H gd lv) fs s:=by refine Fm (aA (kF OK R n sc σ env [] [] t r s h G.S G.V) (λq s1 h_0=>aI h_0 λS1 k1 e1=>?_) λζ ζ f=>f.elim);subst e1;refine next s1 (G.stp hgm S1 k1) (hIf s s1 hI λb hb hne o e=>?_);refine bB (G.live b hb) λo' e' ht ζ=>?_;replace e':=e▸e';have h_:=aj e';clear e';subst h_;exact k1.kb b o (λq=>nomatch q) ht e
noncomputable def g9 (x:Str) (t:df) (en it:Addr) (i:Nat) (s:ae):Prop:=(∃old,pK s.heap en it (i:Int) old)/\s.heap.IsStrIter it (ga x) x t i
theorem AY {x:Str} {t:df} {en it:Addr} {i:Nat} (h1:env.locals≠en) (h2:env.locals≠it):qk [env.locals,en,it] env (g9 x t en it i):=λs s' hI hk=>by obtain ⟨⟨old,e⟩,o,e2,r⟩:=hI;exact⟨⟨old,hk en (.tail _ (.head _)) (cC h1) _ e⟩,o,hk it (.tail _ (.tail _ (.head _))) (cC h2) o e2,r⟩
theorem Cp {x:Str} {t:df} {en it:Addr} {i:Nat} (h:g9 x t en it i s):∀b∈[en,it],∃o,s.heap.get? b=some o/\cK o=false/\∀its n,o.data≠.seq its n:=λb hb=>by
 obtain ⟨⟨old,e⟩,o,e2,hcl,hd⟩:=h;simp only[av,bz,or_false] at hb;rcases hb with rfl|rfl
 ·exact io _ e rfl (λits n q=>by cases q)
 ·exact io o e2 (eM hcl) (λits n q=>by replace q:=hd▸q;cases q)
structure GN (i:Nat) (e:Bool) (σ:Sg):Prop where
 esc:σ.lookup (ag "escape")=some (.sh (.bool e))
 pos:e=true->σ.lookup (ag "pos")=some (.sh (.int ((i:Int) - 1)))
theorem Ml {pp:Pos} {K:fk->bw Fin} {H:Value->bw Fin} {x:Str} {t:df} {en it:Addr} {fs:List mS} {body:List aL} (OK:bq X O 0) (R:aK A 8) (hgm:gm<=g) (hc:env.cells=[]) (hco:env.scope.isCoroutine=false) (hi:od env=false) (hI:X.h0.get? it=none) (hE:X.h0.get? en=none) (hne:en≠it) (h1:env.locals≠en) (h2:env.locals≠it) (hfs:fs=[.ret (y6 env K H id id) none false [] (.func body env) pp []]) (fin:∀s σ s₀ wr0 i e,GS X a g gm cq env wr0 [env.locals] s₀ σ s->GN i e σ->bN (aw X.prog X.w) A.in1 (nO X A.in1 a g gm (fG i e []) (a::wr0) wr0 s₀) (.func body env) (K .next) [] s):∀(r:List Str) (i:Nat) (e:Bool) (σ:Sg) (s s₀:ae) (wr0:List Addr),(eY x).drop i=r->i<=(eY x).length->GS X a g gm cq env wr0 [env.locals,en,it] s₀ σ s->g9 x t en it i s->GN i e σ->
   bN (aw X.prog X.w) A.in1 (nO X A.in1 a g gm (fG i e r) (a::wr0) wr0 s₀) (.forLoop (j5 p) (.ref en) (lM p) [] env) ((aw X.prog X.w).den (.forLoop (j5 p) (.ref en) (lM p) [] env)) fs s:=by
 have Rl:aK (A.in1.over (.forLoop (j5 p) (.ref en) (lM p) [] env) fs) 2:=by refine aa hfs ?_;exact (NS R).mono (mD _)
 have IT:∀{gm},ix X (A.in1.over (.forLoop (j5 p) (.ref en) (lM p) [] env) fs) (j5 p) (.ref en) (du 0 (eK x)) [] [] (λi s=>g9 x t en it i s) [en,it] [en,it] gm:=λ{gm}=>Au Rl.hh hI hE hne;have hsf:yy fs=none:=by refine aa hfs ?_;rfl
 have hgf:fs.any Re=false:=by refine aa hfs ?_;rfl
 have hin:∀b∈[en,it],b∈[env.locals,en,it]:=λb hb=>.tail _ hb;have hln:env.locals∉[en,it]:=by simp[h1,h2]
 have hlf:∀{σ s s₀ wr0},GS X a g gm cq env wr0 [env.locals,en,it] s₀ σ s->∀{s1:ae} {g':Nat},bG [en,it] g' s s1->∀o,s.heap.get? env.locals=some o->s1.heap.get? env.locals=some o:=λ{σ s s₀ wr0} G {s1 g'} k o e=>by refine bB (G.live env.locals (.head _)) λo' e' ht ζ=>?_;replace e':=e▸e';have h_:=aj e';clear e';subst h_;exact k.kb _ o hln ht e
 intro r
 induction r with
 |nil=>
  intro i e σ s s₀ wr0 hr hil G hst N;have hlen:i=(du 0 (eK x)).length:=by
   rw[ug];have:(eY x).length<=i:=Rg.mp hr;have e:(eK x).length=(eY x).length:=by simp[eK]
   exact Ie hil this e
  refine Bk (aA (IT.done (gm:=g+1) s (hlen▸hst) G.S) (λr s1 h_1=>aI h_1 λe1 S1 k1=>?_) λζ ζ f=>f.elim);subst e1;refine (?_:bN _ A.in1 _ (.block [] env) (DS (.ok .next)) fs s1);refine aa hfs ?_;refine Np _ ?_;refine (?_:bN _ A.in1 _ (.func body env) (K .next) [] s1)
  exact fin s1 σ s₀ wr0 i e (G.move (V:=[en,it]) (wr':=[env.locals]) (g':=g+1) (i0 _) (uZ hgm) S1 k1 hin (G.V.flatK hc G.fl (λζ q=>nomatch q) (hlf G k1)) G.fl (λb hb=>by simp at hb;simp[hb]) (.head _)
   (λb hb q=>by simp at q;exact absurd hb (q▸hln))) N
 |cons c r ih=>
  intro i e σ s s₀ wr0 hr hil G hst N;have hci:(eY x)[i]?=some c:=by refine aH DJ (aa hr ?_);rfl
  have hil':i+1<=(eY x).length:=(pU.mp hci).1;have hr':(eY x).drop (i+1)=r:=by refine aH List.tail_drop (aa hr ?_);rfl
  have hcl:c.length=1:=by unfold eY at hci;replace hci:=iG▸hci;refine ah (gy.mp hci) λu ζ e2_=>?_;subst e2_;rfl
  have hg:(du 0 (eK x))[i]?=some (.tup [.int ((i:Nat):Int),.str c]):=by
   have:(eK x)[i]?=some (.str c):=by unfold eK;refine aa iG (aa hci ?_);rfl
   have hlt:i<(du 0 (eK x)).length:=by rw[ug];exact (pU.mp this).1
   refine ah (wq (el hlt)) λe' q1 q2=>?_;replace q1:=this▸q1;have h_:=aj q1;clear q1;subst h_;refine aa (el hlt) (aa q2 ?_);rw[e9]
  have hW:cy [en,it] s.heap:=λb hb=>bB (G.live b (hin b hb)) λo e ht ζ=>⟨o,e,ht⟩
  refine Bk (aA (IT.item (gm:=g+1) i _ [en,it] s hg hst G.S hW rfl (λb hb=>hb)) (λq s1 h_2=>ah h_2 λv e1 hlet=>?_) λζ ζ f=>f.elim);subst e1;refine aA hlet (λζ s2 h_3=>gq h_3 λrv st2 S2 k2=>?_) λζ ζ f=>f.elim;have G2:=G.move (V:=[en,it]) (wr':=[env.locals,en,it]) (g':=g+1) (i0 _) (uZ hgm) S2 k2 hin (G.V.flatK hc G.fl (λζ q=>nomatch q) (hlf G k2)) G.fl (λζ z=>z) G.hm (λb hb ζ=>Cp st2 b hb);have ha:bu false cq 4 σ (j5 p) (.tup [.int ((i:Nat):Int),.str c])=some (put (put σ (ag "pos") (.sh (.int (i:Int)))) (ag "ch") (.sh (.str c))):=rfl;refine aA (nH Rl.hh 4 σ (j5 p) _ _ s2 [] v ha S2 G2.V (rv.sub λb q=>by simp[ay] at q)) (λζ s3 h_4=>dS h_4 λown3 S3 k3 o3 V3=>?_) λζ ζ f=>f.elim;have N2:fS X cq env [] [] s2 (put (put σ (ag "pos") (.sh (.int (i:Int)))) (ag "ch") (.sh (.str c))) s3:=⟨own3,S3,k3,m4 o3,V3⟩
  have fl2:jB (put (put σ (ag "pos") (.sh (.int (i:Int)))) (ag "ch") (.sh (.str c))):=kY (kY G.fl rfl) rfl;have G3:=G2.set hgm hc fl2 N2;have st3:g9 x t en it (i+1) s3:=AY (env:=env) h1 h2 s2 s3 st2 λb hb hne o e=>by
   refine bB (G2.live b hb) λo' e' ht ζ=>?_;replace e':=e▸e';have h_:=aj e';clear e';subst h_;refine k3.kb b o (λq=>?_) ht e;unfold aV at q;rcases av.mp q with q|q
   ·exact hne q
   ·rcases bo.mp q with q|q
    ·refine ah (er q) λx hm ζ=>?_;replace hm:=hc▸hm;cases hm
    ·exact nomatch q
  revert G3;revert fl2;refine cn (put (put σ (ag "pos") (.sh (.int (i:Int)))) (ag "ch") (.sh (.str c))) λσ2 hσ=>?_;intro fl2 G3;have l1:σ2.lookup (ag "pos")=some (.sh (.int (i:Int))):=by (refine aH hσ ?_;rw[dp,if_neg (by decide),dp,if_pos rfl])
  have l2:σ2.lookup (ag "ch")=some (.sh (.str c)):=by (refine aH hσ ?_;rewrite[dp];exact aa (if_pos rfl) rfl)
  have l3:σ2.lookup (ag "escape")=some (.sh (.bool e)):=by (refine aH hσ ?_;rw[dp,if_neg (by decide),dp,if_neg (by decide)]);exact N.esc
  have Rk:aK (A.in1.over (.forLoop (j5 p) (.ref en) (lM p) [] env) fs) (0+2):=Rl;have IF:qk [env.locals,en,it] env (g9 x t en it (i+1)):=AY h1 h2;have hyf:∀s s':ae,g9 x t en it (i+1) s->s.gens.size<=s'.gens.size->(∀b∈[env.locals,en,it],∀o,s.heap.get? b=some o->s'.heap.get? b=some o)->(∀j,j<s.gens.size->s'.gens[j]?=s.gens[j]?)->g9 x t en it (i+1) s':=λs s' q ζ z ζ=>IF s s' q λb hb ζ=>z b hb;unfold lM;refine jG (xm (n:=9) (I:=g9 x t en it (i+1)) G3 OK Rk hgm (jP CX l3) st3 IF λs4 G4 st4=>?_)
  induction e using d8 with
  |true=>refine aa (if_pos rfl) ?_;refine aa rC ?_;simp only[if_true];refine jG (xU (I:=g9 x t en it (i+1)) G4 OK Rk hgm hc hsf hco hi rfl hgf (Ko l1 l2 hcl) (fm_ rfl (fm_ rfl j3)) st4 hyf λs5 G5 st5=>?_);refine jG (td (I:=g9 x t en it (i+1)) G5 OK Rk hgm hc wL (kY fl2 rfl) st5 IF λs6 G6 st6=>?_);refine uq rfl ?_;exact ih (i+1) false _ s6 _ _ hr' hil' G6 st6 ⟨aM,λq=>nomatch q⟩
  |false=>
   rw[if_neg (by decide)];refine aa rC ?_;simp only[ey,if_false];refine jG (xm (n:=9) (I:=g9 x t en it (i+1)) G4 OK Rk hgm (Ka l2) st4 IF λs5 G5 st5=>?_);cases hcb:c==fz with
   |true=>refine aa (if_pos rfl) (aa (if_pos rfl) ?_);refine jG (td (I:=g9 x t en it (i+1)) G5 OK Rk hgm hc wL (kY fl2 rfl) st5 IF λs6 G6 st6=>?_);refine uq rfl ?_;refine ih (i+1) true _ s6 _ _ hr' hil' G6 st6 ⟨aM,λζ=>?_⟩;rw[dp,if_neg (by decide),l1];simp
   |false=>rw[if_neg (by decide),if_neg (by decide)];refine jG (xU (I:=g9 x t en it (i+1)) G5 OK Rk hgm hc hsf hco hi rfl hgf (Gu l1 l2) (fm_ rfl (fm_ rfl j3)) st5 hyf λs6 G6 st6=>?_);refine uq rfl ?_;exact ih (i+1) false _ s6 _ _ hr' hil' G6 st6 ⟨l3,λq=>nomatch q⟩
end
section
variable {X:Cx} {A:aO} {a:Addr} {g gm:Nat} {s s' s₀:ae} {env:Env} {sc:Scope} {σ σ':Sg} {O:Orc} {k n:Nat} {wr wr0:List Addr} {p:Nat->Pos} {F:End->ae->Prop}
theorem F0 {x:Str} (OK:bq X O 0) (R:aK A 2) (S:ai X s) (V:am X cq env σ [] [] s.heap) (hx:σ.lookup (ag "addr")=some (.sh (.str x))):Ev X A s (aG (tG p) env) (λy s1=>∃en it t,y=.ref en/\g9 x t en it 0 s1/\s.heap.get? en=none/\s.heap.get? it=none/\en≠it/\(∃o,s1.heap.get? en=some o)):=by
 have hm:aY (pe O 9 cq σ) [.Name (ag "addr") (p 14)]=some [.str x]:=by exact aN (nb F8 hx) bC
 unfold tG;refine qD (g:=.type "enumerate") OK S V (by decide) rfl (jE hm) (λs' S' k'=>gU (dP OK R 9) hm S' (V.keep k'.kb)) λvs s' S' k' r=>?_;refine bJ r λv u e2_ r1 e4_=>?_;clear r;subst e2_;subst e4_;obtain ⟨⟨t,rfl⟩,_⟩:=r1;refine QJ λh' he hi ζ hk=>⟨S'.keep hk,af.keep hk,_,_,t,rfl,⟨⟨_,he⟩,hi⟩,k'.none ?_,k'.none eJ,QI _,_,he⟩
 cases e:s'.heap.get? (s'.heap.objs.size+1) with
 |none=>rfl
 |some o=>exact absurd (fJ e) (QH (i0 _))
theorem GS.grow {s1:ae} {l:List Addr} (G:GS X a g gm sc env [env.locals] [env.locals] s₀ σ s) (hgm:gm<=g) (S1:ai X s1) (k1:af [] s s1) (hn:∀b∈l,s.heap.get? b=none) (hl:∀b∈l,∃o,s1.heap.get? b=some o/\cK o=false/\∀its n,o.data≠.seq its n):GS X a g gm sc env [env.locals] (env.locals::l) s₀ σ s1:=
 have G1:=G.stp hgm S1 k1
 {G1 with
  live:=λb hb=>(av.mp hb).elim (λq=>q▸G1.live _ G1.hm) (hl b)
  nw:=λb hb=>(av.mp hb).elim (λq=>.inl (q▸.head _)) λq=>.inr (by
   cases e:s₀.heap.get? b with
   |none=>rfl
   |some o=>
    obtain ⟨o',e'⟩:=G.k.th b o (λz=>by
     simp only[av,bz,or_false] at z
     refine ah (G.live _ G.hm) λo2 e2 ζ=>?_
     replace e2:=(eh z)▸e2;replace e2:=(hn b q)▸e2;exact ac e2) e
    replace e':=(hn b q)▸e';exact ac e')
  hm:=.head _
  na:=λq=>(av.mp q).elim (λz=>G.na (z▸.head _)) λz=>by
   refine jQ G.isg λo ζ ζ e ζ=>?_
   replace e:=(hn a z)▸e;exact ac e}
theorem HO {x:Str} (OK:bq X O 0) (R:aK A 8) (hgm:gm<=g) (hc:env.cells=[]) (hco:env.scope.isCoroutine=false) (hi:od env=false) (G:GS X a g gm cq env [env.locals] [env.locals] s₀ σ s) (hx:σ.lookup (ag "addr")=some (.sh (.str x))):bN (aw X.prog X.w) A.in1 (nO X A.in1 a g gm (fG 0 false (eY x)) [a,env.locals] [env.locals] s₀) (.func (l9 p) env) ((aw X.prog X.w).den (.func (l9 p) env)) [] s:=by
 have Rf:aK (A.in1.over (.func (l9 p) env) []) (0+2):=(GL R).mono (mD _);have IF:qk [env.locals] env (λζ=>True):=λζ ζ ζ ζ=>trivial;refine FI ?_;refine (?_:bN _ _ _ _ ((dw (.Assign [.Name (ag "pos") (p 0)] (.Constant (.int 0) 0 (p 1)) (p 2)::qS false (p 3) (p 4) (p 5)::.For (j5 p) (tG p) (lM p) [] (p 16)::vW p) env).wrap _ _ _ _) _ _);have fl1:=kY (x:=ag "pos") (d:=.int 0) G.fl rfl;have fl2:=kY (x:=ag "escape") (d:=.bool false) fl1 rfl;refine jG (td (I:=λζ=>True) G OK Rf hgm hc KM fl1 trivial IF λs1 G1 ζ=>?_);refine jG (td (I:=λζ=>True) G1 OK Rf hgm hc wL fl2 trivial IF λs2 G2 ζ=>?_);have hx2:(put (put σ (ag "pos") (.sh (.int 0))) (ag "escape") (.sh (.bool false))).lookup (ag "addr")=some (.sh (.str x)):=by refine au (by decide) ?_;refine au (by decide) ?_;exact hx
 refine jG (GY (λζ=>rfl) (aA (F0 OK Rf G2.S G2.V hx2) (λy s3 h_=>aI h_ λS3 k3 h_=>i5 h_ λen it t h_=>pd h_ λe st n1 n2 hne h_=>aE h_ λo he=>?_) λζ ζ f=>f.elim));subst e;obtain ⟨⟨old,hen⟩,hit⟩:=id st;refine uL hen λpp=>?_;have hloc:∀b,s2.heap.get? b=none->env.locals≠b:=λb hb q=>by refine ah (G2.live _ G2.hm) λo e ζ=>?_;replace e:=q▸e;replace e:=hb▸e;exact ac e
 have G3:=G2.grow (l:=[en,it]) hgm S3 k3 (λb hb=>by
  simp only[av,bz,or_false] at hb;rcases hb with rfl|rfl
  ·exact n1
  ·exact n2) (Cp st)
 refine Ml (pp:=pp) OK R hgm hc hco hi (G2.S.fresh n2) (G2.S.fresh n1) hne (hloc en n1) (hloc it n2) rfl (λs σ s₀ wr0 i e G N=>?_) (eY x) 0 false _ s3 s₀ [env.locals] rfl (iE _) G3 st
  ⟨aM,λq=>nomatch q⟩
 unfold vW;refine jG (xm (n:=9) (I:=λζ=>True) G OK Rf hgm (jP CX N.esc) trivial IF λs4 G4 ζ=>?_)
 induction e using d8 with
 |true=>refine aa (if_pos rfl) ?_;refine aa BH ?_;refine aa (if_pos rfl) ?_;refine jG (xU (I:=λζ=>True) G4 OK Rf hgm hc rfl hco hi rfl rfl (Fq (N.pos rfl)) (fm_ rfl (fm_ rfl j3)) trivial (λζ ζ ζ ζ ζ ζ=>trivial) λs5 G5 ζ=>?_);exact AM (.ok (.ret .none)) ⟨rfl,G5.S,G5.k⟩
 |false=>rw[if_neg (by decide)];refine aa BH ?_;rw[if_neg (by decide)];exact AM (.ok (.ret .none)) ⟨rfl,G4.S,G4.k⟩
structure xk (X:Cx) (fa:Addr) (fd:gz) (p:Nat->Pos):Prop where
 ho:∃o,X.h0.get? fa=some o/\o.cls=.type "function" /\o.data=.func fd
 gl:fd.globals=dF
 bi:fd.builtins=kx
 cl:fd.closure=[]
 bd:fd.body=.stmts (l9 p)
 sc:fd.scope=cq
 cd:∀h,pF X.h0 h->h.CodeRec fd.code fd.qualname
 bind:∀v:Value,lC fd ⟨[v],[]⟩=pure [(ag "addr",v)]
theorem FP {fa:Addr} {fd:gz} {x:Str} {vs:List Value} {W:List Addr} (OK:bq X O 0) (F:xk X fa fd p) (R:aK A 8) (S:ai X s) (w:cy W s.heap) (r:ax W s.heap [.str x] vs):Ev X A s (call (.ref fa) vs) (λy s1=>Ev X A s1 (f9 y) (λit s2=>∃St fp wr,mv X A it (fG 0 false (eY x)) St s.gens.size/\St 0 fp wr s2/\∀b∈fp,s.heap.get? b=none)):=by
 refine bB F.ho λo ho hcl hd=>?_;have hof:=S.old.get_of_cls ho (by refine aa hcl ?_;nofun);have hr:=r;refine bJ r λv u e2_ r1 e4_=>?_;clear r;subst e2_;subst e4_;refine DR (codeAny_call_generator R.depth hof hd (by refine aa F.sc ?_;rfl) (by refine aa F.sc ?_;rfl) F.bd (F.cd s.heap S.old) ?_);refine aa (F.bind v) (aa F.cl (aa F.gl (aa F.bi (aa F.sc ?_))));refine aS ?_;simp only[r0,yk,ey,if_false];refine ak (yr ?_);refine ak (yt _ (λζ ζ ζ=>rfl) _ _ _ _ ?_);refine aa (show ({s with heap:=s.heap.push {cls:=.type "frame",data:=.dict #[]}}:ae).heap.objs.size=s.heap.objs.size+1 from iF ..) ?_;refine cn (({s with heap:=mP (s.heap.push {cls:=.type "frame",data:=.dict #[]}) cq.names}:ae)) λs1 hs1=>?_;have kk:∀b o,s.heap.get? b=some o->s1.heap.get? b=some o:=λb o e=>by refine aH hs1 ?_;exact rX _ _ _ _ (bK _ _ e)
 have S1:ai X s1:=by have:=S.keep (tk:=s.toks) (h':=s1.heap) kk;rw[<- hs1] at this ⊢;exact this
 have k1:af [] s s1:=by have:=af.keep (W:=[]) (s:=s) (tk:=s.toks) (h':=s1.heap) kk;rw[<- hs1] at this ⊢;exact this
 refine cn (({scope:=cq,locals:=s.heap.objs.size,globals:=dF,cells:=em (s.heap.objs.size+1) cq.names [],qual:=fd.qualname++ ".<locals>.",func:=some fa,code:=fd.code,frame:=some s.heap.objs.size,builtins:=kx}:Env)) λenv henv=>?_;have kd:∀x,env.kindOf x=cq.names.lookup x:=λx=>by refine aH henv ?_;rfl
 have nf:∀x,cq.names.lookup x≠some .free:=λx q=>by have h:=cm q;simp[cq] at h
 have V1:am X cq env [] [] W s1.heap:=by
  refine aH hs1 ?_;refine sI (cl:=[]) S (by decide) (λx k hk=>?_) (by refine aH henv ?_;rfl) (aH henv rfl) (aH henv rfl) (aH henv rfl) (aH henv rfl) (λx hx=>(kd x).trans hx) (λx hx=>?_) (λx hx=>?_) (λx c q=>nomatch q) (λx y c q=>nomatch q) (λx hx=>absurd hx (nf x)) w (λx e q=>nomatch q)
  ·have hall:∀y∈cq.names,cw y.1=true:=by decide
   exact hall _ hk
  ·exact rm hx (λe=>.inl ((kd x).trans e)) λe=>.inr ((kd x).trans e)
  ·exact (kd x).trans (uv hx)
 have hce:env.cells=[]:=by refine aH henv ?_;rfl
 have hcov:env.scope.isCoroutine=false:=by refine aH henv ?_;rfl
 have hii:od env=false:=by refine aH henv ?_;rfl
 have hlo:env.locals=s.heap.objs.size:=aH henv rfl;refine ak (aA (ta [ag "addr"] [.str x] [v] env [] s1 rfl (by decide) S1 V1 (hr.keep k1.kb)) (λζ s2 h_1=>aI h_1 λS2 k2 V2=>?_) λζ ζ f=>f.elim);refine aS ⟨S2.lim,?_⟩;have kp:∀b o,s2.heap.get? b=some o->(s2.heap.push {cls:=.type "generator",data:=.fields #[.int s2.gens.size 0,.str fd.name s2.toks,.str fd.qualname (s2.toks+1)]}).get? b=some o:=λb o e=>bK _ _ e;refine cn (({s2 with gens:=s2.gens.push (.fresh (.func (l9 p) env)),toks:=s2.toks+1+1,heap:=s2.heap.push {cls:=.type "generator",data:=.fields #[.int s2.gens.size 0,.str fd.name s2.toks,.str fd.qualname (s2.toks+1)]}}:ae)) λs3 hs3=>?_;have S3:ai X s3:=by have h:=S2.keep (tk:=s2.toks+1+1) kp;refine aH hs3 ?_;exact {x:=h.x,old:=h.old,g:=h.g,b:=h.b,lim:=h.lim,tab:=h.tab,os:=h.os,bare:=λy hy=>(Array.mem_push.mp hy).elim (λq=>S2.bare y q) λq=>aa q rfl}
 have fresh:∀b∈aV cq env [],b=s.heap.objs.size:=λb hb=>by
  unfold aV at hb;rcases av.mp hb with q|q
  ·exact q.trans hlo
  ·rcases bo.mp q with q|q
   ·refine ah (er q) λx hm ζ=>?_;replace hm:=hce▸hm;cases hm
   ·exact nomatch q
 have k02:af [] s s2:=bG.after k1 (bG.of k2) (λb hb=>fresh b hb▸eJ) k1.gsz;have k23:af [] s2 s3:=by refine aH hs3 ?_;exact⟨Kb.of_keep kp,λb o e=>⟨o,kp b o e⟩,by simp,λi hi=>by simp[Array.getElem?_push,ku hi]⟩
 have k03:=k02.trans k23;have hg3:s3.heap.IsGen s2.heap.objs.size s2.gens.size:=by refine aH hs3 ?_;exact ww _ _ _ (dH _ rfl) rfl rfl rfl
 have V3:=V2.keep k23.kb;refine fx S3 k03 (wpAny_pyIter_gen hg3 ⟨S3,af.refl,y8 X A s2.heap.objs.size s2.gens.size s.gens.size (fG 0 false (eY x)),[s2.heap.objs.size,env.locals],[env.locals],G8 (R.mono (dv _ _)) k02.gsz,?_,λb hb=>?_⟩)
 ·obtain ⟨m,oF,es,ep,eF,hdF,_⟩:=V3.ns;have tF:cK oF=false:=fy (λvs q=>by replace q:=hdF▸q;cases q);have nF:∀its n,oF.data≠.seq its n:=λits n q=>by replace q:=hdF▸q;cases q
  have hne:s2.heap.objs.size≠env.locals:=λq=>by obtain ⟨m,o,_,_,e,_⟩:=V2.ns;replace e:=(eh q)▸e;replace e:=eJ▸e;exact ac e
  have L:nr s2.heap.objs.size s2.gens.size [s2.heap.objs.size,env.locals] [env.locals] s3:=
   {sub:=λb hb=>.tail _ hb,mem:=.head _,isg:=hg3
    nw:=by simpa using hne
    live:=λb hb=>by
     simp only[av,bz,or_false] at hb;rcases hb with rfl|rfl
     ·exact z8 hg3
     ·exact az oF eF tF
    nseq:=λb hb o e=>by
     simp only[av,bz,or_false] at hb
     replace e:=hb▸e;replace e:=eF▸e;have h_:=aj e;clear e;subst h_;exact nF}
  refine⟨L,.fresh (.func (l9 p) env),by refine aH hs3 ?_;simp,λs'' Fr S''=>?_⟩;have fl:jB (bP [] ([ag "addr"].zip ([PV.str x].map .sh))):=kY (σ:=[]) (λy e q=>nomatch q) rfl;refine HO OK R k02.gsz hce hcov hii (σ:=bP [] ([ag "addr"].zip ([PV.str x].map .sh))) ?_ (by refine (?_:(put [] (ag "addr") (.sh (.str x))).lookup _=_);exact aM);exact
   {S:=S'',V:=V3.flatK hce fl (λζ q=>nomatch q) (Fr.hp _ (.tail _ (.head _))),fl:=fl,run:=Fr.run
    isg:=(L.frame Fr.hp).isg
    live:=λb hb=>by simp only[av,bz,or_false] at hb;refine aa hb ?_;exact io oF (Fr.hp _ (.tail _ (.head _)) oF eF) tF nF
    k:=(bG.of (af.refl (W:=[env.locals]))).mono (λζ z=>z) (al k02.gsz (dE (u6.mp Fr.run).1)),nw:=λζ z=>.inl z,hm:=.head _,na:=L.nw}
 ·simp only[av,bz,or_false] at hb;rcases hb with rfl|rfl
  ·exact k02.none eJ
  ·refine aa hlo ?_;exact eJ
end
noncomputable def ir (h:Heap) (cv:Value) (qual:Str):Prop:=∃c o vs t,cv=.ref c/\h.get? c=some o/\o.cls=.type "code" /\o.data=.fields vs/\vs[1]?=some (.str qual t)
theorem ir.rec {h:Heap} {cv:Value} {qual:Str} (x:ir h cv qual):h.CodeRec cv qual:=i5 x λc o vs h_=>No h_ λt e g ζ d q=>⟨c,o,vs,t,e,g,d,q⟩
theorem ir.of {h:Heap} {c:Addr} {qual:Str} (r:h.CodeRec (.ref c) qual) (hc:∃o,h.get? c=some o/\o.cls=.type "code"):ir h (.ref c) qual:=by obtain ⟨c',o,vs,t,e,g,d,q⟩:=r;cases e;refine ah hc λo' g' hcl=>?_;clear hc;replace g':=g▸g';have h_:=aj g';clear g';subst h_;exact Ai c o vs t rfl g hcl d q
theorem ir.kb {W:List Addr} {h h':Heap} {cv:Value} {qual:Str} (x:ir h cv qual) (k:Kb W h h') (hW:∀b∈W,∀o,h.get? b=some o->h8 o):ir h' cv qual:=by obtain ⟨c,o,vs,t,e,g,hcl,hd,r⟩:=x;exact Ai c o vs t e (k c o (λq=>(hW c q o g).elim (λz=>z hcl) λz=>z _ hd) (eM hcl) g) hcl hd r
structure jO (X:Cx) (q:Tb):Prop where
 mem:q∈X.tabs
 bi:X.h0.BuiltinsAt X.mg q.P
 ne:dF≠q.P
 uni:∀q'∈X.tabs,q'.P=q.P->q'=q
section
variable {X:Cx} {A:aO} {s:ae} {env:Env} {E:Value->ae->Prop}
theorem BuiltinsAt.old {h:Heap} {P:Addr} (b:X.h0.BuiltinsAt X.mg P) (K:pF X.h0 h):h.BuiltinsAt X.mg P:=by obtain ⟨bm,o,h1,h2,h3,h4,h5,h6,r⟩:=b;exact KD bm o h1 h2 h3 h4 (K.get_of_cls h5 (by refine aa h6 ?_;nofun)) h6 r
theorem Iv {q:Tb} {h':Heap} {tk:df} {c':Addr} (S:ai X s) (T:jO X q) (hs:s.heap.get? q.P=some (mE #[])) (he:n4 q.P s.heap h') (hr:h'.CodeRec (.ref c') q.qual) (hc:∃o,h'.get? c'=some o/\o.cls=.type "code") (hp:h'.get? q.P=some (mE #[hH q.pos.line,hH q.pos.col,.ref c'])):ai X {s with heap:=h',toks:=tk}/\af [] s {s with heap:=h',toks:=tk}:=by
 have ne:∀b o,s.heap.get? b=some o->o≠mE #[]->b≠q.P:=λb o e hn z=>by (replace e:=z▸e;replace e:=hs▸e);have h_:=aj e;clear e;subst h_;exact hn rfl
 have dne:∀b m,s.heap.Ns b m->b≠q.P:=λb m h_0=>jH h_0 λo es ep e hd ζ=>ne b o e λz=>by replace hd:=z▸hd;cases hd
 refine bR (S.x.tb q T.mem) λc0 ps0 ht e0=>?_;have hps:ps0= #[]:=by
  rcases S.old.old q.P _ e0 with z|⟨_,_,vs,more,hv,z⟩|⟨_,_,⟨o',es,n,z,_,hd,_⟩,_⟩
  ·replace z:=hs▸z;cases z;rfl
  ·replace z:=hs▸z;cases hv;have:=kr z;injection this with _ _ h3 _;injection h3 with h4;have h5:ps0++more= #[]:=h4.symm;exact (Array.append_eq_empty_iff.mp h5).1
  ·replace z:=hs▸z;have h_:=aj z;clear z;subst h_;cases hd
 refine⟨{x:=S.x,old:=⟨λb o e=>?_,λb o e=>?_⟩,g:=S.g.extBut he T.ne,b:=?_,lim:=?_,tab:=λq' hq'=>?_,bare:=S.bare,os:=S.os},⟨λb o ζ ht e=>?_,λb o e=>?_,bf _,λζ ζ=>rfl⟩⟩
 ·by_cases hb:b=q.P
  ·subst hb;replace e:=e0▸e;have h_:=aj e;clear e;subst h_;exact .inr (.inl ⟨Tc ⟨ht,e0⟩,rfl,ps0,#[hH q.pos.line,hH q.pos.col,.ref c'],rfl,by refine aa hps (aa Rh ?_);exact hp⟩)
  ·rcases S.old.old b o e with z|⟨t,h1,vs,more,hv,z⟩|⟨rfl,h1,⟨o',es,n,z,r⟩,y⟩
   ·exact .inl (he b o hb z)
   ·exact .inr (.inl ⟨t,h1,vs,more,hv,he b _ hb z⟩)
   ·exact .inr (.inr ⟨rfl,h1,⟨o',es,n,he _ _ hb z,r⟩,λkey=>by rw[Df ((he _ _ hb z).trans z.symm) key];exact y key⟩)
 ·by_cases hb:b=q.P
  ·exact⟨_,hb▸hp⟩
  ·refine aE (S.old.there b o e) λo' e'=>?_;exact⟨o',he b o' hb e'⟩
 ·exact S.b.extBut he (dne _ _ S.b)
 ·refine ah S.lim λmc n r=>?_;exact az mc (n.extBut he (dne _ _ n)) r
 ·have hcd:uE h' q'.c q'.P:=by obtain ⟨o,vs,file,tf,flags,tg,inF,text,tt,e,hcl,r⟩:=(S.tab q' hq').1;exact⟨o,vs,file,tf,flags,tg,inF,text,tt,he _ o (ne _ o e λz=>by replace hcl:=z▸hcl;cases hcl) e,hcl,r⟩
  refine⟨hcd,?_⟩
  by_cases hb:q'.P=q.P
  ·cases T.uni q' hq' hb;exact .inr ⟨c',hp,hr,hc⟩
  ·rcases (S.tab q' hq').2 with z|⟨c2,z,⟨c3,o3,vs,tt,e1,e2,r⟩,o,e,hcl⟩
   ·exact .inl (he _ _ hb z)
   ·cases e1;have hne:c2≠q.P:=ne _ o e λy=>by replace hcl:=y▸hcl;cases hcl
    exact .inr ⟨c2,he _ _ hb z,⟨c2,o3,vs,tt,rfl,he _ _ hne e2,r⟩,o,he _ _ hne e,hcl⟩
 ·exact he b o (ne b o e λz=>by replace ht:=z▸ht;exact dz ht) e
 ·by_cases hb:b=q.P
  ·exact⟨_,hb▸hp⟩
  ·exact⟨o,he b o hb e⟩
theorem OC {q:Tb} {name qual:Str} {params:sg} {body:List aL} {scope:Scope} {pos:Pos} {firstLine:Nat} {x0:Str×Addr} {clos:List (Str×Addr)} {Q:Value->ae->Prop} (S:ai X s) (T:jO X q) (hcl:rY scope env=pure (x0::clos)) (hge0:env.globals=dF) (hcode:env.code=.ref q.c) (hpos:q.pos=pos) (hqual:q.qual=qual) (hdoc:docOf body=none) (h:∀s' f doc pm ct cv,ai X s'->af [] s s'->s.heap.get? f=none->s'.heap.get? f=some {cls:=.type "function",data:=.func (fnX name qual params body scope (x0::clos) .none .none doc pm none cv ct)}->
   ir s'.heap cv qual->Q (.ref f) s'):
  aq (aw X.prog X.w) A (makeFunction name qual params (.stmts body) scope env [] [] [] pos firstLine) Q E s:=by
 subst hpos hqual;rw[makeFunction_eq];simp only[List.zip_nil_right,List.filterMap_nil,List.isEmpty_nil,if_true,pure_bind];have C:=(S.tab q T.mem).1;have B:=BuiltinsAt.old T.bi S.old;rcases (S.tab q T.mem).2 with hP|⟨c',hP,hrec,oc,hoc,hccl⟩
 ·obtain ⟨bm,ob,hbm,hne0,_,hneP,hbo,hcls,hdict,hdata⟩:=B;unfold makeTail;refine aa hcl (aa hge0 ?_);refine ak (aS ?_);simp only[Ri,ey,if_false];refine ak (Rj ?_);refine ak (wpAny_functionCodeX hcode ((C.keeps λb o e=>cG _ e).code (cG _ hP) (by trivial)) ((C.keeps λb o e=>cG _ e).tab (cG _ hP)) rfl λc' h' tk hx hge hlt ζ hrec htb hw=>?_);obtain ⟨P',_,_,⟨⟨oc,vc,hoc,hcc,_⟩,_⟩⟩:=hw;have hx':n4 q.P s.heap h':=λb o hb' e=>hx b o hb' (cG _ e);refine ak (Rm (S.g.extBut hx' T.ne) hbm hne0 (hx' _ _ hneP hbo) hcls hdict hdata ?_);refine ak (Rn (S.g.extBut hx' T.ne) ?_);refine aa hdoc ?_;refine ak (aS (pL ?_ (by size_fits)));refine be (Iv (tk:=tk) S T hP hx' hrec ⟨oc,hoc,hcc⟩ (by have:=htb.2;rwa [Rh] at this)) λS1 k1=>?_;have kp:∀b o,h'.get? b=some o->(h'.push (DY name q.qual params body scope (x0::clos) .none ((X.mg "__name__").getD .none) c' (.ref s.heap.objs.size))).get? b=some o:=λb o e=>bK _ _ e;have S2:=S1.keep (tk:=tk) kp;refine h _ h'.objs.size _ _ _ _ S2 (k1.trans (af.keep kp)) (k1.none eJ) (dH _ rfl) (.of (hrec.keeps kp) ⟨oc,kp _ _ hoc,hcc⟩)
 ·obtain ⟨bm,ob,hbm,hne0,_,hneP,hbo,hcls,hdict,hdata⟩:=B;unfold makeTail;refine aa hcl (aa hge0 ?_);refine ak (aS ?_);simp only[Ri,ey,if_false];have kp0:∀(o':ek) b o,s.heap.get? b=some o->(s.heap.push o').get? b=some o:=λζ b o e=>bK _ _ e;refine ak (Rj ?_);refine ak (wpAny_functionCode_hit hcode ((C.keeps (kp0 _)).code (kp0 _ _ _ hP) (by trivial)) (c':=.ref c') (by simp[codeAmong,hH]) ?_);refine ak (Rm (S.g.push _) hbm hne0 (kp0 _ _ _ hbo) hcls hdict hdata ?_);refine ak (Rn (S.g.push _) ?_);refine aa hdoc ?_;refine ak (aS (pL ?_ (by size_fits)));have key:∀(oT:ek) (ct:Value),Q (.ref (s.heap.push oT).objs.size) {s with heap:=(s.heap.push oT).push (DY name q.qual params body scope (x0::clos) .none ((X.mg "__name__").getD .none) c' ct)}:=λoT ct=>by
   have kp:∀b o,s.heap.get? b=some o->((s.heap.push oT).push (DY name q.qual params body scope (x0::clos) .none ((X.mg "__name__").getD .none) c' ct)).get? b=some o:=λb o e=>bK _ _ (bK _ _ e)
   exact h _ _ _ _ _ _ (S.keep (tk:=s.toks) kp) (af.keep (tk:=s.toks) kp) (by
    cases e:s.heap.get? (s.heap.push oT).objs.size with
    |none=>rfl
    |some o=>exact absurd (fJ e) (pP (by rw[iF];exact mD _))) (dH _ rfl) (.of (hrec.keeps kp) ⟨oc,kp _ _ hoc,hccl⟩)
  exact key _ _
end
structure qo (X:Cx) (s:ae) (fd:gz) (ps:List Str) (body:List aL) (W:List Addr) (σ0:Sg):Prop where
 gl:fd.globals=dF
 bi:fd.builtins=kx
 bd:fd.body=.stmts body
 co:fd.scope.isCoroutine=false
 ge:fd.scope.isGenerator=false
 kd:fd.scope.kind=.function
 nd:gg fd.scope.names=true
 nm:∀x k,(x,k)∈fd.scope.names->cw x=true
 pst:∀p∈ps,bb fd.scope p=true
 cd:s.heap.CodeRec fd.code fd.qualname
 bind:∀vs:List Value,vs.length=ps.length->lC fd ⟨vs,[]⟩=pure (ps.zip vs)
 c1:∀x c,(x,c)∈fd.closure->fd.scope.names.lookup x=some .free/\(∃v,s.heap.IsCell c v)/\X.h0.get? c=none
 c2:∀x y c,(x,c)∈fd.closure->(y,c)∈fd.closure->x=y
 c3:∀x,fd.scope.names.lookup x=some .free->∃c,fd.closure.lookup x=some c
 hv:∀x e,σ0.lookup x=some e->fd.scope.names.lookup x=some .free/\∃d c v,e=.sh d/\fd.closure.lookup x=some c/\s.heap.IsCell c (some v)/\ao W s.heap d v
section
variable {X:Cx} {A:aO} {s:ae} {W:List Addr}
theorem Kk {α:Type} {M:se} {c:bw α} {Q:α->ae->Prop} {E:Value->ae->Prop} {s:ae} (h:∀Q':α->ae->Prop,(∀v s,Q v s->Q' v s)->aq M A c Q' E s):aq M A c Q E s:=h Q λζ ζ h=>h
set_option backward.match.sparseCases true in
theorem tE {fa:Addr} {o:ek} {fd:gz} {ps:List Str} {body:List aL} {as:List PV} {vs:List Value} {σ0:Sg} {Q:Value->ae->Prop} (F:qo X s fd ps body W σ0) (ho:s.heap.get? fa=some o) (hd:o.data=.func fd) (hl:ps.length=as.length) (hroom:A.depth<recursionLimit) (S:ai X s) (w:cy W s.heap) (r:ax W s.heap as vs) (h:∀env s2,am X fd.scope env (bP σ0 (ps.zip (as.map .sh))) [] W s2.heap->ai X s2->af [] s s2->(∀b∈aV fd.scope env [],s.heap.get? b=none)->od env=false->env.code=fd.code->
   env.cells=em (s.heap.objs.size+1) fd.scope.names fd.closure->env.qual=fd.qualname++ ".<locals>." ->env.scope=fd.scope->
   aq (aw X.prog X.w) (A.deeper env) (dw body env) (λfl s3=>Q (match fl with|.ret v=>v|_=>.none) s3) (λζ ζ=>False) s2):aq (aw X.prog X.w) A (call (.ref fa) vs) Q (λζ ζ=>False) s:=by
 refine DR (Q7 hroom ho hd F.co F.ge F.bd F.cd ?_);rw[F.bind vs (aa r.length (aa hl rfl)),F.gl,F.bi];refine aS ?_;simp only[r0,yk,ey,if_false];refine ak (yr ?_);refine ak (yt _ (λζ ζ ζ=>rfl) _ _ _ _ ?_);refine aa (show ({s with heap:=s.heap.push {cls:=.type "frame",data:=.dict #[]}}:ae).heap.objs.size=s.heap.objs.size+1 from iF ..) ?_;refine cn (({s with heap:=mP (s.heap.push {cls:=.type "frame",data:=.dict #[]}) fd.scope.names}:ae)) λs1 hs1=>?_;have kk:∀b o,s.heap.get? b=some o->s1.heap.get? b=some o:=λb o e=>by refine aH hs1 ?_;exact rX _ _ _ _ (bK _ _ e)
 have S1:ai X s1:=by have:=S.keep (tk:=s.toks) (h':=s1.heap) kk;rw[<- hs1] at this ⊢;exact this
 have k1:af [] s s1:=by have:=af.keep (W:=[]) (s:=s) (tk:=s.toks) (h':=s1.heap) kk;rw[<- hs1] at this ⊢;exact this
 refine cn (({scope:=fd.scope,locals:=s.heap.objs.size,globals:=dF,cells:=em (s.heap.objs.size+1) fd.scope.names fd.closure,qual:=fd.qualname++ ".<locals>.",func:=some fa,code:=fd.code,frame:=some s.heap.objs.size,builtins:=kx}:Env)) λenv henv=>?_;have kd:∀x,env.kindOf x=fd.scope.names.lookup x:=λx=>by refine aH henv ?_;rfl
 have V1:am X fd.scope env σ0 [] W s1.heap:=by
  refine aH hs1 ?_;refine sI (cl:=fd.closure) S F.nd F.nm (by refine aH henv ?_;exact F.kd) (aH henv rfl) (aH henv rfl) (aH henv rfl) (aH henv rfl) (λx hx=>(kd x).trans hx) (λx hx=>?_) (λx hx=>?_) F.c1 F.c2 F.c3 w F.hv
  ·exact rm hx (λe=>.inl ((kd x).trans e)) λe=>.inr ((kd x).trans e)
  ·exact (kd x).trans (uv hx)
 refine ak (aA (ta ps as vs env σ0 s1 hl F.pst S1 V1 (r.keep k1.kb)) (λζ s2 h_0=>aI h_0 λS2 k2 V2=>?_) λζ ζ f=>f.elim);refine aS ⟨S2.lim,Q8 ?_⟩;have hlt:∀c,(∃x,(x,c)∈fd.closure)->c<s.heap.objs.size:=λc h_=>aE h_ λx hx=>by obtain ⟨_,⟨v,o,e,_⟩,_⟩:=F.c1 x c hx;exact fJ e
 have fresh:∀b∈aV fd.scope env [],s.heap.get? b=none:=λb hb=>by
  have hge:s.heap.objs.size<=b:=by
   unfold aV at hb;rcases av.mp hb with q|q
   ·refine aa q (aH henv ?_);exact bf _
   ·rcases bo.mp q with q|q
    ·refine ah (er q) λx hm hst=>?_;have hm:(x,b)∈em (s.heap.objs.size+1) fd.scope.names fd.closure:=by replace hm:=(eh henv)▸hm;exact hm
     rcases oo _ _ _ _ _ hm with z|z
     ·have:=(F.c1 x b z).1;unfold bb at hst;replace hst:=this▸hst;exact aZ hst
     ·exact nZ z.1
    ·exact nomatch q
  cases e:s.heap.get? b with
  |none=>rfl
  |some o=>exact absurd (fJ e) (pP hge)
 have k02:af [] s s2:=bG.after k1 (bG.of k2) fresh k1.gsz;exact aA (h env s2 V2 S2 k02 fresh (by refine aH henv ?_;refine (?_:(fd.scope.kind==Td&&_)=false);refine aa F.kd ?_;rfl) (aH henv rfl) (aH henv rfl) (aH henv rfl) (aH henv rfl)) (λfl s3 h3=>h3) λζ ζ f=>f.elim
theorem qW {f:Addr} {o:ek} {fd:gz} {env:Env} {es:List ab} {pos pos':Pos} {QV:List Value->ae->Prop} {Q:Value->ae->Prop} (hf:s.heap.get? f=some o) (hd:o.data=.func fd) (hn:∀e∈es,dT e=true) (h:Ev X A s (ez (bZ pos (bY es env))) QV) (hc:∀vs s1,ai X s1->af [] s s1->QV vs s1->aq (aw X.prog X.w) A (call (.ref f) vs) Q (λζ ζ=>False) s1):aq (aw X.prog X.w) A (iH pos' (.ref f) [] (bZ pos (bY es env)) []) Q (λζ ζ=>False) s:=by refine QG (o:=o) (fd:=fd) (aA (sF hn h) (λa s1 h1=>?_) λζ ζ f=>f);refine gq h1 λS1 k1 ha hq=>?_;clear h1;refine⟨⟨k1.kb f o (λq=>nomatch q) (fy λvs q=>by replace q:=hd▸q;cases q) hf,hd⟩,?_⟩;refine aa ha ?_;exact hc a.pos s1 S1 k1 hq
end
theorem JI (x s:Nat):x &&& (x/2^s*2^s)=x/2^s*2^s:=by
 apply DZ;intro i;rw[Rp,<- Nat.shiftLeft_eq,<- Nat.shiftRight_eq_div_pow,Nat.testBit_shiftLeft,Nat.testBit_shiftRight]
 by_cases h:s<=i
 ·have e:s+(i - s)=i:=nT (by assumption);refine aa e ?_;cases x.testBit i<;>simp
 ·simp[h]
theorem Hv (x s:Nat):rI (x:Int) (((x/2^s:Nat):Int)*2^s)=((x%2^s:Nat):Int):=by
 have e:(((x/2^s:Nat):Int)*2^s)=((x/2^s*2^s:Nat):Int):=by push_cast;rfl
 refine aa e ?_;rw[Rq];have h:uC (x:Int) ((x/2^s*2^s:Nat):Int)=((x/2^s*2^s:Nat):Int):=by unfold uC;have h1:decide ((0:Int)<=(x:Int))=true:=DD _;have h2:decide ((0:Int)<=((x/2^s*2^s:Nat):Int))=true:=decide_eq_true (c7 _);refine aa h1 (aa h2 ?_);simp only[gb,JI]
 refine aa h ?_;have:=Db x (2^s);have h3:2^s*(x/2^s)=x/2^s*2^s:=P4 _ _;lia
theorem Lz (x s:Nat):(if ((s:Nat):Int)>=(bX (x:Int):Int) then (if (x:Int)<0 then -1 else 0) else (x:Int).fdiv (2^((s:Nat):Int).toNat))=((x/2^s:Nat):Int):=by
 split
 ·rename_i h;have h2:bX (x:Int)<=s:=ej.mp (by assumption);have h3:=u7.mp h2;rw[if_neg (mB.mpr (c7 _))];have:x<2^s:=h3;refine aa (yz this) ?_;rfl
 ·rw[gb,Rr _ (by exact_mod_cast iE _)]
  push_cast
  rfl
theorem hF {x k:Nat} (h:x<2^k):bX (x:Int)<=k:=u7.mpr (h)
noncomputable def iO:Nat->Nat->Nat->Nat->Nat->List Int->List Int
 |0,_,_,_,_,ds=>ds
 |m+1,n,x,L,R,ds=>if L+1=R then ds.set L x else iO m n (x/2^(((L+R)/2 - L)*n)) ((L+R)/2) R (iO m n (x%2^(((L+R)/2 - L)*n)) L ((L+R)/2) ds)
theorem CB {m n x L R ds}:iO (m+1) n x L R ds=if L+1=R then ds.set L x else iO m n (x/2^(((L+R)/2 - L)*n)) ((L+R)/2) R (iO m n (x%2^(((L+R)/2 - L)*n)) L ((L+R)/2) ds):=rfl
theorem uw:∀m n x L R ds,(iO m n x L R ds).length=ds.length
 |0,_,_,_,_,_=>rfl
 |m+1,n,x,L,R,ds=>by
  refine aa CB ?_
  split
  ·simp
  ·rw[uw,uw]
noncomputable def eP (n:Nat):Nat->Nat->List Int
 |0,_=>[]
 |k+1,x=>((x%2^n:Nat):Int)::eP n k (x/2^n)
theorem CK {n x}:eP n 0 x=[]:=rfl
theorem v4 {n k x}:eP n (k+1) x=((x%2^n:Nat):Int)::eP n k (x/2^n):=rfl
theorem tP (n:Nat):∀k x,(eP n k x).length=k
 |0,_=>rfl
 |k+1,x=>by refine aa v4 ?_;simp[tP n k]
theorem Bg (n:Nat):∀a b x,eP n (a+b) x=eP n a (x%2^(a*n))++eP n b (x/2^(a*n))
 |0,b,x=>by simp[CK,v4]
 |a+1,b,x=>by
  have e:a+1+b=(a+b)+1:=Nat.succ_add _ _;refine aa e ?_;refine (?_:((x%2^n:Nat):Int)::eP n (a+b) (x/2^n)=((x%2^((a+1)*n)%2^n:Nat):Int)::eP n a (x%2^((a+1)*n)/2^n)++eP n b (x/2^((a+1)*n)));rw[Bg n a b];have e2:(a+1)*n=n+a*n:=by rw[kD,og,iW]
  refine aa e2 ?_;rw[u8];have h1:x%(2^n*2^(a*n))%2^n=x%2^n:=Nat.mod_mul_right_mod _ _ _;have h2:x%(2^n*2^(a*n))/2^n=x/2^n%2^(a*n):=Nat.mod_mul_right_div_self _ _ _;have h3:x/(2^n*2^(a*n))=x/2^n/2^(a*n):=(Nat.div_div_eq_div_mul _ _ _).symm;refine aa h1 (aa h2 (aa h3 ?_));rfl
theorem M1 (ds:List Int) (L:Nat) (v:Int) (h:L<ds.length):ds.set L v=ds.take L++[v]++ds.drop (L+1):=by refine aa List.set_eq_take_append_cons_drop ?_;simp[h]
theorem vZ:∀m n x L R ds,L<R->R<=ds.length->R - L<=m->x<2^((R - L)*n)->iO m n x L R ds=ds.take L++eP n (R - L) x++ds.drop R
 |0,n,x,L,R,ds,h,_,h2,_=>(wN h h2).elim
 |m+1,n,x,L,R,ds,h,hR,h2,hx=>by
  refine aa CB ?_
  split
  ·rename_i e;have e1:R - L=1:=CE e;rw[e1,og] at hx;rw[e1,M1 _ _ _ (b9 (by assumption) (by assumption)),<- e];simp only[CK,v4,D1 hx]
  ·rename_i hne;have g1:L<(L+R)/2:=ri h hne;have g2:(L+R)/2<R:=nz h hne;revert g1;revert g2;refine cn ((L+R)/2) λmid hmid=>?_;intro g2 g1;have e3:(R - L)*n=(mid - L)*n+(R - mid)*n:=by rw[<- kD];congr 1;exact vF h hne hmid g1
   have hx1:x%2^((mid - L)*n)<2^((mid - L)*n):=gf _ (u9 _);have hx2:x/2^((mid - L)*n)<2^((R - mid)*n):=by rw[e3,u8] at hx;exact Nat.div_lt_of_lt_mul hx
   have hl:=uw m n (x%2^((mid - L)*n)) L mid ds;rw[vZ m n _ mid R _ g2 (by refine aa hl ?_;exact hR) (qr h h2 hne hmid g1) hx2,vZ m n _ L mid ds g1 (al (dE (by assumption)) (by assumption)) (ul h h2 hne hmid) hx1];have e4:R - L=(mid - L)+(R - mid):=vF h hne hmid g1;refine aa e4 ?_;rw[Bg];have t1:(ds.take L++eP n (mid - L) (x%2^((mid - L)*n))++ds.drop mid).take mid=ds.take L++eP n (mid - L) (x%2^((mid - L)*n)):=by apply List.take_left';simp[tP];exact AN h hR hne hmid g1 e4
   have t2:(ds.take L++eP n (mid - L) (x%2^((mid - L)*n))++ds.drop mid).drop R=ds.drop R:=by
    have e5:(ds.take L++eP n (mid - L) (x%2^((mid - L)*n))).length=mid:=by simp[tP];exact AN h hR hne hmid g1 e4
    have e6:R=(ds.take L++eP n (mid - L) (x%2^((mid - L)*n))).length+(R - mid):=Hz h hne hmid e5;refine aa e6 ?_;rewrite[List.drop_length_add_append];exact aa mO (aa e5 rfl)
   refine aa t1 (aa t2 ?_);simp[gP]
noncomputable abbrev fQ:Str:=ag "x"
noncomputable abbrev nL:Str:=ag "L"
noncomputable abbrev nR:Str:=ag "R"
noncomputable abbrev nN:Str:=ag "n"
noncomputable abbrev ce:Str:=ag "mid"
noncomputable abbrev dK:Str:=ag "shift"
noncomputable abbrev gG:Str:=ag "upper"
noncomputable abbrev gZ:Str:=ag "lower"
noncomputable abbrev bn:Str:=ag "inner"
noncomputable abbrev dj:Str:=ag "a_digits"
structure wY (sc:Scope) (t ex eL:ab) (s2 s3 s4 s5:aL) (a1 a2:List ab):Prop where
 hT:∀O σ (L R:Nat),σ.lookup nL=some (.sh (.int L))->σ.lookup nR=some (.sh (.int R))->pT O 12 sc σ t=some (decide (L+1=R))
 hx:∀O σ (x:Nat),σ.lookup fQ=some (.sh (.int x))->pe O 12 sc σ ex=some (.int x)
 hL:∀O σ (x:Nat),σ.lookup nL=some (.sh (.int x))->pe O 12 sc σ eL=some (.int x)
 hss:∀O σ (x L R n:Nat),σ.lookup fQ=some (.sh (.int x))->σ.lookup nL=some (.sh (.int L))->σ.lookup nR=some (.sh (.int R))->σ.lookup nN=some (.sh (.int n))->R<=128->n<=512->x<2^65536->L<R->
  aJ O 12 sc σ [s2,s3,s4,s5]=some (.nx (put (put (put (put σ ce (.sh (.int (((L+R)/2:Nat):Int)))) dK (.sh (.int ((((L+R)/2 - L)*n:Nat):Int)))) gG (.sh (.int ((x/2^(((L+R)/2 - L)*n):Nat):Int)))) gZ (.sh (.int ((x%2^(((L+R)/2 - L)*n):Nat):Int)))))
 ha1:∀O σ (x L R:Nat),σ.lookup gZ=some (.sh (.int x))->σ.lookup nL=some (.sh (.int L))->σ.lookup ce=some (.sh (.int R))->aY (pe O 12 sc σ) a1=some [.int x,.int L,.int R]
 ha2:∀O σ (x L R:Nat),σ.lookup gG=some (.sh (.int x))->σ.lookup ce=some (.sh (.int L))->σ.lookup nR=some (.sh (.int R))->aY (pe O 12 sc σ) a2=some [.int x,.int L,.int R]
structure ii (X:Cx) (fd:gz) (ps:List Str) (body:List aL) (n1 n2 n3:Str) (c1 c2 c3:Addr):Prop where
 gl:fd.globals=dF
 bi:fd.builtins=kx
 bd:fd.body=.stmts body
 co:fd.scope.isCoroutine=false
 ge:fd.scope.isGenerator=false
 kd:fd.scope.kind=.function
 nd:gg fd.scope.names=true
 nm:∀x k,(x,k)∈fd.scope.names->cw x=true
 pst:∀p∈ps,bb fd.scope p=true
 bind:∀vs:List Value,vs.length=ps.length->lC fd ⟨vs,[]⟩=pure (ps.zip vs)
 cl:fd.closure=[(n1,c1),(n2,c2),(n3,c3)]
 fr:∀x,fd.scope.names.lookup x=some .free->x=n1\/x=n2\/x=n3
 f1:fd.scope.names.lookup n1=some .free
 f2:fd.scope.names.lookup n2=some .free
 f3:fd.scope.names.lookup n3=some .free
 noc:∀x,(x,pG)∉fd.scope.names
 n12:n1≠n2
 n13:n1≠n3
 n23:n2≠n3
 d12:c1≠c2
 d13:c1≠c3
 d23:c2≠c3
 h1:X.h0.get? c1=none
 h2:X.h0.get? c2=none
 h3:X.h0.get? c3=none
section
variable {X:Cx} {A:aO} {s s' s1 s2:ae} {W V:List Addr} {fd:gz} {ps:List Str} {body:List aL} {n1 n2 n3:Str} {c1 c2 c3:Addr} {env:Env}
theorem af.more {V:List Addr} {gm:Nat} (a:jM W gm s s1) (b:af V s1 s2) (hg:gm<=s1.gens.size) (h:∀x∈V,x∈W\/s.heap.get? x=none):jM W gm s s2:=
 have ne:∀b o,b∉W->s.heap.get? b=some o->b∉V:=λb o hb e q=>(h b q).elim hb λz=>by replace e:=z▸e;exact ac e
 ⟨λx o hb ht e=>b.kb x o (ne x o hb e) ht (a.kb x o hb ht e),λx o e=>aE (a.th x o e) λo' e'=>b.th x o' e',al a.gsz b.gsz,λi hi=>(b.gk i (b9 hi hg)).trans (a.gk i hi)⟩
theorem ii.cells (F:ii X fd ps body n1 n2 n3 c1 c2 c3) (he:env.cells=em (s.heap.objs.size+1) fd.scope.names fd.closure):env.cells=[(n1,c1),(n2,c2),(n3,c3)]:=by
 refine aa he (aa F.cl ?_);have:∀(names:List (Str×fK)) k acc,(∀x,(x,pG)∉names)->em k names acc=acc:=by
  intro names
  induction names with
  |nil=>intro k acc _;rfl
  |cons y r ih=>
   intro k acc h;obtain ⟨y,kd⟩:=y;unfold em
   split
   ·rename_i hk;exact absurd (by refine aa (bh hk) ?_;exact js) (h y)
   ·exact ih k acc λx hx=>h x (cg _ hx)
 exact this _ _ _ F.noc
theorem ii.cellNe (F:ii X fd ps body n1 n2 n3 c1 c2 c3) {P own σ h} (V:am X fd.scope env σ own P h) (he:env.cells=[(n1,c1),(n2,c2),(n3,c3)]) {b:Addr} (hb:b∈aV fd.scope env []):b=env.locals:=by
 unfold aV at hb;rcases av.mp hb with q|q
 ·exact q
 ·rcases bo.mp q with q|q
  ·refine ah (er q) λx hm hst=>?_;replace hm:=he▸hm;simp only[av,bz,or_false,D2] at hm;unfold bb at hst;rcases hm with ⟨rfl,_⟩|⟨rfl,_⟩|⟨rfl,_⟩
   ·replace hst:=F.f1▸hst;exact aZ hst
   ·replace hst:=F.f2▸hst;exact aZ hst
   ·replace hst:=F.f3▸hst;exact aZ hst
  ·exact nomatch q
theorem ii.en (F:ii X fd ps body n1 n2 n3 c1 c2 c3) {σ0:Sg} (h1:∃v,s.heap.IsCell c1 v) (h2:∃v,s.heap.IsCell c2 v) (h3:∃v,s.heap.IsCell c3 v) (hc:ir s.heap fd.code fd.qualname) (hv:∀x e,σ0.lookup x=some e->fd.scope.names.lookup x=some .free/\∃d c v,e=.sh d/\fd.closure.lookup x=some c/\s.heap.IsCell c (some v)/\ao W s.heap d v):qo X s fd ps body W σ0:=
 {gl:=F.gl,bi:=F.bi,bd:=F.bd,co:=F.co,ge:=F.ge,kd:=F.kd,nd:=F.nd,nm:=F.nm,pst:=F.pst,bind:=F.bind,cd:=hc.rec,hv:=hv
  c1:=λx c hx=>by
   replace hx:=F.cl▸hx
   simp only[av,bz,or_false,D2] at hx
   rcases hx with ⟨rfl,rfl⟩|⟨rfl,rfl⟩|⟨rfl,rfl⟩
   ·exact fx F.f1 h1 F.h1
   ·exact fx F.f2 h2 F.h2
   ·exact fx F.f3 h3 F.h3
  c2:=λx y c hx hy=>by
   rw[F.cl] at hx hy
   simp only[av,bz,or_false,D2] at hx hy
   have:=F.d12;have:=F.d13;have:=F.d23
   rcases hx with ⟨rfl,rfl⟩|⟨rfl,rfl⟩|⟨rfl,rfl⟩<;>rcases hy with ⟨rfl,e⟩|⟨rfl,e⟩|⟨rfl,e⟩<;>first|rfl|(exfalso;simp_all)
  c3:=λx hx=>by
   refine aa F.cl ?_
   have h12:=F.n12;have h13:=F.n13;have h23:=F.n23
   rcases F.fr x hx with rfl|rfl|rfl
   ·exact⟨c1,by simp[d9]⟩
   ·exact⟨c2,by simp[d9,(beq_eq_false_iff_ne.mpr (cC h12))]⟩
   ·exact⟨c3,by simp[d9,(beq_eq_false_iff_ne.mpr (cC h13)),(beq_eq_false_iff_ne.mpr (cC h23))]⟩}
theorem ii.val2 (F:ii X fd ps body n1 n2 n3 c1 c2 c3) {P own σ} (V:am X fd.scope env σ own P s.heap) (he:env.cells=[(n1,c1),(n2,c2),(n3,c3)]) {v:Value} (h:s.heap.IsCell c2 (some v)):dO env s.heap n2 v:=
 .inr ⟨(V.cel n2 (by unfold ed;exact aa F.f2 rfl)).1,c2,by refine aa he ?_;simp[d9,(beq_eq_false_iff_ne.mpr (cC F.n12))],h⟩
theorem ii.val3 (F:ii X fd ps body n1 n2 n3 c1 c2 c3) {P own σ} (V:am X fd.scope env σ own P s.heap) (he:env.cells=[(n1,c1),(n2,c2),(n3,c3)]) {v:Value} (h:s.heap.IsCell c3 (some v)):dO env s.heap n3 v:=
 .inr ⟨(V.cel n3 (by unfold ed;exact aa F.f3 rfl)).1,c3,by refine aa he ?_;simp[d9,(beq_eq_false_iff_ne.mpr (cC F.n13)),(beq_eq_false_iff_ne.mpr (cC F.n23))],h⟩
theorem am.own0 {sc:Scope} {σ:Sg} {own P h} (V:am X sc env σ own P h) (hu:Mine.unown σ=σ):am X sc env σ [] P h:=by have:=V.unown;rwa [hu] at this
structure iU (X:Cx) (fd:gz) (f l c1 c2 c3:Addr) (n:Nat) (ds:List Int) (s:ae):Prop where
 S:ai X s
 k1:∃t,s.heap.IsCell c1 (some (.int n t))
 k2:s.heap.IsCell c2 (some (.ref f))
 k3:s.heap.IsCell c3 (some (.ref l))
 fo:∃o,s.heap.get? f=some o/\o.data=.func fd
 cd:ir s.heap fd.code fd.qualname
 ls:∃vs k,s.heap.get? l=some {cls:=.type "list",data:=.seq vs.toArray k}/\ax [] s.heap (ds.map .int) vs
theorem tM {ds:List Int}:∀d∈ds.map PV.int,d.flat=true:=λd hd=>by obtain ⟨x,_,rfl⟩:=dG.mp hd;rfl
theorem iU.step {f l:Addr} {n:Nat} {ds:List Int} {V:List Addr} {g':Nat} (I:iU X fd f l c1 c2 c3 n ds s) (S':ai X s') (k:jM V g' s s') (hV:∀b∈V,∀o,s.heap.get? b=some o->b≠l/\b≠f/\b≠c1/\b≠c2/\b≠c3/\h8 o):iU X fd f l c1 c2 c3 n ds s':=by
 have cl:∀{c v},s.heap.IsCell c v->(c=c1\/c=c2\/c=c3)->s'.heap.IsCell c v:=λ{c v} h hc=>jb h k.kb λq=>by
  refine ah h λo e ζ=>?_;clear h;refine pd (hV c q o e) λζ ζ h1 h2 h3 ζ=>?_;rcases hc with z|z|z
  ·exact h1 z
  ·exact h2 z
  ·exact h3 z
 refine aE I.k1 λt k1=>?_;refine ah I.fo λo e hd=>?_;refine bR I.ls λvs kk e2 r=>?_
 exact⟨S',⟨t,cl k1 (.inl rfl)⟩,cl I.k2 (.inr (.inl rfl)),cl I.k3 (.inr (.inr rfl)),⟨o,k.kb f o (λq=>(hV f q o e).2.1 rfl) (fy λvs q=>by replace q:=hd▸q;cases q) e,hd⟩,
  I.cd.kb k.kb λb hb o e=>(hV b hb o e).2.2.2.2.2,vs,kk,k.kb l _ (λq=>(hV l q _ e2).1 rfl) rfl e2,fX tM r⟩
end
section
variable {X:Cx} {A:aO} {s s' s1 s2:ae} {W V:List Addr} {fd:gz} {ps:List Str} {c1 c2 c3:Addr} {env:Env} {O:Orc}
theorem CR {M:se} {Γ:PySem.Ctx}:∀(l r:List aL) {Q:fk->Pos->ae->Prop} {E:Value->Pos->ae->Prop} {p:Pos} {s:ae},D3 M Γ (dw l env) (λf p' s'=>match f with|.next=>D3 M Γ (dw r env) Q E p' s'|f=>Q f p' s') E p s->D3 M Γ (dw (l++r) env) Q E p s
 |[],r,Q,E,p,s,h=>h
 |st::l,r,Q,E,p,s,h=>by
  rw[Rs,Rt] at h;refine aa vd ?_;rw[Rs,Rt];refine Ru M Γ _ (λf p' s' hf=>?_) (λζ ζ ζ z=>z) _ _ h
  induction f using pS with
  |next=>exact CR l r hf
  |_=>exact hf
theorem BO {E:Value->ae->Prop} (l r:List aL) (s:ae) {Q:fk->ae->Prop} (h:aq (aw X.prog X.w) A (dw l env) (λf s'=>match f with|.next=>aq (aw X.prog X.w) A (dw r env) Q E s'|f=>Q f s') E s):aq (aw X.prog X.w) A (dw (l++r) env) Q E s:=λΓ p hΓ=>by
 refine CR l r (Ru _ Γ _ (λf p' s' hf=>?_) (λζ ζ ζ z=>z) _ _ (h Γ p hΓ))
 induction f using pS with
 |next=>exact hf Γ p' hΓ
 |_=>exact hf
theorem H7 {l:Addr} {vs:List Value} {kk:Nat} {ds:List Int} {L x:Nat} {t u:df} {Q:Unit->ae->Prop} (S:ai X s) (h0:X.h0.get? l=none) (ho:s.heap.get? l=some {cls:=.type "list",data:=.seq vs.toArray kk})
  (r:ax [] s.heap (ds.map .int) vs) (hL:L<ds.length) (hb:L<1000000)
  (h:∀s',ai X s'->af [l] s s'->(∃vs' kk',s'.heap.get? l=some {cls:=.type "list",data:=.seq vs'.toArray kk'}/\ax [] s'.heap ((ds.set L x).map .int) vs')->Q () s'):
  aq (aw X.prog X.w) A (setItem (.ref l) (.int L t) (.int x u)) Q (λζ ζ=>False) s:=by
 have hlen:vs.length=ds.length:=by refine aa r.length ?_;exact bx ..
 have hsz:vs.toArray.size=ds.length:=by refine aa Qb ?_;exact hlen
 refine ki_setAt (n:=kk) ho (c7 _) (xY (oh.mpr (by assumption)) (by decide)) (by refine aa hsz ?_;exact oh.mpr (by assumption)) ?_;have hself:∃k2,(s.heap.update l (uP (·.setIfInBounds ((L:Nat):Int).toNat (.int x u)))).get? l=some {cls:=.type "list",data:=.seq (vs.set L (.int x u)).toArray k2}:=by
  refine aa (Du (uP (·.setIfInBounds ((L:Nat):Int).toNat (.int x u))) ho rfl) ?_;simp only[uP,gb];have e:vs.toArray.setIfInBounds L (.int x u)=(vs.set L (.int x u)).toArray:=by apply Array.toList_inj.mp;simp
  refine aH e ?_;exact⟨_,rfl⟩
 refine aE hself λk2 hself=>?_;have hsame:iX l s.heap (s.heap.update l (uP (·.setIfInBounds ((L:Nat):Int).toNat (.int x u)))):=yc ..;refine h _ (S.same (tk:=s.toks) h0 (λo e=>by replace e:=ho▸e;have h_:=aj e;clear e;subst h_;exact .inl (by simp)) hsame) (af.but (tk:=s.toks) (.head _) hsame ⟨_,hself⟩) ⟨_,k2,hself,?_⟩;have:∀(ds:List Int) (vs:List Value) (L:Nat),ax [] s.heap (ds.map .int) vs->ax [] s.heap ((ds.set L x).map .int) (vs.set L (.int x u)):=by
  intro ds
  induction ds with
  |nil=>intro vs L r;exact (by simpa [ax] using r)
  |cons d ds ih=>
   intro vs L r;simp only[cS,ax] at r;refine bJ r λv q e2_ r1 r2=>?_;clear r;subst e2_
   induction L using e8 with
   |zero=>exact gF _ _ rfl ⟨u,rfl⟩ r2
   |succ L=>exact gF _ _ rfl r1 (ih q L r2)
 exact fX tM (this ds vs L r)
theorem uh (a b c:Nat):∀d∈[PV.int a,.int b,.int c],d.flat=true:=λd hd=>by
 simp only[av,bz,or_false] at hd;rcases hd with rfl|rfl|rfl<;>rfl
theorem am.moveL {sc:Scope} {σ:Sg} {l:Addr} {vs vs':List Value} {kk kk':Nat} {t t':ae} (V:am X sc env σ [] [l] t.heap) (hl:t.heap.get? l=some {cls:=.type "list",data:=.seq vs.toArray kk}) (k:af [l] t t') (hl':t'.heap.get? l=some {cls:=.type "list",data:=.seq vs'.toArray kk'}):
  am X sc env σ [] [l] t'.heap:=
 V.moveO k.kb (λb hb=>.inl hb) (λb hb q=>nomatch q) (λq=>by
  obtain ⟨m,oF,es,ep,eF,hdF,_⟩:=V.ns
  replace eF:=(cN.mp q)▸eF;replace eF:=hl▸eF;have h_:=aj eF;clear eF;subst h_;cases hdF) (λy c hm q=>by
  refine bR (V.cells y c hm) λv o e hd=>?_
  replace e:=(cN.mp q)▸e;replace e:=hl▸e;have h_:=aj e;clear e;subst h_;cases hd) (λb hb=>cN.mp hb▸⟨_,hl',rfl⟩) λb hb=>.inl hb
theorem iU.stored {f l:Addr} {n:Nat} {ds ds':List Int} {t t':ae} {vs':List Value} {kk':Nat} (J:iU X fd f l c1 c2 c3 n ds t) (S':ai X t') (k:af [l] t t') (hl':t'.heap.get? l=some {cls:=.type "list",data:=.seq vs'.toArray kk'}) (rl':ax [] t'.heap (ds'.map .int) vs'):
  iU X fd f l c1 c2 c3 n ds' t':=by
 refine aE J.k1 λtt kk1=>?_;refine bR J.ls λvs kk hl ζ=>?_;have ne:∀c v,t.heap.IsCell c v->c∉[l]:=λc v h_ q=>ah h_ λo e hd=>by replace e:=(cN.mp q)▸e;replace e:=hl▸e;have h_:=aj e;clear e;subst h_;cases hd
 refine ah J.fo λo5 e5 hd5=>?_
 exact⟨S',⟨tt,jb kk1 k.kb (ne _ _ kk1)⟩,jb J.k2 k.kb (ne _ _ J.k2),jb J.k3 k.kb (ne _ _ J.k3),⟨o5,k.kb f o5 (λq=>by
   replace e5:=(cN.mp q)▸e5;replace e5:=hl▸e5;have h_:=aj e5;clear e5;subst h_;cases hd5) (fy λvs q=>by replace q:=hd5▸q;cases q) e5,hd5⟩,
  J.cd.kb k.kb (λb hb o e=>by
   replace e:=(cN.mp hb)▸e;replace e:=hl▸e;have h_:=aj e;clear e;subst h_;exact .inl (by simp)),vs',kk',hl',rl'⟩
theorem H8 {f l:Addr} {n:Nat} {ds:List Int} {body:List aL} (F:ii X fd [fQ,nL,nR] body nN bn dj c1 c2 c3) (I:iU X fd f l c1 c2 c3 n ds s):qo X s fd [fQ,nL,nR] body [l] [(nN,.sh (.int n))]:=
 F.en (aE I.k1 λt k=>⟨_,k⟩) ⟨_,I.k2⟩ ⟨_,I.k3⟩ I.cd (λy e hy=>by
   have hy':(if nN=y then some (Ent.sh (.int n)) else none)=some e:=by
    simp only[d9] at hy
    split at hy
    ·rename_i z;refine aa (if_pos (bh z).symm) ?_;exact hy
    ·exact ac hy
   split at hy'
   ·rename_i z
    have h_:=aj hy';clear hy';subst h_;subst z
    refine aE I.k1 λt k1=>?_
    exact⟨F.f1,_,c1,_,rfl,by refine aa F.cl ?_;rfl,k1,⟨t,rfl⟩⟩
   ·exact ac hy')
theorem MO {f l:Addr} {n:Nat} {ds:List Int} (I:iU X fd f l c1 c2 c3 n ds s) {b:Addr} (hn:s.heap.get? b=none):b≠l/\b≠f/\b≠c1/\b≠c2/\b≠c3:=by
 have ne:∀c,(∃o,s.heap.get? c=some o)->b≠c:=λc h_ q=>aE h_ λo e=>by (replace e:=(eh q)▸e;replace e:=hn▸e);exact ac e
 have cne:∀c v,s.heap.IsCell c v->b≠c:=λc v h_0=>ah h_0 λo e ζ=>ne c ⟨o,e⟩;refine aE I.k1 λtt kk1=>?_;refine bR I.ls λvs kk hl ζ=>?_;refine ah I.fo λo ho ζ=>?_;exact wx (ne l ⟨_,hl⟩) (ne f ⟨_,ho⟩) (cne _ _ kk1) (cne _ _ I.k2) (cne _ _ I.k3)
theorem Kn {f l:Addr} {n:Nat} {t ex eL:ab} {s2 s3 s4 s5:aL} {a1 a2:List ab} {q1 q2 q3 q4 q5 q6 q7 q8 q9 q10 q11:Pos} (F:ii X fd [fQ,nL,nR] (.If t [.Assign [.Subscript (.Name dj q1) eL q2] ex q3,.Return none q4] [] q5::s2::s3::s4::s5::.Expr (.Call (.Name bn q6) a1 [] q7) q8::.Expr (.Call (.Name bn q9) a2 [] q10) q11::[]) nN bn dj c1 c2 c3) (H:wY fd.scope t ex eL s2 s3 s4 s5 a1 a2) (hsw:∀env q,sa ex (some (.Subscript (.Name dj q1) eL q2)) q env=pure false) (OK:bq X O 0) (h0:X.h0.get? l=none) (hnn:cw bn=true) (hna:cw dj=true) (hnlt:n<=512):∀m (A:aO) (s:ae) (ds:List Int) (x L R:Nat) (vs:List Value),L<R->R<=ds.length->R - L<=m->R<=128->x<2^65536->aK A (m+4)->iU X fd f l c1 c2 c3 n ds s->ax [] s.heap [.int x,.int L,.int R] vs->
   aq (aw X.prog X.w) A (call (.ref f) vs) (λv s'=>v=.none/\iU X fd f l c1 c2 c3 n (iO m n x L R ds) s'/\af [l] s s') (λζ ζ=>False) s:=by
 intro m
 induction m with
 |zero=>intro A s ds x L R vs h1 h2 h3;exact (wN h1 h3).elim
 |succ m ih=>
  intro A s ds x L R vs h1 h2 h3 h4 hx R0 I r;refine ah I.fo λo ho hd=>?_;refine bR I.ls λlvs lk hl rl=>?_;have hlw:cy [l] s.heap:=λb hb=>by simp only[av,bz,or_false] at hb;exact hb▸⟨_,hl,rfl⟩
  have E:=H8 F I;refine tE E ho hd (as:=[.int x,.int L,.int R]) rfl R0.depth I.S hlw (fX (uh _ _ _) r) λenv t2 V2 S2 k2 fresh hint ζ hce ζ ζ=>?_;refine Kk λQ hQ=>?_;have hcell:=F.cells hce;have Rb:aK (A.deeper env) (m+4):=(show aK A ((m+4)+1) from R0.mono (bf _)).deeper env;have Rb2:aK (A.deeper env) (0+2):=Rb.mono (dv _ _);have I2:=I.step S2 k2 (λb hb=>nomatch hb);have l1:(bP [(nN,.sh (.int n))] ([fQ,nL,nR].zip ([PV.int x,.int L,.int R].map .sh))).lookup fQ=some (.sh (.int x)):=rfl;have l2:(bP [(nN,.sh (.int n))] ([fQ,nL,nR].zip ([PV.int x,.int L,.int R].map .sh))).lookup nL=some (.sh (.int L)):=rfl;have l3:(bP [(nN,.sh (.int n))] ([fQ,nL,nR].zip ([PV.int x,.int L,.int R].map .sh))).lookup nR=some (.sh (.int R)):=rfl;have l4:(bP [(nN,.sh (.int n))] ([fQ,nL,nR].zip ([PV.int x,.int L,.int R].map .sh))).lookup nN=some (.sh (.int n)):=rfl;revert V2;revert l1;revert l2;revert l3;revert l4;refine cn (bP [(nN,.sh (.int n))] ([fQ,nL,nR].zip ([PV.int x,.int L,.int R].map .sh))) λσ hσ=>?_;intro l4 l3 l2 l1 V2;have hus:∀a b c d,Mine.unown (put (put (put (put σ ce (.sh a)) dK (.sh b)) gG (.sh c)) gZ (.sh d))=put (put (put (put σ ce (.sh a)) dK (.sh b)) gG (.sh c)) gZ (.sh d):=λa b c d=>by refine aH hσ ?_;rfl
  have lo:∀{s3 σ3 own3 P3},am X fd.scope env σ3 own3 P3 s3->True:=λζ=>trivial;refine gQ ?_;refine aa qw ?_;refine ak (eb (ak (aA (kF OK Rb2 12 _ σ env [] [l] t _ t2 (H.hT O σ L R l2 l3) S2 V2) (λc t3 h_1=>aI h_1 λS3 k3 e3=>?_) λζ ζ f=>f.elim)));subst e3;have V3:=V2.keep k3.kb;have I3:=I2.step S3 k3 (λb hb=>nomatch hb);have k03:af [l] s t3:=(k2.trans k3).nil
  by_cases hLR:L+1=R
  ·rw[if_pos (decide_eq_true hLR)];refine gQ ?_;refine wpAny_Assign_Subscript (aA (dP OK Rb2 12 _ σ env [] [l] ex _ t3 (H.hx O σ x l1) S3 V3) (λv t4 h_2=>aI h_2 λS4 k4 r4=>?_) λζ ζ f=>f.elim) (hsw env _);refine aE r4 λu e1_=>?_;clear r4;subst e1_;have V4:=V3.keep k4.kb;have I4:=I3.step S4 k4 (λb hb=>nomatch hb);refine iM V4 (F.val3 V4 hcell I4.k3) hna ?_;refine aA (dP OK Rb2 12 _ σ env [] [l] eL _ t4 (H.hL O σ L l2) S4 V4) (λv t5 h_3=>aI h_3 λS5 k5 r5=>?_) λζ ζ f=>f.elim;refine aE r5 λu5 e1_=>?_;clear r5;subst e1_;have I5:=I4.step S5 k5 (λb hb=>nomatch hb);refine bR I5.ls λvs5 kk5 hl5 rl5=>?_;refine H7 S5 h0 hl5 rl5 (b9 (by assumption) (by assumption)) (b9 (b9 (by assumption) (by assumption)) (by decide)) λt6 S6 k6 h_4=>bR h_4 λvs6 kk6 hl6 rl6=>?_;refine gQ ?_;refine (?_:aq _ _ (ea q4>>=λζ=>(pure (DQ .none):bw fk)) _ _ t6);refine ak (eb (aS (hQ _ _ ⟨rfl,?_,?_⟩)))
   ·unfold iO;refine aa (if_pos hLR) ?_;exact I5.stored S6 k6 hl6 rl6
   ·exact k03.trans ((k4.trans k5).nil.trans k6)
  ·rw[if_neg (by simpa using hLR)];have g1:L<(L+R)/2:=ri h1 hLR;have g2:(L+R)/2<R:=nz h1 hLR;have hp:=H.hss O σ x L R n l1 l2 l3 l4 h4 hnlt hx h1;have hst:iO (m+1) n x L R ds=iO m n (x/2^(((L+R)/2 - L)*n)) ((L+R)/2) R (iO m n (x%2^(((L+R)/2 - L)*n)) L ((L+R)/2) ds):=by
    conv=>lhs;unfold iO
    exact aa (if_neg hLR) rfl
   revert hst;revert hp;revert g1;revert g2;refine cn ((L+R)/2) λmid hmid=>?_;intro g2 g1 hp hst;revert hst;revert hp;refine cn (x%2^((mid - L)*n)) λlower hlo=>?_;intro hp hst;revert hst;revert hp;refine cn (x/2^((mid - L)*n)) λupper hup=>?_;intro hp hst;have hlo2:lower<2^65536:=by refine aH hlo ?_;exact eN (Nat.mod_le _ _) hx
   have hup2:upper<2^65536:=by refine aH hup ?_;exact eN (uD _ _) hx
   refine sb ?_;refine (?_:aq _ _ (dw ([s2,s3,s4,s5]++[.Expr (.Call (.Name bn q6) a1 [] q7) q8,.Expr (.Call (.Name bn q9) a2 [] q10) q11]) env) _ _ _);refine BO [s2,s3,s4,s5] _ _ ?_;refine aA ((qp OK Rb2 12).2 fd.scope env σ [] [l] _ _ t3 hp S3 V3) (λfl t4 h4'=>?_) λζ ζ f=>f.elim;obtain ⟨rfl,own4,S4,k4,o4,V4'⟩:=h4';have V4:=V4'.own0 (hus _ _ _ _);have fresh3:∀b∈aV fd.scope env [],∀o,t3.heap.get? b=some o->b≠l/\b≠f/\b≠c1/\b≠c2/\b≠c3/\h8 o:=λb hb o e=>by refine ty (MO I (fresh b hb)) λa1 a2 a3 a4 a5=>?_;refine tR a1 a2 a3 a4 a5 ?_;have hloc:=F.cellNe V3 hcell hb;obtain ⟨m,oF,es,ep,eF,hdF,_⟩:=V3.ns;replace e:=hloc▸e;replace e:=eF▸e;have h_:=aj e;clear e;subst h_;exact .inr λvs q=>by replace q:=hdF▸q;cases q
   have I4:=I3.step S4 k4 fresh3;have k04:af [l] s t4:=af.more k03 k4 k03.gsz λy hy=>.inr (fresh y hy);have lm:(put (put (put (put σ ce (.sh (.int (mid:Int)))) dK (.sh (.int (((mid - L)*n:Nat):Int)))) gG (.sh (.int (upper:Int)))) gZ (.sh (.int (lower:Int)))).lookup ce=some (.sh (.int (mid:Int))):=by refine au (by decide) ?_;refine au (by decide) ?_;refine au (by decide) ?_;exact aM
   have lu:(put (put (put (put σ ce (.sh (.int (mid:Int)))) dK (.sh (.int (((mid - L)*n:Nat):Int)))) gG (.sh (.int (upper:Int)))) gZ (.sh (.int (lower:Int)))).lookup gG=some (.sh (.int (upper:Int))):=by refine au (by decide) ?_;exact aM
   have lw:(put (put (put (put σ ce (.sh (.int (mid:Int)))) dK (.sh (.int (((mid - L)*n:Nat):Int)))) gG (.sh (.int (upper:Int)))) gZ (.sh (.int (lower:Int)))).lookup gZ=some (.sh (.int (lower:Int))):=by exact aM
   have lL:(put (put (put (put σ ce (.sh (.int (mid:Int)))) dK (.sh (.int (((mid - L)*n:Nat):Int)))) gG (.sh (.int (upper:Int)))) gZ (.sh (.int (lower:Int)))).lookup nL=some (.sh (.int (L:Int))):=by refine au (by decide) ?_;refine au (by decide) ?_;refine au (by decide) ?_;refine au (by decide) ?_;exact l2
   have lR:(put (put (put (put σ ce (.sh (.int (mid:Int)))) dK (.sh (.int (((mid - L)*n:Nat):Int)))) gG (.sh (.int (upper:Int)))) gZ (.sh (.int (lower:Int)))).lookup nR=some (.sh (.int (R:Int))):=by refine au (by decide) ?_;refine au (by decide) ?_;refine au (by decide) ?_;refine au (by decide) ?_;exact l3
   revert V4;revert lm;revert lu;revert lw;revert lL;revert lR;refine aX (put (put (put (put σ ce (.sh (.int (mid:Int)))) dK (.sh (.int (((mid - L)*n:Nat):Int)))) gG (.sh (.int (upper:Int)))) gZ (.sh (.int (lower:Int)))) λσ4=>?_;intro lR lL lw lu lm V4;have hA1:=H.ha1 O σ4 lower L mid lw lL lm;have hA2:=H.ha2 O σ4 upper mid R lu lm lR;refine bR I4.ls λvs4 kk4 hl4 rl4=>?_;refine (?_:aq _ _ (dw [.Expr (.Call (.Name bn q6) a1 [] q7) q8,.Expr (.Call (.Name bn q9) a2 [] q10) q11] env) _ _ t4);refine gQ (yw ?_ hint rfl);refine (?_:aq _ _ (aG (.Name bn q6) env>>=λg=>iH q7 g [] (bZ q7 (bY a1 env)) []) _ _ t4);refine ak (iM V4 (F.val2 V4 hcell I4.k2) hnn ?_);refine ah I4.fo λo4 ho4 hd4=>?_;refine qW ho4 hd4 (jE hA1) (gU (dP OK Rb2 12) hA1 S4 V4) λvs t5 S5 k5 r5=>?_;have I5:=I4.step S5 k5 (λb hb=>nomatch hb);refine aA (ih (A.deeper env) t5 ds lower L mid vs g1 (al (dE (by assumption)) (by assumption)) (ul h1 h3 hLR hmid) (al (dE (by assumption)) (by assumption)) hlo2 Rb I5 (fX (uh _ _ _) r5)) (λv t6 h_5=>aI h_5 λhv I6 k6=>?_) λζ ζ f=>f.elim;subst hv;have k46:af [l] t4 t6:=k5.nil.trans k6;refine bR I6.ls λvs6 kk6 hl6 rl6=>?_;have V6:am X fd.scope env σ4 [] [l] t6.heap:=V4.moveL hl4 k46 hl6;refine gQ (yw ?_ hint rfl);refine (?_:aq _ _ (aG (.Name bn q9) env>>=λg=>iH q10 g [] (bZ q10 (bY a2 env)) []) _ _ t6);refine ak (iM V6 (F.val2 V6 hcell I6.k2) hnn ?_);refine ah I6.fo λo6 ho6 hd6=>?_;refine qW ho6 hd6 (jE hA2) (gU (dP OK Rb2 12) hA2 I6.S V6) λvs t7 S7 k7 r7=>?_;have I7:=I6.step S7 k7 (λb hb=>nomatch hb);refine aA (ih (A.deeper env) t7 _ upper mid R vs g2 (by rw[uw];exact h2) (qr h1 h3 hLR hmid g1) h4 hup2 Rb I7 (fX (uh _ _ _) r7)) (λv t8 h_6=>aI h_6 λhv I8 k8=>?_) λζ ζ f=>f.elim;subst hv;exact sb (hQ _ _ ⟨rfl,hst▸I8,(k04.trans k46).trans (k7.nil.trans k8)⟩)
end
section
variable {X:Cx} {A:aO} {s s':ae} {env:Env} {sc:Scope} {σ σ':Sg} {own:List (Str×Addr)} {P W:List Addr} {O:Orc}
theorem Jc {M:se} {E:Value->ae->Prop} {n:Int} {t:df} {pl:bw Bool} {Q:Value×List Value->ae->Prop} (h:Q (.builtin "int.bit_length",[.int n t]) s):aq M A (mI (.int n t) "bit_length" pl) Q E s:=by
 with_reducible exact Q4 (x4 _ _ _) F.plainAttrs_int Rv F.type_int_bit_length (λζ e=>nomatch e) h
theorem HM {E:Value->ae->Prop} {n:Int} {t:df} {Q:Value->ae->Prop} (h:Q (.int (bX n:Nat) s.toks) {s with toks:=s.toks+1}):aq (aw X.prog X.w) A (call (.builtin "int.bit_length") [.int n t]) Q E s:=
 Qf Rv (x4 s n t) F.entry_int_bit_length (F.args_int_bit_length_1 _) (Te n t) h
theorem Gp {o:ab} {apos pos:Pos} {x:Int} (h0:ke o=false) (hp:(apos.endLine==pos.line)=true) (S:ai X s) (h1:Ev X A s (aG o env) (λv s'=>ao W s'.heap (.int x) v)):Ev X A s (aG (.Call (.Attribute o (ag "bit_length") apos) [] [] pos) env) (λv s'=>ao W s'.heap (.int (bX x:Nat)) v):=by
 refine ss (id:= "int.bit_length") (Q:=λvs ζ=>vs=[]) h0 hp (by decide) (λe he=>nomatch he) h1 (λov s1 pl Q ζ ζ r1 q=>?_) (λov s' S' k' ζ=>Ev.pure S' rfl) λov vs s1 s2 S1 k1 r1 S2 k2 r2=>?_
 ·refine aE r1 λt e1_=>?_;clear r1;subst e1_;exact Jc q
 ·subst r2;refine aE r1 λt e1_=>?_;clear r1;subst e1_;exact HM ⟨S2.tok,af.toks,⟨_,rfl⟩⟩
noncomputable def i7 (cells:List (Str×Addr)):List (Str×fK)->List (Str×Addr)->List (Str×Addr)
 |[],acc=>acc
 |(x,k)::r,acc=>if k==.free then i7 cells r ((x,(cells.lookup x).getD 0)::acc) else i7 cells r acc
theorem E4 {cells x k r acc}:i7 cells ((x,k)::r) acc=if k==.free then i7 cells r ((x,(cells.lookup x).getD 0)::acc) else i7 cells r acc:=rfl
theorem EM {scope:Scope} (h:∀x,(x,jx)∈scope.names->∃c,env.cells.lookup x=some c):rY scope env=pure (i7 env.cells scope.names []):=by
 simp only[rY];have key:∀(names:List (Str×fK)) (acc:List (Str×Addr)),(∀x,(x,jx)∈names->∃c,env.cells.lookup x=some c)->
   (lA names acc λx (__s:List (Str×Addr))=>
    if (x.snd==jx)=true then do
     let __do_lift <- rZ env x.fst
     pure (mN ((x.fst,__do_lift)::__s))
    else pure (mN __s))=(pure (i7 env.cells names acc):bw _):=by
  intro names
  induction names with
  |nil=>intro acc _;rfl
  |cons y r ih=>
   intro acc hn;obtain ⟨y,k⟩:=y;rw[rS];refine aa E4 ?_
   by_cases hk:(k==jx)=true
   ·simp only[hk,if_true];have hk':=bh hk;subst hk';refine aE (hn y (.head _)) λc hc=>?_;have e:rZ env y=pure c:=by unfold rZ;exact aa hc rfl
    refine aa e (aa hc ?_);exact ih _ λx hx=>hn x (.tail _ hx)
   ·simp only[hk,if_false,ey];exact ih _ λx hx=>hn x (.tail _ hx)
 refine aa (key scope.names [] h) ?_;rfl
theorem am.weak {h:Heap} (V:am X sc env σ [] P h) (hw:∀x e,σ'.lookup x=some e->σ.lookup x=some e):am X sc env σ' [] P h:=
 {V with
  vars:=λx d e=>V.vars x d (hw x _ e)
  owns:=λx xs e=>V.owns x xs (hw x _ e)}
theorem am.flatP {h:Heap} {P':List Addr} (V:am X sc env σ [] P h) (hf:jB σ) (hP:∀b∈P',∃o,h.get? b=some o/\cK o=false):am X sc env σ [] P' h:=
 {V with
  vars:=λx d e=>by
   refine ah (V.vars x d e) λv h1 h2=>?_
   refine ah (hf x _ e) λd' q hd=>?_
   cases q
   exact az v h1 (h2.flat hd)
  owns:=λx xs e=>by refine ah (hf x _ e) λd q ζ=>?_;cases q
  pin:=hP
  ownP:=λx a q=>nomatch q}
theorem Bi {x:Str} {v:Value} {Q:Unit->ae->Prop} (S:ai X s) (V:am X sc env σ [] P s.heap) (hx:bb sc x=true) (hn:σ.lookup x=none) (h:∀s',ai X s'->af (aV sc env []) s s'->am X sc env σ [] P s'.heap->dO env s'.heap x v->(∀z u,z≠x->dO env s.heap z u->dO env s'.heap z u)->
   (∀b o,s.heap.get? b=some o->(∃its n,o.data=.seq its n)->s'.heap.get? b=some o)->Q () s'):aq (aw X.prog X.w) A (jU env x v) Q (λζ ζ=>False) s:=by
 refine tl V hx λh' tk a ha hs hv hz hns hcel ho=>?_;have hex2:∃o,h'.get? a=some o/\cK o=false:=by
  rcases av.mp ha with q|q
  ·obtain ⟨m,o,_,_,e,hd,_⟩:=hns;exact az o (q▸e) (fy λvs z=>by replace z:=hd▸z;cases z)
  ·refine ah (er q) λy hm ζ=>?_;refine bR (hcel y _ hm) λv o e hd=>?_;exact az o e (fy λvs z=>by replace z:=hd▸z;cases z)
 have hfr:X.h0.get? a=none:=by
  rcases av.mp ha with q|q
  ·exact q▸V.fl
  ·refine ah (er q) λy hm ζ=>?_;exact V.fc y _ hm
 have hkb:Kb [a] s.heap h':=λb o hb ζ e=>(hs.2 b (λq=>hb (cN.mpr (by assumption)))).trans e;have haW:a∈aV sc env []:=by
  unfold aV;rcases av.mp ha with q|q
  ·exact av.mpr (.inl q)
  ·exact cg _ (bI _ q)
 refine h _ (S.same hfr (λo e=>(ho o e).1) hs) (af.but haW hs (ah hex2 λo e ζ=>⟨o,e⟩)) ?_ hv hz (λb o e h_0=>jJ h_0 λits n hd=>(hs.2 b (λq=>(ho _ (q▸e)).2 _ _ hd)).trans e)
 exact {V with
  ns:=hns
  pin:=λc hc=>by
   by_cases q:c=a
   ·exact q▸hex2
   ·refine ah (V.pin c hc) λo e ht=>?_;exact az o ((hs.2 c q).trans e) ht
  cells:=hcel
  vars:=λz d' e=>by refine ah (V.vars z d' e) λu h1 h2=>?_;exact az u (hz z u (λq=>by rw[q,hn] at e;exact ac e) h1) (ao.kb hkb (λb hb=>.inr (.inr λo e=>(ho o (by simp at hb;exact hb▸e)).2)) (λb hb=>.inl hb) d' u h2)
  owns:=λz xs e=>by refine jQ (V.owns z xs e) λa vs n h1 ζ=>?_;exact ac h1
  ownF:=λx a e=>nomatch e}
end
noncomputable abbrev nA:Str:=ag "a"
structure nh (ps:List Str) (params:sg) (isc:Scope) (ibody:List aL) (n1 n2 n3:Str):Prop where
 co:isc.isCoroutine=false
 ge:isc.isGenerator=false
 kd:isc.kind=.function
 nd:gg isc.names=true
 nm:∀x k,(x,k)∈isc.names->cw x=true
 pst:∀p∈ps,bb isc p=true
 bind:∀(qual:Str) (clos:List (Str×Addr)) (doc pm ct cv:Value) (vs:List Value),vs.length=ps.length->lC (fnX n2 qual params ibody isc clos .none .none doc pm none cv ct) ⟨vs,[]⟩=pure (ps.zip vs)
 fr:∀x,isc.names.lookup x=some .free->x=n1\/x=n2\/x=n3
 f1:isc.names.lookup n1=some .free
 f2:isc.names.lookup n2=some .free
 f3:isc.names.lookup n3=some .free
 noc:∀x,(x,pG)∉isc.names
 n12:n1≠n2
 n13:n1≠n3
 n23:n2≠n3
 clo:∀cells,i7 cells isc.names []=[(n1,(cells.lookup n1).getD 0),(n2,(cells.lookup n2).getD 0),(n3,(cells.lookup n3).getD 0)]
 doc:docOf ibody=none
 d0:params.defaults=[]
 k0:params.kw_defaults=[]
 an:∀env,annTrees params none env=[]
section
variable {X:Cx} {A:aO} {s s':ae} {env:Env} {sc:Scope} {σ σ':Sg} {own:List (Str×Addr)} {P W:List Addr} {O:Orc} {k:Nat}
theorem mn.en {fa:Addr} {fd:gz} {ps:List Str} {body:List aL} (F:mn X fa fd ps body) (S:ai X s):qo X s fd ps body W []:=
 {gl:=F.gl,bi:=F.bi,bd:=F.bd,co:=F.co,ge:=F.ge,kd:=F.kd,nd:=F.nd,nm:=F.nm,pst:=F.pst,bind:=F.bind,cd:=F.cd s.heap S.old
  c1:=λx c h=>by replace h:=F.cl▸h;cases h
  c2:=λx y c h=>by replace h:=F.cl▸h;cases h
  c3:=λx hx=>absurd hx (F.nf x)
  hv:=λx e h=>nomatch h}
theorem pv {x:Str} {v:Value} {c:Addr} {h:Heap} (V:am X sc env σ own P h) (hx:ed sc x=true) (hc:env.cells.lookup x=some c) (r:dO env h x v):h.IsCell c (some v):=by
 have:=(V.cel x hx).1;rcases r with ⟨h1,_⟩|⟨_,c',e,h2⟩
 ·replace this:=h1▸this;rcases this with q|q<;>cases q
 ·replace e:=hc▸e;have h_:=aj e;clear e;subst h_;exact h2
theorem nh.fd3 {ps:List Str} {params:sg} {isc:Scope} {ibody:List aL} {n1 n2 n3:Str} (I:nh ps params isc ibody n1 n2 n3) {h:Heap} (V:am X sc env σ own P h) {c1 c2 c3:Addr} (h1:env.cells.lookup n1=some c1) (h2:env.cells.lookup n2=some c2) (h3:env.cells.lookup n3=some c3) (qual:Str) (doc pm ct cv:Value):ii X (fnX n2 qual params ibody isc (i7 env.cells isc.names []) .none .none doc pm none cv ct) ps ibody n1 n2 n3 c1 c2 c3:=
 {gl:=rfl,bi:=rfl,bd:=rfl,co:=I.co,ge:=I.ge,kd:=I.kd,nd:=I.nd,nm:=I.nm,pst:=I.pst,bind:=I.bind _ _ _ _ _ _,fr:=I.fr,f1:=I.f1,f2:=I.f2,f3:=I.f3,noc:=I.noc,n12:=I.n12,n13:=I.n13,n23:=I.n23
  cl:=by refine (?_:i7 env.cells isc.names []=_);rewrite[I.clo];refine aa h1 (aa h2 (aa h3 ?_));rfl
  d12:=λq=>I.n12 (V.apart n1 n2 c1 (cm h1) (q▸cm h2))
  d13:=λq=>I.n13 (V.apart n1 n3 c1 (cm h1) (q▸cm h3))
  d23:=λq=>I.n23 (V.apart n2 n3 c2 (cm h2) (q▸cm h3))
  h1:=V.fc n1 c1 (cm h1)
  h2:=V.fc n2 c2 (cm h2)
  h3:=V.fc n3 c3 (cm h3)}
theorem BD (V:am X sc env σ [] P s.heap) {b:Addr} (hb:b∈aV sc env []) {o:ek} (e:s.heap.get? b=some o):h8 o:=by
 unfold aV at hb;rcases av.mp hb with q|q
 ·obtain ⟨m,oF,es,ep,eF,hdF,_⟩:=V.ns;rw[q,eF] at e;have h_:=aj e;clear e;subst h_;exact .inr λvs z=>by replace z:=hdF▸z;cases z
 ·rcases bo.mp q with q|q
  ·refine ah (er q) λx hm ζ=>?_;refine bR (V.cells x b hm) λv o' e' hd=>?_;replace e:=e'▸e;have h_:=aj e;clear e;subst h_;exact .inr λvs z=>by replace z:=hd▸z;cases z
  ·exact nomatch q
theorem Ac {ps:List Str} {params:sg} {isc:Scope} {ibody:List aL} {n1 n2 n3:Str} (I:nh ps params isc ibody n1 n2 n3) {q:Tb} {q3:Pos} {Q:fk->ae->Prop} (S:ai X s) (V:am X sc env σ [] P s.heap) (T:jO X q) (hcode:env.code=.ref q.c) (hpos:q.pos=q3) (hqual:q.qual=D4 env n2 n2) (hcel:∀x,x=n1\/x=n2\/x=n3->ed sc x=true) (hst:bb sc n2=true) (hn:σ.lookup n2=none) (h:∀t5 s' f doc pm ct cv,ai X t5->af [] s t5->am X sc env σ [] P t5.heap->s.heap.get? f=none->ai X s'->af (aV sc env []) t5 s'->am X sc env σ [] P s'.heap->dO env s'.heap n2 (.ref f)->
   (∃o,s'.heap.get? f=some o/\o.data=.func (fnX n2 q.qual params ibody isc (i7 env.cells isc.names []) .none .none doc pm none cv ct))->ir s'.heap cv q.qual->
   (∀z u,z≠n2->dO env s.heap z u->dO env s'.heap z u)->(∀b o,s.heap.get? b=some o->(∃its n,o.data=.seq its n)->s'.heap.get? b=some o)->Q .next s'):aq (aw X.prog X.w) A (dR (.FunctionDef n2 params ibody [] none [] isc none n2 q3) env) Q (λζ ζ=>False) s:=by
 have hcl:rY isc env=pure (i7 env.cells isc.names []):=EM λx hx=>by have:isc.names.lookup x=some .free:=lT I.nd hx;exact (V.cel x (hcel x (I.fr x this))).2
 have hc3:=I.clo env.cells;refine nestDef_K I.d0 I.k0 (I.an env) ?_;refine OC S T (aa hcl (aa hc3 rfl)) V.glob hcode hpos hqual I.doc λt5 f doc pm ct cv S5 k5 hfn hf hcd=>?_;have V5:=V.keep k5.kb;refine Bi S5 V5 hst hn λt6 S6 k6 V6 hval hz hseq=>?_;rw[<- hqual] at hf hcd;refine h t5 t6 f doc pm ct cv S5 k5 V5 hfn S6 k6 V6 hval ⟨_,k6.kb f _ (λz=>?_) rfl hf,?_⟩ (hcd.kb k6.kb λb hb o e=>BD V5 hb e) (λz u hne r=>hz z u hne (r.keep k5.kb)) λb o e hd=>hseq b o (k5.kb b o (λz=>nomatch z) (fy λvs z=>by refine jJ hd λζ ζ y=>?_;clear hd;replace z:=y▸z;cases z) e) hd
 ·refine ah (V.wenv_in f z) λo e ζ=>?_;replace e:=hfn▸e;exact ac e
 ·exact aa hc3 rfl
end
noncomputable def cD (a n:Nat):Nat:=(bX (a:Int)+n - 1)/n
structure Al (sc:Scope) (e1 t:ab) (a1:List ab):Prop where
 hE:∀(X:Cx) (A:aO) (s:ae) (env:Env) (σ:Sg) (W:List Addr) (O:Orc) (a n:Nat),bq X O 0->aK A 2->ai X s->am X sc env σ [] W s.heap->σ.lookup nA=some (.sh (.int a))->σ.lookup nN=some (.sh (.int n))->1<=n->cD a n<=128->a<2^65536->n<=512->
  Ev X A s (aG e1 env) (λv s'=>wh s W (fH (cD a n) (.int 0)) v s')
 hT:∀O σ (a:Nat),σ.lookup nA=some (.sh (.int a))->pT O 12 sc σ t=some (decide (a≠0))
 ha:∀O σ (a k:Nat),σ.lookup nA=some (.sh (.int a))->σ.lookup dj=some (.sh (.list (fH k (.int 0))))->aY (pe O 12 sc σ) a1=some [.int a,.int 0,.int k]
 cf:xI e1=false
 s1:bb sc dj=true
 s2:bb sc bn=true
 i1:ed sc nN=true
 i2:ed sc bn=true
 i3:ed sc dj=true
 ok1:cw bn=true
 ok2:cw dj=true
 ng:(sc.names.lookup bn==some yA)=false
section
variable {X:Cx} {A:aO} {s s':ae} {W:List Addr} {O:Orc} {k:Nat}
theorem am.add {sc:Scope} {env:Env} {σ:Sg} {P:List Addr} {h:Heap} {x:Str} {d:PV} {v:Value} (V:am X sc env σ [] P h) (hv:dO env h x v) (r:ao P h d v):am X sc env (put σ x (.sh d)) [] P h:=
 {V with
  vars:=λz d' e=>by
   rw[dp] at e
   split at e
   ·rename_i q;cases e;exact az v (q▸hv) (by rw[lg];exact r)
   ·exact V.vars z d' e
  owns:=λz xs e=>by
   rw[dp] at e
   split at e
   ·cases e
   ·exact V.owns z xs e}
theorem HA {a n:Nat} (ha:a≠0) (h1:1<=n):0<cD a n:=by
 have hbits:=u7.mp (bf (bX (a:Int)));have hpos':0<bX (a:Int):=by
  rcases Nat.eq_zero_or_pos (bX (a:Int)) with z|z
  ·replace hbits:=z▸hbits;simp at hbits;exact absurd (by assumption) (by assumption)
  ·exact z
 unfold cD;exact Nat.div_pos (NX h1 hpos') (x8 (by assumption))
theorem Jy {a n:Nat} (h1:1<=n):a<2^((cD a n - 0)*n):=by
 have hbits:=u7.mp (bf (bX (a:Int)));have hle:bX (a:Int)<=cD a n*n:=by unfold cD;have:=Nat.lt_div_mul_add (a:=bX (a:Int)+n - 1) (b:=n) (x8 (by assumption));exact Ly h1 this
 have h5:a<2^bX (a:Int):=by simpa using hbits
 exact b9 h5 (yB (ve _) hle)
theorem Oz {n:Nat} (h1:1<=n):cD 0 n=0:=by unfold cD;refine (?_:(0+n - 1)/n=0);exact yz (Ix h1)
theorem Lb {fa:Addr} {fd:gz} {params:sg} {isc:Scope} {e1 t0 t ex eL:ab} {s2 s3 s4 s5:aL} {a1 b1 b2:List ab} {q:Tb} {q1 q2 q3 q4 q5 q6 q7 q8 q9 p1 p2 p3 p4 p5 p6 p7 p8 p9 p10 p11:Pos} {vs:List Value} {a n:Nat} (F:mn X fa fd [nA,nN] [.Assign [.Name dj q1] e1 q2,.FunctionDef bn params (.If t [.Assign [.Subscript (.Name dj p1) eL p2] ex p3,.Return none p4] [] p5::s2::s3::s4::s5::.Expr (.Call (.Name bn p6) b1 [] p7) p8::.Expr (.Call (.Name bn p9) b2 [] p10) p11::[]) [] none [] isc none bn q3,
   .If t0 [.Expr (.Call (.Name bn q4) a1 [] q5) q6] [] q7,.Return (some (.Name dj q8)) q9]) (U:Al fd.scope e1 t0 a1) (I:nh [fQ,nL,nR] params isc (.If t [.Assign [.Subscript (.Name dj p1) eL p2] ex p3,.Return none p4] [] p5::s2::s3::s4::s5::.Expr (.Call (.Name bn p6) b1 [] p7) p8::.Expr (.Call (.Name bn p9) b2 [] p10) p11::[]) nN bn dj) (H:wY isc t ex eL s2 s3 s4 s5 b1 b2) (hsw:∀env q,sa ex (some (.Subscript (.Name dj p1) eL p2)) q env=pure false) (T:jO X q) (hcode:fd.code=.ref q.c) (hpos:q.pos=q3) (hqual:q.qual=fd.qualname++ ".<locals>." ++bn) (OK:bq X O 0) (h1:1<=n) (h2:cD a n<=128) (h3:a<2^65536) (h4:n<=512) (R:aK A 140) (S:ai X s) (w:cy W s.heap) (r:ax W s.heap [.int a,.int n] vs):Ev X A s (call (.ref fa) vs) (λv s'=>ao W s'.heap (.list ((eP n (cD a n) a).map .int)) v):=by
 refine bB F.ho λo ho hcl hd=>?_;have hof:=S.old.get_of_cls ho (by refine aa hcl ?_;nofun);refine tE (F.en S) hof hd (as:=[.int a,.int n]) rfl R.depth S w r λenv t2 V2 S2 k2 fresh hint hec hce heq hes=>?_;have Rb:aK (A.deeper env) 139:=(show aK A (139+1) from R).deeper env;have Rb2:aK (A.deeper env) (0+2):=Rb.mono (dv _ _);have l1:(bP [] ([nA,nN].zip ([PV.int a,.int n].map .sh))).lookup nA=some (.sh (.int a)):=rfl;have l2:(bP [] ([nA,nN].zip ([PV.int a,.int n].map .sh))).lookup nN=some (.sh (.int n)):=rfl;have l3:(bP [] ([nA,nN].zip ([PV.int a,.int n].map .sh))).lookup dj=none:=rfl;have l4:(bP [] ([nA,nN].zip ([PV.int a,.int n].map .sh))).lookup bn=none:=rfl;have fl:jB (bP [] ([nA,nN].zip ([PV.int a,.int n].map .sh))):=kY (kY (σ:=[]) (λy e q=>nomatch q) rfl) rfl;revert V2;revert l1;revert l2;revert l3;revert l4;revert fl;refine aX (bP [] ([nA,nN].zip ([PV.int a,.int n].map .sh))) λσ=>?_;intro fl l4 l3 l2 l1 V2;refine gQ (Q0 (aA (U.hE X _ t2 env σ W O a n OK Rb2 S2 V2 l1 l2 h1 h2 h3 h4) (λv t3 h_=>aI h_ λS3 k3 h_=>i5 h_ λl lvs lk h_=>ty h_ λe hln hl hlen rl=>?_) λζ ζ f=>f.elim) (Bo U.cf));subst e;have V3:=V2.keep k3.kb;have hlW:l∉W:=λz=>by refine ah (w.step k2 l z) λo e ζ=>?_;replace e:=hln▸e;exact ac e
 have hl0:X.h0.get? l=none:=S2.fresh hln;refine Bi S3 V3 U.s1 l3 λt4 S4 k4 V4 hval4 hz4 hseq4=>?_;have hl4:=hseq4 l _ hl ⟨_,_,rfl⟩;have rl4:ax (l::W) t4.heap (fH (cD a n) (.int 0)) lvs:=fX (λd hd=>by refine aa (yC hd) ?_;rfl) rl;refine gQ ?_
 refine Ac I S4 V4 T (hec.trans hcode) hpos (by refine aa hqual ?_;unfold D4;rw[show env.kindOf bn=fd.scope.names.lookup bn by (refine (?_:env.scope.names.lookup bn=_);exact aa hes rfl)];refine aa U.ng (aa heq ?_);rfl) (λx hx=>by
  rcases hx with rfl|rfl|rfl
  ·exact U.i1
  ·exact U.i2
  ·exact U.i3) U.s2 l4 λt5 t6 f doc pm ct cv S5 k5 V5 hfn S6 k6 V6 hval6 hf6 hcd6 hz6 hseq6=>?_
 have hl6:=hseq6 l _ hl4 ⟨_,_,rfl⟩;have hvalA:dO env t6.heap dj (.ref l):=hz6 dj _ (by decide) hval4;have rl6:ax (l::W) t6.heap (fH (cD a n) (.int 0)) lvs:=fX (λd hd=>by refine aa (yC hd) ?_;rfl) rl;have V6a:=V6.add hvalA (d:=.list (fH (cD a n) (.int 0))) ⟨l,lvs,rfl,hlW,⟨lk,hl6⟩,hlen,rl6.sub λb hb=>cg _ hb⟩;have m1:(put σ dj (.sh (.list (fH (cD a n) (.int 0))))).lookup nA=some (.sh (.int a)):=by refine au (by decide) ?_;exact l1
 have m3:(put σ dj (.sh (.list (fH (cD a n) (.int 0))))).lookup dj=some (.sh (.list (fH (cD a n) (.int 0)))):=aM;have wk:∀x e,σ.lookup x=some e->(put σ dj (.sh (.list (fH (cD a n) (.int 0))))).lookup x=some e:=λx e he=>by rw[dp,if_neg (λz=>by (replace he:=z▸he;replace he:=l3▸he);exact ac he)];exact he
 refine aE ((V6.cel nN U.i1).2) λc1 hc1=>?_;refine aE ((V6.cel bn U.i2).2) λc2 hc2=>?_;refine aE ((V6.cel dj U.i3).2) λc3 hc3=>?_;refine ah (V6.vars nN _ l2) λvN hvN rN=>?_;obtain ⟨tN,rfl⟩:=rN;have fd3:=I.fd3 (X:=X) V6 hc1 hc2 hc3 q.qual doc pm ct cv;have I6:iU X _ f l c1 c2 c3 n (fH (cD a n) 0) t6:=
  {S:=S6,k1:=⟨tN,pv V6 U.i1 hc1 hvN⟩,k2:=pv V6 U.i2 hc2 hval6,k3:=pv V6 U.i3 hc3 hvalA,fo:=hf6,cd:=hcd6
   ls:=⟨lvs,lk,hl6,by refine aa List.map_replicate ?_;exact fX (λd hd=>by refine aa (yC hd) ?_;rfl) rl⟩}
 have k26:af [] s t6:=by have a1:af [] s t3:=k2.trans k3;have a2:af [] s t4:=af.more a1 k4 a1.gsz λy hy=>.inr (fresh y hy);have a3:af [] s t5:=a2.trans k5;exact af.more a3 k6 a3.gsz λy hy=>.inr (fresh y hy)
 have hls:s.heap.get? l=none:=k2.none hln;refine gQ ?_;refine aa qw ?_;refine ak (eb (ak (aA (kF OK Rb2 12 _ _ env [] W t0 _ t6 (U.hT O _ a m1) S6 V6a) (λc t7 h_1=>aI h_1 λS7 k7 e7=>?_) λζ ζ f=>f.elim)));subst e7;have V7a:=V6a.keep k7.kb;have I7:=I6.step S7 k7 (λb hb=>nomatch hb);have hvalA7:=hvalA.keep k7.kb
 by_cases ha0:a=0
 ·rw[if_neg (by simpa using ha0)];refine sb (gQ (sd (iM V7a hvalA7 U.ok2 ?_)));have e0:cD a n=0:=by refine aa ha0 ?_;exact Oz h1
  refine bR I7.ls λvs7 lk7 hl7 rl7=>?_;refine⟨S7,k26.trans k7,l,vs7,rfl,hlW,⟨lk7,hl7⟩,by have:=rl7.length;simp[e0] at this;simp[this],?_⟩;rw[e0] at rl7 ⊢;exact fX tM rl7
 ·rw[if_pos (by simpa using ha0)];refine gQ (yw ?_ hint rfl);refine (?_:aq _ _ (aG (.Name bn q4) env>>=λg=>iH q5 g [] (bZ q5 (bY a1 env)) []) _ _ t7);refine ak (iM V7a (hval6.keep k7.kb) U.ok1 ?_);have hA:=U.ha O _ a (cD a n) m1 m3;refine ah I7.fo λo7 ho7 hd7=>?_;refine qW ho7 hd7 (jE hA) (gU (dP OK Rb2 12) hA S7 V7a) λvs8 t8 S8 k8 r8=>?_;have I8:=I7.step S8 k8 (λb hb=>nomatch hb);have hk0:=HA ha0 h1;have hax:=Jy (a:=a) h1;refine aA (Kn fd3 H hsw OK hl0 U.ok1 U.ok2 h4 (cD a n) (A.deeper env) t8 _ a 0 (cD a n) vs8 hk0 (by simp) (kt _ _) h2 h3 (Rb.mono (Ad h2)) I8 (fX (uh _ _ _) r8)) (λv t9 h_2=>aI h_2 λhv I9 k9=>?_) λζ ζ f=>f.elim;subst hv;rw[vZ _ _ _ _ _ _ hk0 (by simp) (kt _ _) hax] at I9;simp only[yD,uX,D5,List.drop_replicate,D6,List.replicate_zero,jw] at I9;refine bR I9.ls λvs9 lk9 hl9 rl9=>?_;refine bR I8.ls λvs8 lk8 hl8 ζ=>?_;have V8:=((V7a.keep k8.kb).weak (σ':=σ) wk).flatP fl (P':=[l]) (λb hb=>cN.mp hb▸⟨_,hl8,rfl⟩);have V9:am X fd.scope env σ [] [l] t9.heap:=V8.moveL hl8 k9 hl9;refine sb (gQ (sd (iM V9 (.inr ⟨(V9.cel dj U.i3).1,c3,hc3,I9.k3⟩) U.ok2 ?_)));have k08:af [] s t8:=(k26.trans k7).trans k8;refine⟨I9.S,af.more k08 k9 k08.gsz (λy hy=>.inr (cN.mp hy▸hls)),l,vs9,rfl,hlW,⟨lk9,hl9⟩,?_,fX tM rl9⟩;have:=rl9.length;refine aa this ?_;rw[bx,tP];exact al h2 (by decide)
end
noncomputable abbrev cT:Str:=ag "digits"
noncomputable def bl (n:Nat):List Nat->Nat
 |[]=>0
 |d::r=>d+bl n r*2^n
theorem xv {n}:bl n []=0:=rfl
theorem w6 {n d r}:bl n (d::r)=d+bl n r*2^n:=rfl
theorem sJ (n:Nat):∀a b:List Nat,bl n (a++b)=bl n a+bl n b*2^(a.length*n)
 |[],b=>by simp[xv,w6]
 |d::a,b=>by refine (?_:d+bl n (a++b)*2^n=d+bl n a*2^n+bl n b*2^((a.length+1)*n));refine aa (sJ n a b) ?_;rw[kD,kD,og,u8,D7,mA]
theorem qY (n:Nat):∀a:List Nat,(∀d∈a,d<2^n)->bl n a<2^(a.length*n)
 |[],_=>by simp[xv,w6]
 |d::a,h=>by
  have h1:=h d (.head _);have h2:=qY n a λx hx=>h x (.tail _ hx);refine (?_:d+bl n a*2^n<2^((a.length+1)*n));rw[kD,og,u8]
  calc d+bl n a*2^n<2^n+bl n a*2^n:=Nat.add_lt_add_right (by assumption) _
   _=(bl n a+1)*2^n:=by rw[kD,og,iW]
   _<=2^(a.length*n)*2^n:=rJ _ h2
noncomputable def gT:Nat->Nat->Nat->Nat->List Nat->Nat
 |0,_,_,_,_=>0
 |m+1,n,L,R,ds=>if L+1=R then ds.getD L 0 else gT m n ((L+R)/2) R ds*2^(((L+R)/2 - L)*n)+gT m n L ((L+R)/2) ds
theorem vw {m n L R ds}:gT (m+1) n L R ds=if L+1=R then ds.getD L 0 else gT m n ((L+R)/2) R ds*2^(((L+R)/2 - L)*n)+gT m n L ((L+R)/2) ds:=rfl
theorem uA:∀m n L R (ds:List Nat),L<R->R<=ds.length->R - L<=m->gT m n L R ds=bl n ((ds.drop L).take (R - L))
 |0,n,L,R,ds,h,_,h2=>I0 h h2
 |m+1,n,L,R,ds,h,hR,h2=>by
  refine aa vw ?_
  split
  ·rename_i e;have e1:R - L=1:=CE e;have hlt:L<ds.length:=b9 (by assumption) (by assumption);have e2:(ds.drop L).take 1=[ds[L]]:=by refine aa (lz hlt) ?_;rfl
   rw[e1,e2];simp[xv,w6,uJ,hlt]
  ·rename_i hne;have g1:L<(L+R)/2:=ri h hne;have g2:(L+R)/2<R:=nz h hne;revert g1;revert g2;refine cn ((L+R)/2) λmid hmid=>?_;intro g2 g1;rw[uA m n mid R ds g2 hR (qr h h2 hne hmid g1),uA m n L mid ds g1 (al (dE (by assumption)) (by assumption)) (ul h h2 hne hmid)];have e:(ds.drop L).take (R - L)=(ds.drop L).take (mid - L)++(ds.drop mid).take (R - mid):=by have e2:R - L=(mid - L)+(R - mid):=vF h hne hmid g1;refine aa e2 (aa Rw (aa mO ?_));congr 3;exact Kt g2 g1
   rw[e,sJ,pV,fM,lh (KV h hR hne hmid)];exact iW _ _
structure vS (sc:Scope) (t eD:ab) (s2 s3:aL) (eS:ab) (a1 a2:List ab):Prop where
 hT:∀O σ (L R:Nat),σ.lookup nL=some (.sh (.int L))->σ.lookup nR=some (.sh (.int R))->pT O 12 sc σ t=some (decide (L+1=R))
 hD:∀O σ (L:Nat) (ds:List Nat),σ.lookup nL=some (.sh (.int L))->σ.lookup cT=some (.sh (.list (ds.map λd=>.int ((d:Nat):Int))))->L<ds.length->pe O 12 sc σ eD=some (.int (ds.getD L 0:Nat))
 hss:∀O σ (L R n:Nat),σ.lookup nL=some (.sh (.int L))->σ.lookup nR=some (.sh (.int R))->σ.lookup nN=some (.sh (.int n))->R<=128->n<=512->L<R->
  aJ O 12 sc σ [s2,s3]=some (.nx (put (put σ ce (.sh (.int (((L+R)/2:Nat):Int)))) dK (.sh (.int ((((L+R)/2 - L)*n:Nat):Int)))))
 hS:∀O σ (x:Nat),σ.lookup dK=some (.sh (.int x))->pe O 12 sc σ eS=some (.int x)
 ha1:∀O σ (L R:Nat),σ.lookup ce=some (.sh (.int L))->σ.lookup nR=some (.sh (.int R))->aY (pe O 12 sc σ) a1=some [.int L,.int R]
 ha2:∀O σ (L R:Nat),σ.lookup nL=some (.sh (.int L))->σ.lookup ce=some (.sh (.int R))->aY (pe O 12 sc σ) a2=some [.int L,.int R]
noncomputable def lb (ds:List Nat):List Int:=ds.map λd:Nat=>(d:Int)
section
variable {X:Cx} {A:aO} {s s' s1 s2:ae} {W V:List Addr} {fd:gz} {c1 c2 c3:Addr} {env:Env} {O:Orc}
theorem Pp {f l:Addr} {n:Nat} {t eD eS:ab} {s2 s3:aL} {a1 a2:List ab} {q1 q2 q3 q4 q5 q6 q7 q8 q9:Pos} (F:ii X fd [nL,nR] (.If t [.Return (some eD) q1] [] q2::s2::s3::.Return (some (.BinOp (.BinOp (.Call (.Name bn q3) a1 [] q4) .LShift eS q5) .Add (.Call (.Name bn q6) a2 [] q7) q8)) q9::[]) nN bn cT c1 c2 c3) (H:vS fd.scope t eD s2 s3 eS a1 a2) (OK:bq X O 0) (hnn:cw bn=true) (hnlt:n<=512) {ds:List Nat} (hds:∀d∈ds,d<2^n) (hlen:ds.length<=128):∀m (A:aO) (s:ae) (L R:Nat) (vs:List Value),L<R->R<=ds.length->R - L<=m->aK A (m+4)->iU X fd f l c1 c2 c3 n (lb ds) s->ax [] s.heap [.int L,.int R] vs->
   Ev X A s (call (.ref f) vs) (λv s'=>ao [] s'.heap (.int (gT m n L R ds:Nat)) v):=by
 intro m
 induction m with
 |zero=>intro A s L R vs h1 h2 h3;exact (wN h1 h3).elim
 |succ m ih=>
  intro A s L R vs h1 h2 h3 R0 I r;refine ah I.fo λo ho hd=>?_;refine bR I.ls λlvs lk hl rl=>?_;have hll:lvs.length<=sizeLine:=by refine aa rl.length ?_;simp[lb];exact al hlen (by decide:128<=sizeLine)
  have E:qo X s fd [nL,nR] _ [] [(cT,.sh (.list (ds.map λd=>.int ((d:Nat):Int)))),(nN,.sh (.int n))]:=F.en (aE I.k1 λt k=>⟨_,k⟩) ⟨_,I.k2⟩ ⟨_,I.k3⟩ I.cd (λy e hy=>by
   simp only[d9] at hy
   split at hy
   ·rename_i z;have h_:=aj hy;clear hy;subst h_;have z:=bh z;subst z;refine⟨F.f3,_,c3,_,rfl,by refine aa F.cl ?_;rfl,I.k3,l,lvs,rfl,(λq=>nomatch q),⟨lk,hl⟩,hll,?_⟩;have:ds.map (λd=>PV.int ((d:Nat):Int))=(lb ds).map .int:=by simp[lb]
    refine aa this ?_;exact rl
   ·split at hy
    ·rename_i z;have h_:=aj hy;clear hy;subst h_;have z:=bh z;subst z;refine aE I.k1 λt k1=>?_;exact⟨F.f1,_,c1,_,rfl,by refine aa F.cl ?_;rfl,k1,⟨t,rfl⟩⟩
    ·exact ac hy)
  have hfl:∀(a b:Nat),∀d∈[PV.int a,.int b],d.flat=true:=λa b d hd=>by
   simp only[av,bz,or_false] at hd;rcases hd with rfl|rfl<;>rfl
  refine tE E ho hd (as:=[.int L,.int R]) rfl R0.depth I.S (λb hb=>nomatch hb) (fX (hfl _ _) r) λenv t2 V2 S2 k2 fresh hint ζ hce ζ ζ=>?_;have hcell:=F.cells hce;have Rb:aK (A.deeper env) (m+4):=(show aK A ((m+4)+1) from R0.mono (bf _)).deeper env;have Rb2:aK (A.deeper env) (0+2):=Rb.mono (dv _ _);have I2:=I.step S2 k2 (λb hb=>nomatch hb);have l2:(bP [(cT,.sh (.list (ds.map λd=>.int ((d:Nat):Int)))),(nN,.sh (.int n))] ([nL,nR].zip ([PV.int L,.int R].map .sh))).lookup nL=some (.sh (.int L)):=rfl;have l3:(bP [(cT,.sh (.list (ds.map λd=>.int ((d:Nat):Int)))),(nN,.sh (.int n))] ([nL,nR].zip ([PV.int L,.int R].map .sh))).lookup nR=some (.sh (.int R)):=rfl;have l4:(bP [(cT,.sh (.list (ds.map λd=>.int ((d:Nat):Int)))),(nN,.sh (.int n))] ([nL,nR].zip ([PV.int L,.int R].map .sh))).lookup nN=some (.sh (.int n)):=rfl;have l5:(bP [(cT,.sh (.list (ds.map λd=>.int ((d:Nat):Int)))),(nN,.sh (.int n))] ([nL,nR].zip ([PV.int L,.int R].map .sh))).lookup cT=some (.sh (.list (ds.map λd=>.int ((d:Nat):Int)))):=rfl;have hus:∀a b,Mine.unown (put (put (bP [(cT,.sh (.list (ds.map λd=>.int ((d:Nat):Int)))),(nN,.sh (.int n))] ([nL,nR].zip ([PV.int L,.int R].map .sh))) ce (.sh a)) dK (.sh b))=put (put (bP [(cT,.sh (.list (ds.map λd=>.int ((d:Nat):Int)))),(nN,.sh (.int n))] ([nL,nR].zip ([PV.int L,.int R].map .sh))) ce (.sh a)) dK (.sh b):=λa b=>rfl;revert V2;revert l2;revert l3;revert l4;revert l5;revert hus;refine aX (bP [(cT,.sh (.list (ds.map λd=>.int ((d:Nat):Int)))),(nN,.sh (.int n))] ([nL,nR].zip ([PV.int L,.int R].map .sh))) λσ=>?_;intro hus l5 l4 l3 l2 V2;refine gQ ?_;refine aa qw ?_;refine ak (eb (ak (aA (kF OK Rb2 12 _ σ env [] [] t _ t2 (H.hT O σ L R l2 l3) S2 V2) (λc t3 h_0=>aI h_0 λS3 k3 e3=>?_) λζ ζ f=>f.elim)));subst e3;have V3:=V2.keep k3.kb;have I3:=I2.step S3 k3 (λb hb=>nomatch hb);have k03:af [] s t3:=k2.trans k3
  by_cases hLR:L+1=R
  ·rw[if_pos (by simpa using hLR)];refine aa vw ?_;refine aa (if_pos hLR) ?_;refine gQ (sd (aA (dP OK Rb2 12 _ σ env [] [] eD _ t3 (H.hD O σ L ds l2 l5 (b9 (by assumption) (by assumption))) S3 V3) (λv t4 h_1=>aI h_1 λS4 k4 r4=>⟨S4,k03.trans k4,r4⟩) λζ ζ f=>f.elim))
  ·rw[if_neg (by simpa using hLR)];have g1:L<(L+R)/2:=ri h1 hLR;have g2:(L+R)/2<R:=nz h1 hLR;have hp:=H.hss O σ L R n l2 l3 l4 (al (by assumption) (by assumption)) hnlt h1;refine aa vw ?_;refine aa (if_neg hLR) ?_;revert hp;revert g1;revert g2;refine cn ((L+R)/2) λmid hmid=>?_;intro g2 g1 hp;refine sb ?_;refine (?_:aq _ _ (dw ([s2,s3]++[.Return (some (.BinOp (.BinOp (.Call (.Name bn q3) a1 [] q4) .LShift eS q5) .Add (.Call (.Name bn q6) a2 [] q7) q8)) q9]) env) _ _ _);refine BO [s2,s3] _ _ ?_;refine aA ((qp OK Rb2 12).2 fd.scope env σ [] [] _ _ t3 hp S3 V3) (λfl t4 h4'=>?_) λζ ζ f=>f.elim;obtain ⟨rfl,own4,S4,k4,o4,V4'⟩:=h4';have V4:=V4'.own0 (hus _ _)
   have I4:=I3.step S4 k4 (λb hb o e=>by
    have hn:=fresh b hb;have ne:∀c,(∃o,s.heap.get? c=some o)->b≠c:=λc h_ q=>aE h_ λo e=>by (replace e:=(eh q)▸e;replace e:=hn▸e);exact ac e
    have cne:∀c v,s.heap.IsCell c v->b≠c:=λc v h_2=>ah h_2 λo e ζ=>ne c ⟨o,e⟩;refine aE I.k1 λtt kk1=>?_
    exact tR (ne l ⟨_,hl⟩) (ne f ⟨_,ho⟩) (cne _ _ kk1) (cne _ _ I.k2) (cne _ _ I.k3) (BD V3 hb e))
   have k04:af [] s t4:=af.more k03 k4 k03.gsz λy hy=>.inr (fresh y hy);have lm:(put (put σ ce (.sh (.int (mid:Int)))) dK (.sh (.int (((mid - L)*n:Nat):Int)))).lookup ce=some (.sh (.int (mid:Int))):=by refine au (by decide) ?_;exact aM
   have ls:(put (put σ ce (.sh (.int (mid:Int)))) dK (.sh (.int (((mid - L)*n:Nat):Int)))).lookup dK=some (.sh (.int (((mid - L)*n:Nat):Int))):=by exact aM
   have lL:(put (put σ ce (.sh (.int (mid:Int)))) dK (.sh (.int (((mid - L)*n:Nat):Int)))).lookup nL=some (.sh (.int (L:Int))):=by refine au (by decide) ?_;refine au (by decide) ?_;exact l2
   have lR:(put (put σ ce (.sh (.int (mid:Int)))) dK (.sh (.int (((mid - L)*n:Nat):Int)))).lookup nR=some (.sh (.int (R:Int))):=by refine au (by decide) ?_;refine au (by decide) ?_;exact l3
   revert V4;revert lm;revert ls;revert lL;revert lR;refine aX (put (put σ ce (.sh (.int (mid:Int)))) dK (.sh (.int (((mid - L)*n:Nat):Int)))) λσ4=>?_;intro lR lL ls lm V4;have callEv:∀(a b:Nat) (as:List ab) (p p':Pos) (t5:ae),aY (pe O 12 fd.scope σ4) as=some [.int a,.int b]->a<b->b<=ds.length->b - a<=m->ai X t5->af [] t4 t5->
     Ev X (A.deeper env) t5 (aG (.Call (.Name bn p) as [] p') env) (λv s'=>ao ([]++ay []) s'.heap (.int (gT m n a b ds:Nat)) v):=λa b as p p' t5 hA e1 e2 e3 S5 k5=>by
    have V5:=V4.keep k5.kb;have I5:=I4.step S5 k5 (λb hb=>nomatch hb);refine (?_:aq _ _ (aG (.Name bn p) env>>=λg=>iH p' g [] (bZ p' (bY as env)) []) _ _ t5);refine ak (iM V5 (F.val2 V5 hcell I5.k2) hnn ?_);refine ah I5.fo λo5 ho5 hd5=>?_;refine qW ho5 hd5 (jE hA) (gU (dP OK Rb2 12) hA S5 V5) λvs t6 S6 k6 r6=>?_;have I6:=I5.step S6 k6 (λb hb=>nomatch hb);exact aA (ih (A.deeper env) t6 a b vs e1 e2 e3 Rb I6 (fX (hfl _ _) r6)) (λv t7 h_3=>aI h_3 λS7 k7 r7=>⟨S7,k6.trans k7,r7⟩) λζ ζ f=>f
   have hv1:gT m n mid R ds<2^((R - mid)*n):=by rw[uA m n mid R ds g2 h2 (qr h1 h3 hLR hmid g1)];have:=qY n ((ds.drop mid).take (R - mid)) λd hd=>hds d (yE (yF hd));rwa [pV,fM,lh (Nq h2 g2)] at this
   have hbits:=hF hv1;have b1:(R - mid)*n<=128*512:=kE (Hu hlen h2 hmid g1) hnlt;have b2:(mid - L)*n<=128*512:=kE (JN hlen h2 hmid) hnlt;have hb1:bV .LShift (.int (gT m n mid R ds:Nat)) (.int (((mid - L)*n:Nat):Int))=some (.int ((gT m n mid R ds*2^((mid - L)*n):Nat):Int)):=by
    unfold bV;simp only;rw[if_pos]
    ·congr 2
    ·simp only[bF,decide_eq_true_eq]
     exact⟨c7 _,by
      have:(2:Int)^27=134217728:=by decide
      refine aa this ?_;exact J5 hbits b1 b2⟩
   have hb2:bV .Add (.int ((gT m n mid R ds*2^((mid - L)*n):Nat):Int)) (.int (gT m n L mid ds:Nat))=some (.int ((gT m n mid R ds*2^((mid - L)*n)+gT m n L mid ds:Nat):Int)):=by unfold bV;simp only;congr 2
   refine gQ (sd (aA (pn (Rb2.mono (mD _)) S4 V4 (pn (Rb2.mono (mD _)) S4 V4 (callEv mid R a1 q3 q4 t4 (H.ha1 O σ4 mid R lm lR) g2 h2 (qr h1 h3 hLR hmid g1) S4 af.refl) (λs' S' k'=>dP OK Rb2 12 _ σ4 env [] [] eS _ s' (H.hS O σ4 _ ls) S' (V4.keep k'.kb)) hb1)
    (λs' S' k'=>callEv L mid a2 q6 q7 s' (H.ha2 O σ4 L mid lL lm) g1 (al (dE (by assumption)) (by assumption)) (ul h1 h3 hLR hmid) S' k') hb2) (λv t8 h_4=>aI h_4 λS8 k8 r8=>⟨S8,k04.trans k8,r8⟩) λζ ζ f=>f.elim))
end
noncomputable def gK (ds:List Nat):List PV:=ds.map λd=>.int ((d:Nat):Int)
structure CT (sc:Scope) (t e0:ab) (a1:List ab):Prop where
 hT:∀O σ (ds:List Nat),σ.lookup cT=some (.sh (.list (gK ds)))->pT O 12 sc σ t=some (decide (ds≠[]))
 h0:∀O σ,pe O 12 sc σ e0=some (.int 0)
 ha:∀O σ (ds:List Nat),σ.lookup cT=some (.sh (.list (gK ds)))->aY (pe O 12 sc σ) a1=some [.int 0,.int (ds.length:Nat)]
 s2:bb sc bn=true
 i1:ed sc nN=true
 i2:ed sc bn=true
 i3:ed sc cT=true
 ok1:cw bn=true
 ng:(sc.names.lookup bn==some yA)=false
section
variable {X:Cx} {A:aO} {s s':ae} {W:List Addr} {O:Orc} {k:Nat}
theorem EB {fa:Addr} {fd:gz} {params:sg} {isc:Scope} {t0 e0 t eD eS:ab} {s2 s3:aL} {b1 a1 a2:List ab} {q:Tb} {p0 p1 p2 p3 p4 q1 q2 q3 q4 q5 q6 q7 q8 q9:Pos} {vs:List Value} {n:Nat} {ds:List Nat} (F:mn X fa fd [cT,nN] [.FunctionDef bn params (.If t [.Return (some eD) q1] [] q2::s2::s3::.Return (some (.BinOp (.BinOp (.Call (.Name bn q3) a1 [] q4) .LShift eS q5) .Add (.Call (.Name bn q6) a2 [] q7) q8)) q9::[]) [] none [] isc none bn p0,
   .Return (some (.IfExp t0 (.Call (.Name bn p1) b1 [] p2) e0 p3)) p4]) (U:CT fd.scope t0 e0 b1) (I:nh [nL,nR] params isc (.If t [.Return (some eD) q1] [] q2::s2::s3::.Return (some (.BinOp (.BinOp (.Call (.Name bn q3) a1 [] q4) .LShift eS q5) .Add (.Call (.Name bn q6) a2 [] q7) q8)) q9::[]) nN bn cT) (H:vS isc t eD s2 s3 eS a1 a2) (T:jO X q) (hcode:fd.code=.ref q.c) (hpos:q.pos=p0) (hqual:q.qual=fd.qualname++ ".<locals>." ++bn) (OK:bq X O 0) (h2:ds.length<=128) (h3:∀d∈ds,d<2^n) (h4:n<=512) (R:aK A 140) (S:ai X s) (w:cy W s.heap) (r:ax W s.heap [.list (gK ds),.int n] vs):Ev X A s (call (.ref fa) vs) (λv s'=>ao W s'.heap (.int (bl n ds:Nat)) v):=by
 refine bB F.ho λo ho hcl hd=>?_;have hof:=S.old.get_of_cls ho (by refine aa hcl ?_;nofun);refine tE (F.en S) hof hd (as:=[.list (gK ds),.int n]) rfl R.depth S w r λenv t2 V2 S2 k2 fresh hint hec hce heq hes=>?_;have Rb:aK (A.deeper env) 139:=(show aK A (139+1) from R).deeper env;have Rb2:aK (A.deeper env) (0+2):=Rb.mono (dv _ _);have l1:(bP [] ([cT,nN].zip ([PV.list (gK ds),.int n].map .sh))).lookup cT=some (.sh (.list (gK ds))):=rfl;have l2:(bP [] ([cT,nN].zip ([PV.list (gK ds),.int n].map .sh))).lookup nN=some (.sh (.int n)):=rfl;have l4:(bP [] ([cT,nN].zip ([PV.list (gK ds),.int n].map .sh))).lookup bn=none:=rfl;revert V2;revert l1;revert l2;revert l4;refine aX (bP [] ([cT,nN].zip ([PV.list (gK ds),.int n].map .sh))) λσ=>?_;intro l4 l2 l1 V2;refine gQ ?_
 refine Ac I S2 V2 T (hec.trans hcode) hpos (by refine aa hqual ?_;unfold D4;rw[show env.kindOf bn=fd.scope.names.lookup bn by (refine (?_:env.scope.names.lookup bn=_);exact aa hes rfl)];refine aa U.ng (aa heq ?_);rfl) (λx hx=>by
  rcases hx with rfl|rfl|rfl
  ·exact U.i1
  ·exact U.i2
  ·exact U.i3) U.s2 l4 λt5 t6 f doc pm ct cv S5 k5 V5 hfn S6 k6 V6 hval6 hf6 hcd6 hz6 hseq6=>?_
 refine aE ((V6.cel nN U.i1).2) λc1 hc1=>?_;refine aE ((V6.cel bn U.i2).2) λc2 hc2=>?_;refine aE ((V6.cel cT U.i3).2) λc3 hc3=>?_;refine ah (V6.vars nN _ l2) λvN hvN rN=>?_;obtain ⟨tN,rfl⟩:=rN;refine ah (V6.vars cT _ l1) λvD hvD rD=>?_;obtain ⟨l,lvs,rfl,hlW,⟨lk,hl6⟩,hlen6,rl6⟩:=rD;have fd3:=I.fd3 (X:=X) V6 hc1 hc2 hc3 q.qual doc pm ct cv;have I6:iU X _ f l c1 c2 c3 n (lb ds) t6:=
  {S:=S6,k1:=⟨tN,pv V6 U.i1 hc1 hvN⟩,k2:=pv V6 U.i2 hc2 hval6,k3:=pv V6 U.i3 hc3 hvD,fo:=hf6,cd:=hcd6
   ls:=⟨lvs,lk,hl6,by
    have:(lb ds).map PV.int=gK ds:=by simp[lb,gK]
    refine aa this ?_
    exact fX (λd hd=>by obtain ⟨x,_,rfl⟩:=dG.mp hd;rfl) rl6⟩}
 have k26:af [] s t6:=by have a3:af [] s t5:=k2.trans k5;exact af.more a3 k6 a3.gsz λy hy=>.inr (fresh y hy)
 have hfl:∀(a b:Nat),∀d∈[PV.int a,.int b],d.flat=true:=λa b d hd=>by
  simp only[av,bz,or_false] at hd;rcases hd with rfl|rfl<;>rfl
 refine gQ (sd (aA (vv (Q:=λv s'=>ao W s'.heap (.int (bl n ds:Nat)) v) (kF OK Rb2 12 _ σ env [] W t0 _ t6 (U.hT O σ ds l1) S6 V6) λt7 S7 k7=>?_) (λv t8 h_0=>aI h_0 λS8 k8 r8=>⟨S8,k26.trans k8,r8⟩) λζ ζ f=>f.elim));have V7:=V6.keep k7.kb;have I7:=I6.step S7 k7 (λb hb=>nomatch hb)
 by_cases hds:ds=[]
 ·rw[if_neg (by simpa using hds)];refine (dP OK Rb2 12 _ σ env [] W e0 _ t7 (U.h0 O σ) S7 V7).mono λv s' ζ ζ r=>?_;refine aa hds ?_;exact r.flat rfl
 ·rw[if_pos (by simpa using hds)];have hA:=U.ha O σ ds l1;refine (?_:aq _ _ (aG (.Name bn p1) env>>=λg=>iH p2 g [] (bZ p2 (bY b1 env)) []) _ _ t7);refine ak (iM V7 (hval6.keep k7.kb) U.ok1 ?_);refine ah I7.fo λo7 ho7 hd7=>?_;refine qW ho7 hd7 (jE hA) (gU (dP OK Rb2 12) hA S7 V7) λvs8 t8 S8 k8 r8=>?_;have I8:=I7.step S8 k8 (λb hb=>nomatch hb);have hpos:0<ds.length:=vf.mpr hds;refine aA (Pp fd3 H OK U.ok1 h4 h3 h2 ds.length (A.deeper env) t8 0 ds.length vs8 hpos (bf _) (kt _ _) (Rb.mono (Ad h2)) I8 (fX (hfl 0 ds.length) r8)) (λv t9 h_1=>aI h_1 λS9 k9 r9=>⟨S9,k8.trans k9,?_⟩) λζ ζ f=>f.elim;rw[uA _ _ _ _ _ hpos (bf _) (kt _ _)] at r9;simp only[uT,D5,n0] at r9;exact r9.flat rfl
end
noncomputable def qT (sc:Scope) (ps:List Str):Bool:=
 !sc.isCoroutine&& !sc.isGenerator&&(match sc.kind with|.function=>true|_=>false)&&gg sc.names&&sc.names.all (λy=>cw y.1&&y.2 != .free)&&ps.all (bb sc)
structure gH (p:Program) (X:Cx):Prop where
 fn:∀d∈lE p,∃a o pm code doc,X.mg d.name=some (.ref a)/\X.h0.get? a=some o/\o.data=.func (oj d.name d.params d.body d.scope pm code doc)/\X.h0.CodeRec code d.name
 tab:∀d∈lE p,∃a o fd c P,X.mg d.name=some (.ref a)/\X.h0.get? a=some o/\o.data=.func fd/\fd.code=.ref c/\X.h0.IsCode c P #[]/\X.h0.TableAt c P #[]
 builtins:∀x:Str,x≠ "__name__" ->X.mb x=D8 x
theorem gH.of {p q:Program} {loose:List Str} {mean:pW->Option Value} {X:Cx} (T:Top q loose mean X.mg X.mb X.h0) (h:lE q=lE p):gH p X:=
 ⟨λd hd=>T.fn d (h▸hd),λd hd=>T.tab d (h▸hd),T.builtins⟩
section
variable {X:Cx} {p:Program} {loose:List Str} {mean:pW->Option Value}
theorem BR {h:Heap} {cv:Value} {q:Str} (K:pF X.h0 h) (C:ir X.h0 cv q):ir h cv q:=by obtain ⟨c,o,vs,t,e,g,hcl,r⟩:=C;exact Mm c o vs t e (K.get_of_cls g (by refine aa hcl ?_;nofun)) hcl r
theorem Bf (T:gH p X) {d:DefRec} (hd:d∈lE p):∃a o pm code doc,X.mg d.name=some (.ref a)/\X.h0.get? a=some o/\o.data=.func (oj d.name d.params d.body d.scope pm code doc)/\ir X.h0 code d.name:=by obtain ⟨a,o,pm,code,doc,h1,h2,h3,h4⟩:=T.fn d hd;obtain ⟨a',o',fd',c,P,g1,g2,g3,g4,g5,g6⟩:=T.tab d hd;replace g1:=h1▸g1;cases g1;replace g2:=h2▸g2;have h_:=aj g2;clear g2;subst h_;replace g3:=h3▸g3;cases g3;have g4:code=.ref c:=g4;subst g4;obtain ⟨⟨oc,vc,e1,e2,_⟩,_⟩:=g6;exact⟨a,o,pm,_,doc,h1,h2,h3,.of h4 ⟨oc,e1,e2⟩⟩
theorem zH (T:gH p X) {d:DefRec} (hd:d∈lE p) (hc:∀a o,X.mg d.name=some (.ref a)->X.h0.get? a=some o->o.cls=.type "function") {ps:List Str} (hf:qT d.scope ps=true) (hb:∀pm code doc (vs:List Value),vs.length=ps.length->lC (oj d.name d.params d.body d.scope pm code doc) ⟨vs,[]⟩=pure (ps.zip vs)):∃fa fd,X.mg d.name=some (.ref fa)/\mn X fa fd ps d.body/\fd.scope=d.scope/\fd.qualname=d.name/\∃pm code doc,fd=oj d.name d.params d.body d.scope pm code doc:=by
 obtain ⟨a,o,pm,code,doc,h1,h2,h3,h4⟩:=Bf T hd;unfold qT at hf;simp only[bF,kz,c9] at hf;obtain ⟨⟨⟨⟨⟨f1,f2⟩,f3⟩,f4⟩,f5⟩,f6⟩:=hf;refine⟨a,_,h1,{ho:=⟨o,h2,hc a o h1 h2,h3⟩,gl:=rfl,bi:=rfl,cl:=rfl,bd:=rfl,co:=f1,ge:=f2,kd:=?_,nd:=f4,nm:=λx k hx=>(f5 _ hx).1,nf:=λx hx=>?_,pst:=f6,cd:=λh K=>(BR K h4).rec,bind:=hb pm code doc},rfl,rfl,pm,code,doc,rfl⟩
 ·refine (?_:d.scope.kind=.function);revert f3;cases d.scope.kind<;>simp
 ·have:=(f5 _ (cm hx)).2;exact aZ this
noncomputable def il:List (Int×Str):=[(1, "OPTIMIZED"),(2, "NEWLOCALS"),(4, "VARARGS"),(8, "VARKEYWORDS"),(16, "NESTED"),(32, "GENERATOR"),(64, "NOFREE"),(128, "COROUTINE"),(256, "ITERABLE_COROUTINE"),(512, "ASYNC_GENERATOR")]
noncomputable def flagD:List (PyData×PyData):=il.map λy=>(.int y.1,.str y.2)
noncomputable def qi:Str:=ag "COMPILER_FLAG_NAMES"
theorem OP (i:Int):Rx (.int i) flagD=(il.lookup i).map .str:=by
 unfold flagD;refine aX (il) λl=>?_
 induction l with
 |nil=>rfl
 |cons y r ih=>
  obtain ⟨k,x⟩:=y;refine aa cS ?_;unfold Rx;refine aa cM ?_;have e:Tf (.int k) (.int i)=decide (k=i):=Tg k i;refine aa e ?_
  by_cases h:k=i
  ·subst h;simp
  ·have h':(i==k)=false:=by simpa using cC h
   simp[h,h',ih]
structure vO (X:Cx):Prop where
 ok:∃da o kvs,X.mg qi=some (.ref da)/\(da==D9)=false/\X.h0.get? da=some o/\o.cls≠.none/\o.IsDictOf (pX X.prog X.w) kvs/\vg pY kvs flagD
noncomputable def sU (x:Str) (as:List PV):Option PV:=if x==qi then (match as with|[.int k,.str d]=>some (.str ((il.lookup k).getD d))|_=>none) else none
theorem CY {s:ae} (S:ai X s) {da:Addr} {o:ek} {kvs:List (Int×Value)} (lo:(da==D9)=false) (ho:X.h0.get? da=some o) (hc:o.cls≠.none) (hd:o.IsDictOf (pX X.prog X.w) kvs) (hf:vg pY kvs flagD):IntTab X.prog X.w s.heap da flagD:=TabAt.ofObj lo (S.old.get_of_cls ho hc) hd hf
theorem FN:∀(k:Int) (x:Str),il.lookup k=some x->x.length<=sizeLine:=λk x h=>by
 have hm:∀y∈il,y.2.length<=100:=by decide
 have key:∀(l:List (Int×Str)),l.lookup k=some x->∃y∈l,y.2=x:=by
  intro l
  induction l with
  |nil=>intro h;exact ac h
  |cons y r ih=>
   intro h;obtain ⟨a,b⟩:=y;rw[cM] at h
   split at h
   ·have h_:=aj h;clear h;subst h_;exact az _ (.head _) rfl
   ·refine ah (ih h) λy hy e=>?_;exact az y (.tail _ hy) e
 refine ah (key _ h) λy hy e=>?_;exact e▸al (hm y hy) (by decide)
theorem M6 (G:vO X):∀x as d,sU x as=some d->cw x=true/\∃da,X.mg x=some (.ref da)/\(∀A s pl (Q:Value×List Value->ae->Prop) E,ai X s->Q (.builtin "dict.get",[.ref da]) s->aq (aw X.prog X.w) A (mI (.ref da) "get" pl) Q E s)/\∀A s W vs,aK A 2->ai X s->cy W s.heap->ax W s.heap as vs->Ev X A s (call (.builtin "dict.get") (.ref da::vs)) (λv s'=>ao W s'.heap d v):=by
 intro x as d h;unfold sU at h;refine ifs h λhx h=>?_;have hx:=bh hx;subst hx;have key:∃k dd,as=[.int k,.str dd]/\PV.str ((il.lookup k).getD dd)=d:=by
  induction as using aP with
  |nil=>exact ac h
  |cons y r=>
   induction y using PV.casesOn with
   |int k=>
    induction r using aP with
    |nil=>exact ac h
    |cons z r=>
     induction z using PV.casesOn with
     |str dd=>induction r using aP with
      |nil=>exact gE k dd rfl (aj h)
      |cons _ _=>exact ac h
     |_=>exact ac h
   |_=>exact ac h
 ·refine bR key λk dd e2_ e3_=>?_;clear key;subst e2_;subst e3_;obtain ⟨da,o,kvs,h1,lo,ho,hc,hd,hf⟩:=G.ok;refine⟨by decide,da,h1,λA s pl Q E S q=>getMethod_intTab_get (CY S lo ho hc hd hf) q,λA s W vs R S w r=>?_⟩;obtain ⟨v1,u1,rfl,r1,v2,u2,rfl,r2,rfl⟩:=r;refine aE r1 λt e1_=>?_;clear r1;subst e1_;obtain ⟨⟨t2,rfl⟩,hl⟩:=r2;refine call_get2_intTab (CY S lo ho hc hd hf) (dd:=.str dd) (λh=>.str dd t2) λv hv=>⟨S.tok,af.toks,?_⟩
  rw[OP] at hv;cases e:il.lookup k with
  |none=>replace hv:=e▸hv;have hv:Ry v (.str dd):=hv;cases hv {};exact⟨⟨_,rfl⟩,hl⟩
  |some y=>replace hv:=e▸hv;have hv:Ry v (.str y):=hv;cases hv {};exact⟨⟨_,rfl⟩,FN k y e⟩
noncomputable def lS:Str:=ag "ELLIPSIS_MARKER"
noncomputable def xz (x:Str):Option PV:=if x==lS then some (.str (ag "...")) else none
theorem Jh (h:∃t,X.mg lS=some (.str (ag "...") t)):∀x d,xz x=some d->cw x=true/\∃v,X.mg x=some v/\∀W h,ao W h d v:=by intro x d hx;unfold xz at hx;refine ifs hx λe hx=>?_;have e:=bh e;subst e;have h_:=aj hx;clear hx;subst h_;refine aE h λt ht=>?_;clear h;exact⟨by decide,_,ht,λW h=>⟨⟨t,rfl⟩,by decide⟩⟩
noncomputable def ow:List Str:=[ag "sum",ag "len",ag "max",ag "hex",ag "int",ag "range",ag "enumerate",ag "zip"]
theorem L3 {f:Str} {v:Value} (h:fW f=some v):f∈ow/\f≠ "__name__" /\D8 f=some v:=by
 have h1:∀p∈tT,p.1∈ow/\p.1≠ "__name__" /\D8 p.1=some p.2:=
  fm_ ⟨by decide,by decide,by rfl⟩<|fm_ ⟨by decide,by decide,by rfl⟩<|fm_ ⟨by decide,by decide,by rfl⟩<|fm_ ⟨by decide,by decide,by rfl⟩<|fm_ ⟨by decide,by decide,by rfl⟩<|
  fm_ ⟨by decide,by decide,by rfl⟩<|fm_ ⟨by decide,by decide,by rfl⟩<|fm_ ⟨by decide,by decide,by rfl⟩ j3
 exact h1 _ (tW h)
noncomputable def O0:Orc:={fn:=λζ ζ=>none,gc:=xz,dget:=sU,gen:=λζ ζ=>none}
theorem Lf (T:gH p X) (G:vO X) (h:∃t,X.mg lS=some (.str (ag "...") t)) (hb:∀f∈ow,X.mg f=none):bq X O0 0 where
 bi:=λf v hf=>aI (L3 hf) λh1 h2 h3=>⟨hb f h1,(T.builtins f h2).trans h3⟩
 fn:=λf as d h=>nomatch h
 dget:=M6 G
 gen:=λf as d h=>nomatch h
 gc:=Jh h
end
noncomputable def jz (O:Orc) (f:Str) (g:List PV->Option PV):Orc:={O with fn:=λx as=>if x==f then g as else O.fn x as}
noncomputable def wG (O:Orc) (f:Str) (g:List PV->Option (List PV)):Orc:={O with gen:=λx as=>if x==f then g as else O.gen x as}
noncomputable def jA (p:Program) (f:Str):Option DefRec:=(lE p).find? λd=>d.name==f
noncomputable def ic (d:DefRec):List Str:=d.params.args.map (·.arg)
noncomputable def bQ (p:Program) (O:Orc) (f:Str) (as:List PV):Option PV:=match jA p f with
 |some d=>if (ic d).length==as.length then (match aJ O 60 d.scope (bP [] ((ic d).zip (as.map .sh))) d.body with
  |some (.rt v)=>some v
  |some (.nx _)=>some .none
  |_=>none) else none
 |none=>none
section
variable {X:Cx} {p:Program} {O Ob:Orc} {k k' kb:Nat} {f:Str}
noncomputable def m8 (X:Cx) (f:Str) (g:List PV->Option PV) (k:Nat):Prop:=∀as d,g as=some d->fW f=none/\cw f=true/\∃fa,X.mg f=some (.ref fa)/\(∃o fd,X.h0.get? fa=some o/\o.cls=.type "function" /\o.data=.func fd)/\
  ∀A s W vs,aK A k->ai X s->cy W s.heap->ax W s.heap as vs->Ev X A s (call (.ref fa) vs) (λv s'=>ao W s'.heap d v)
theorem pC (OK:bq X O k) (h:k<=k'):bq X O k':=
 {OK with
  fn:=λf as d e=>aI (OK.fn f as d e) λh1 h2 h_=>bB h_ λfa h3 h4 h5=>⟨h1,h2,fa,h3,h4,λA s W vs R=>h5 A s W vs (R.mono h)⟩
  gen:=λf as d e=>aI (OK.gen f as d e) λh1 h2 h_=>bB h_ λfa h3 h4 h5=>⟨h1,h2,fa,h3,h4,λA s W vs R=>h5 A s W vs (R.mono h)⟩}
theorem kN {g:List PV->Option PV} (OK:bq X O k) (C:m8 X f g k') (hk:k'<=k):bq X (jz O f g) k:=
 {OK with
  fn:=λx as d e=>by
   unfold jz at e
   simp only at e
   split at e
   ·rename_i hx
    have hx:=bh hx
    subst hx
    obtain ⟨h1,h2,fa,h3,h4,h5⟩:=C as d e
    exact⟨h1,h2,fa,h3,h4,λA s W vs R=>h5 A s W vs (R.mono hk)⟩
   ·exact OK.fn x as d e}
noncomputable def nK (p:Program) (X:Cx) (f:Str):Prop:=∀d,jA p f=some d->fW f=none/\cw f=true/\∃fa fd,X.mg f=some (.ref fa)/\mn X fa fd (ic d) d.body/\fd.scope=d.scope
theorem lP (OK:bq X O k) (F:nK p X f):m8 X f (bQ p O f) (k+3):=λas v e=>by
 unfold bQ at e
 set_option smartUnfolding false in refine om e λd hd e=>?_
 obtain ⟨h1,h2,fa,fd,h3,h4,h5⟩:=F d hd;refine ifs e λhl e=>?_;refine⟨h1,h2,fa,h3,bB h4.ho λo a b c=>⟨o,fd,a,b,c⟩,λA s W vs R S w r=>?_⟩;refine JB (n:=60) (as:=as) OK h4 (of_decide_eq_true hl) ?_ R S w r;refine aa h5 ?_;revert e;refine aX (aJ O 60 d.scope (bP [] ((ic d).zip (as.map .sh))) d.body) λo e=>?_
 induction o using bW with
 |none=>exact ac e
 |some o=>induction o using Out.casesOn with
  |rt v'=>exact .inl (congrArg (λz=>some (Out.rt z)) (aj e))
  |nx σ'=>exact .inr ⟨σ',rfl,(aj e).symm⟩
  |_=>exact ac e
theorem lX {as:List PV} {d:DefRec} {v:PV} (h:jA p f=some d) (hl:((ic d).length==as.length)=true) (h2:aJ O 60 d.scope (bP [] ((ic d).zip (as.map .sh))) d.body=some (.rt v)):bQ p O f as=some v:=by delta bQ;refine aa h ?_;refine (?_:(if ((ic d).length==as.length)=true then (match aJ O 60 d.scope (bP [] ((ic d).zip (as.map .sh))) d.body with|some (.rt v)=>some v|some (.nx _)=>some PV.none|_=>none) else none)=some v);exact aa (if_pos hl) (aa h2 rfl)
theorem Op (T:gH p X) (hbi:fW f=none) (hn:cw f=true) (hc:∀a o,X.mg f=some (.ref a)->X.h0.get? a=some o->o.cls=.type "function") (hf:∀d,jA p f=some d->qT d.scope (ic d)=true/\∀pm code doc (vs:List Value),vs.length=(ic d).length->lC (oj d.name d.params d.body d.scope pm code doc) ⟨vs,[]⟩=pure ((ic d).zip vs)):nK p X f:=λd hd=>by have hm:=Ea hd;have hname:d.name=f:=beq_iff_eq.mp (Rz (p:=λe:DefRec=>e.name==f) hd);refine wf (zH T hm (by refine aa hname ?_;exact hc) (hf d hd).1 (hf d hd).2) λfa fd h1 h2 h3 ζ=>?_;exact⟨hbi,hn,fa,fd,by refine aH hname ?_;exact h1,h2,h3⟩
noncomputable def nEsc:Str:=ag "_iter_escaped_chars"
noncomputable def tz (as:List PV):Option (List PV):=match as with
 |[.str x]=>some (fG 0 false (eY x))
 |_=>none
theorem Fe {fa:Addr} {fd:gz} {ps:Nat->Pos} (OK:bq X O 0) (F:xk X fa fd ps) (hm:X.mg nEsc=some (.ref fa)):bq X (wG O nEsc tz) 8:=
 {pC OK (iE 8) with
  gen:=λx as xs e=>by
   unfold wG at e
   simp only at e
   split at e
   ·rename_i hx
    have hx:=bh hx
    subst hx
    have key:∃x,as=[.str x]/\xs=fG 0 false (eY x):=by
     induction as using aP with
     |nil=>exact ac e
     |cons y r=>
      induction y using PV.casesOn with
      |str x=>induction r using aP with
       |nil=>exact az x rfl ((aj e).symm)
       |cons _ _=>exact ac e
      |_=>exact ac e
    refine ah key λx e1_ e2_=>?_;clear key;subst e1_;subst e2_
    exact⟨by decide,by decide,fa,hm,bB F.ho λo a b c=>⟨o,fd,a,b,c⟩,λA s W vs R S w r=>FP OK F R S w r⟩
   ·exact (pC OK (iE 8)).gen x as xs e}
theorem Ju {ps:Nat->Pos} (T:gH p X) {d:DefRec} (hd:d∈lE p) (hc:∀a o,X.mg d.name=some (.ref a)->X.h0.get? a=some o->o.cls=.type "function") (hb:d.body=l9 ps) (hs:d.scope=cq) (hbind:∀pm code doc (v:Value),lC (oj d.name d.params d.body d.scope pm code doc) ⟨[v],[]⟩=pure [(ag "addr",v)]):∃fa fd,X.mg d.name=some (.ref fa)/\xk X fa fd ps:=by obtain ⟨a,o,pm,code,doc,h1,h2,h3,h4⟩:=Bf T hd;exact gE a _ h1 {ho:=⟨o,h2,hc a o h1 h2,h3⟩,gl:=rfl,bi:=rfl,cl:=rfl,bd:=by refine (?_:Th d.body=_);exact aa hb rfl,sc:=hs,cd:=λh K=>(BR K h4).rec,bind:=hbind pm code doc}
noncomputable def gC:Str:=ag "_strip_quoted_realnames"
noncomputable def eA:Str:=ag "_check_parenthesis"
noncomputable def dL:Str:=ag "_ellipsis_match"
noncomputable def im:Str:=ag "pretty_flags"
noncomputable def cX:Str:=ag "_int2digits"
noncomputable def cZ:Str:=ag "_digits2int"
noncomputable def qX:Str:=ag "_law_seatings"
noncomputable def iq:Str:=ag "_law_stairs"
noncomputable def ef:Str:=ag "_law_led"
noncomputable def iT:Str:=ag "law"
noncomputable def kT (as:List PV):Option PV:=match as with
 |[.int a,.int n]=>if decide (0<=a)&&decide (1<=n)&&decide (n<=512)&&decide (cD a.toNat n.toNat<=128)&&decide (a.toNat<2^65536) then some (.list ((eP n.toNat (cD a.toNat n.toNat) a.toNat).map .int)) else none
 |_=>none
noncomputable def kI (as:List PV):Option PV:=match as with
 |[.list xs,.int n]=>(match ji xs with
  |some l=>if l.all (λd=>decide (0<=d)&&decide (d.toNat<2^n.toNat))&&decide (l.length<=128)&&decide (0<=n)&&decide (n<=512) then some (.int (bl n.toNat (l.map hG):Nat)) else none
  |none=>none)
 |_=>none
theorem GG {as:List PV} {d:PV} (h:kT as=some d):∃a n,as=[.int a,.int n]:=by
 induction as using aP with
 |nil=>exact ac h
 |cons x r=>
  induction x using PV.casesOn with
  |int a=>
   induction r using aP with
   |nil=>exact ac h
   |cons y r=>
    induction y using PV.casesOn with
    |int n=>induction r using aP with
     |nil=>exact uf a n rfl
     |cons _ _=>exact ac h
    |_=>exact ac h
  |_=>exact ac h
theorem OD {as:List PV} {d:PV} (h:kI as=some d):∃xs n,as=[.list xs,.int n]:=by
 induction as using aP with
 |nil=>exact ac h
 |cons x r=>
  induction x using PV.casesOn with
  |list a=>
   induction r using aP with
   |nil=>exact ac h
   |cons y r=>
    induction y using PV.casesOn with
    |int n=>induction r using aP with
     |nil=>exact uf a n rfl
     |cons _ _=>exact ac h
    |_=>exact ac h
  |_=>exact ac h
noncomputable def O1:Orc:=wG O0 nEsc tz
noncomputable def O2 (p:Program):Orc:=jz O1 gC (bQ p O1 gC)
noncomputable def O3 (p:Program):Orc:=jz (O2 p) eA (bQ p (O2 p) eA)
noncomputable def O4 (p:Program):Orc:=jz (jz (O3 p) dL (bQ p O0 dL)) im (bQ p O0 im)
noncomputable def O5 (p:Program):Orc:=jz (jz (O4 p) cX kT) cZ kI
noncomputable def O6 (p:Program):Orc:=jz (jz (jz (O5 p) qX (bQ p (O5 p) qX)) iq (bQ p (O5 p) iq)) ef (bQ p (O5 p) ef)
theorem HR (OK:bq X O0 0) (G:bq X O1 8) (F:∀f∈[gC,eA,dL,im,qX,iq,ef],nK p X f) (hi:m8 X cX kT 140) (hd:m8 X cZ kI 140):bq X (O6 p) 143:=by have f1:=F gC (.head _);have f2:=F eA (.tail _ (.head _));have f3:=F dL (.tail _ (.tail _ (.head _)));have f4:=F im (.tail _ (.tail _ (.tail _ (.head _))));have f5:=F qX (.tail _ (.tail _ (.tail _ (.tail _ (.head _)))));have f6:=F iq (by decide);have f7:=F ef (by decide);have a2:bq X (O2 p) 11:=kN (pC G (dv _ _)) (lP G f1) (bf _);have a3:bq X (O3 p) 14:=kN (pC a2 (dv _ _)) (lP a2 f2) (bf _);have a4:bq X (O4 p) 14:=kN (kN a3 (lP OK f3) (dv _ _)) (lP OK f4) (dv _ _);have a5:bq X (O5 p) 140:=kN (kN (pC a4 (dv _ _)) hi (bf _)) hd (bf _);exact kN (kN (kN (pC a5 (dv _ _)) (lP a5 f5) (bf _)) (lP a5 f6) (bf _)) (lP a5 f7) (bf _)
end
section
variable {O:Orc} {n:Nat} {sc:Scope} {σ σ':Sg}
theorem bc {i:Int} {k p}:pe O (n+1) sc σ (.Constant (.int i) k p)=some (.int i):=rfl
theorem kS {b:Bool} {k p}:pe O (n+1) sc σ (.Constant (.bool b) k p)=some (.bool b):=rfl
theorem nG {k p}:pe O (n+1) sc σ (.Constant .none k p)=some .none:=rfl
theorem fU {x:Str} {k p} (h:bt x.length=true):pe O (n+1) sc σ (.Constant (.str x) k p)=some (.str x):=by refine (?_:(if bt x.length=true then some (PV.str x) else none)=_);exact aa (if_pos h) rfl
theorem aC {x:Str} {d:PV} {q:Pos} (hx:bj sc x=true) (h:σ.lookup x=some (.sh d)):pe O (n+1) sc σ (.Name x q)=some d:=nb hx h
theorem aR {l r:ab} {op:mz} {p:Pos} {a b d:PV} (h1:pe O n sc σ l=some a) (h2:pe O n sc σ r=some b) (h:bV op a b=some d):pe O (n+1) sc σ (.BinOp l op r p)=some d:=by refine aa xl (aa h1 (aa h2 ?_));exact h
theorem s8 {x:ab} {p:Pos} {i:Int} (h:pe O n sc σ x=some (.int i)):pe O (n+1) sc σ (.UnaryOp .USub x p)=some (.int (-i)):=by exact aa zX (aa h rfl)
theorem br {l r:ab} {op:nS} {p:Pos} {a b:PV} {c:Bool} (h1:pa O n sc σ l=some a) (h2:pa O n sc σ r=some b) (h:fE op a b=some c):pe O (n+1) sc σ (.Compare l [op] [r] p)=some (.bool c):=by refine aa tD (aa h1 (aa h2 ?_));refine (?_:(fE op a b).map PV.bool=_);refine aa h ?_;rfl
theorem aD {x:Str} {d:PV} {q:Pos} (hx:bj sc x=true) (h:iu σ x=some d):pa O (n+1) sc σ (.Name x q)=some d:=(if_pos hx).trans h
noncomputable def zB:ab->Bool
 |.UnaryOp .Not _ _=>false
 |.BoolOp .. =>false
 |.IfExp .. =>false
 |_=>true
theorem Hb {e:ab} (h:zB e=true):pT O (n+1) sc σ e=(match pa O n sc σ e with|some d=>eO d|none=>none):=by
 induction e using bE with
 |UnaryOp op x p=>cases op<;>first|rfl|exact aZ h
 |BoolOp=>exact aZ h
 |IfExp=>exact aZ h
 |_=>rfl
theorem aB {e:ab} {d:PV} (hn:qc e=true:=by rfl) (h:pe O n sc σ e=some d):pa O (n+1) sc σ e=some d:=by
 induction e using bE<;>first|exact h|exact aZ hn
theorem bA {e:ab} {d:PV} {c:Bool} (hp:zB e=true:=by rfl)
  (h:pa O n sc σ e=some d) (ht:eO d=some c):pT O (n+1) sc σ e=some c:=by
 refine aa (Hb hp) (aa h ?_);exact ht
theorem GP {x:ab} {p:Pos} {c:Bool} (h:pT O n sc σ x=some c):pT O (n+1) sc σ (.UnaryOp .Not x p)=some (!c):=by refine (?_:Option.map (λx=> !x) (pT O n sc σ x)=_);refine aa h ?_;rfl
theorem wE {t b o:ab} {p:Pos} {c:Bool} {d:PV} (h:pT O n sc σ t=some c) (hb:c=true->pe O n sc σ b=some d) (ho:c=false->pe O n sc σ o=some d):pe O (n+1) sc σ (.IfExp t b o p)=some d:=by
 refine aa y0 (aa h ?_)
 induction c using d8
 ·exact ho rfl
 ·exact hb rfl
theorem gM {v i:ab} {p:Pos} {a k d:PV} (hi:m0 i=true:=by rfl) (h1:pa O n sc σ v=some a) (h2:pe O n sc σ i=some k) (ho:cE σ v=false) (h:fN a k=some d):pe O (n+1) sc σ (.Subscript v i p)=some d:=by refine aa (wK hi) (aa h1 (aa h2 ?_));refine (?_:dZ _ _=_);refine aa ho ?_;exact h
theorem wQ {o:Bool} {d:PV} (h:d.flat=true):dZ o (some d)=some d:=by
 induction o using d8
 ·rfl
 ·exact if_pos h
theorem gv {f:Str} {fp p:Pos} {args:List ab} {ds:List PV} {d:PV} (hf:bS sc f=true) (h1:aY (pa O n sc σ) args=some ds) (h:dr O f ds=some d) (ho:args.any (cE σ)=false\/d.flat=true):pe O (n+1) sc σ (.Call (.Name f fp) args [] p)=some d:=by
 refine aa wi (aa (if_pos hf) (aa h1 ?_));refine (?_:dZ _ _=_);refine aa h ?_;rcases ho with ho|ho
 ·refine aa ho ?_;rfl
 ·exact wQ ho
theorem oL {f x:Str} {fp q p:Pos} {a d:PV} (hf:bS sc f=true) (h1:pa O n sc σ (.Name x q)=some a) (ho:cE σ (.Name x q)=false) (h:dr O f [a]=some d):pe O (n+1) sc σ (.Call (.Name f fp) [.Name x q] [] p)=some d:=by exact gv hf (aN h1 bC) h (.inl (by refine (?_:(cE σ _||false)=false);rw[ho];rfl))
theorem kM {f x:Str} {fp q p:Pos} {a d:PV} (hf:bS sc f=true) (h1:pa O n sc σ (.Name x q)=some a) (h:dr O f [a]=some d) (hd:d.flat=true):pe O (n+1) sc σ (.Call (.Name f fp) [.Name x q] [] p)=some d:=by exact gv hf (aN h1 bC) h (.inr hd)
theorem Hl {x:Str} {d:PV} {q:Pos} (hx:bj sc x=false) (hg:bS sc x=true) (h:O.gc x=some d):pe O (n+1) sc σ (.Name x q)=some d:=by rw[rA,if_neg (by rw[hx];decide),if_pos hg];exact h
theorem v7 {x:Str} {d:PV} {q:Pos} (hx:bj sc x=false) (hg:bS sc x=true) (h:O.gc x=some d):pa O (n+2) sc σ (.Name x q)=some d:=by exact (if_neg (hx▸iZ)).trans (Hl hx hg h)
theorem mU {x name:Str} {xp apos pos:Pos} {args:List ab} {r d:PV} {ds:List PV} (hx:bj sc x=true) (hp:(apos.endLine==pos.line)=true) (hl:iY args.length 30=true) (h1:iu σ x=some r) (h2:aY (pa O n sc σ) args=some ds) (h:dZ (cE σ (.Name x xp)||args.any (cE σ)) (cY r name ds)=some d):pe O (n+1) sc σ (.Call (.Attribute (.Name x xp) name apos) args [] pos)=some d:=by rw[tm,if_pos (by rw[hp,hl];rfl),if_pos hx,h1,h2];exact h
theorem wW {v i:ab} {p:Pos} {a k d:PV} (hi:m0 i=true:=by rfl) (h1:pa O n sc σ v=some a) (h2:pe O n sc σ i=some k) (h:fN a k=some d) (hd:d.flat=true):pe O (n+1) sc σ (.Subscript v i p)=some d:=by refine aa (wK hi) (aa h1 (aa h2 ?_));refine (?_:dZ _ _=_);refine aa h ?_;exact wQ hd
theorem nQ {xs:List PV}:dr O (ag "len") [.list xs]=some (.int (xs.length:Nat)):=rfl
theorem rf {x y:Int}:bV .Add (.int x) (.int y)=some (.int (x+y)):=rfl
theorem q0 {x y:Int}:bV .Sub (.int x) (.int y)=some (.int (x - y)):=rfl
theorem Lu {x y:Int}:bV .BitXor (.int x) (.int y)=some (.int (rI x y)):=rfl
theorem kK {x y:Int} (h:bX x<=64\/bX x+bX y<=1000000):bV .Mult (.int x) (.int y)=some (.int (x*y)):=by
 have:(decide (bX x<=64)||decide (bX x+bX y<=1000000))=true:=by rewrite[vh];refine aa decide_eq_true_eq (aa decide_eq_true_eq ?_);exact h
 unfold bV;simp only[this,if_true]
theorem zk {x s:Nat}:bV .RShift (.int x) (.int s)=some (.int ((x/2^s:Nat):Int)):=by have h:=Lz x s;unfold bV;simp only;rw[if_pos (by simp),h]
theorem zl {x s:Nat} (h:bX (x:Int)+s<=134217728):bV .LShift (.int x) (.int s)=some (.int ((x*2^s:Nat):Int)):=by
 unfold bV;simp only;rw[if_pos]
 ·congr 2
 ·simp only[bF,decide_eq_true_eq];have:(2:Int)^27=134217728:=by decide
  refine aa this ?_;exact Pn h
theorem bM {x:Str} {xp q:Pos} {e:ab} {d:PV} (hx:bb sc x=true) (hl:ou e=true:=by rfl) (h:pe O n sc σ e=some d) (hs:∀xs,d=.list xs->kg e=false):
  px O (n+1) sc σ (.Assign [.Name x xp] e q)=some (.nx (put σ x (.sh d))):=by
 refine aa qN (aa (if_pos hx) (aa (qU hl) (aa h ?_)))
 induction d using PV.casesOn with
 |list xs=>refine aa (show kg e=false from hs xs rfl) ?_;rfl
 |_=>rfl
theorem aT {st:aL} {r:List aL} {o:Option Out} (h:px O n sc σ st=some (.nx σ')) (hr:aJ O n sc σ' r=o):aJ O (n+1) sc σ (st::r)=o:=by refine aa oH (aa h ?_);exact hr
theorem a9:aJ O (n+1) sc σ []=some (.nx σ):=rfl
theorem tV {x y:Nat}:fE .Eq (.int x) (.int y)=some (decide (x=y)):=by
 have:fE .Eq (.int x) (.int y)=some ((x:Int)==(y:Int)):=rfl;refine aa this ?_;congr 1
 by_cases h:x=y
 ·subst h;simp
 ·have h2:¬ (x:Int)=(y:Int):=vx h;simp[h,h2]
end
noncomputable abbrev cI (i:Int) (p:Pos):ab:=.Constant (.int i) 0 p
section
variable {isc:Scope} {p1 p2 p3 p4 p5 p6 p7 p8 p9 p10 p11 p12 p13 p14 p15 p16 p17 p18 p19 p20 p21 p22 p23 p24 p25 p26 p27 p28 p29 p30 p31 p32 p33 p34 p35 p36 p37 p38 p39:Pos}
theorem AK (L R:Nat):bV .RShift (.int ((L:Int)+(R:Int))) (.int 1)=some (.int (((L+R)/2:Nat):Int)):=by have h:=zk (x:=L+R) (s:=1);have e:((L+R:Nat):Int)=(L:Int)+(R:Int):=GW;replace h:=e▸h;exact h
theorem Bt {a b:Nat} (h:b<=a):bV .Sub (.int a) (.int b)=some (.int ((a - b:Nat):Int)):=by refine aa q0 ?_;congr 2;lia
theorem CA {a b:Nat} (h:a<=128):bV .Mult (.int a) (.int b)=some (.int ((a*b:Nat):Int)):=by rw[kK (.inl (al (hF (k:=8) (by lia)) (by decide)))];congr 2
theorem L6 (hv:∀x∈[fQ,nL,nR,nN,ce,dK,gG,gZ],bj isc x=true) (hs:∀x∈[ce,dK,gG,gZ],bb isc x=true):wY isc (.Compare (.BinOp (.Name nL p1) .Add (cI 1 p2) p3) [.Eq] [.Name nR p4] p5) (.Name fQ p6) (.Name nL p7)
   (.Assign [.Name ce p8] (.BinOp (.BinOp (.Name nL p9) .Add (.Name nR p10) p11) .RShift (cI 1 p12) p13) p14)
   (.Assign [.Name dK p15] (.BinOp (.BinOp (.Name ce p16) .Sub (.Name nL p17) p18) .Mult (.Name nN p19) p20) p21)
   (.Assign [.Name gG p22] (.BinOp (.Name fQ p23) .RShift (.Name dK p24) p25) p26)
   (.Assign [.Name gZ p27] (.BinOp (.Name fQ p28) .BitXor (.BinOp (.Name gG p29) .LShift (.Name dK p30) p31) p32) p33)
   [.Name gZ p34,.Name nL p35,.Name ce p36] [.Name gG p37,.Name ce p38,.Name nR p39] where
 hT:=λO σ L R h1 h2=>by refine bA (d:=.bool (decide (L+1=R))) (h:=aB (h:=?_)) (ht:=rfl);refine br (aB (h:=aR (aC (hv _ (.tail _ (.head _))) h1) bc rf)) (aD (hv _ (.tail _ (.tail _ (.head _)))) (aF h2)) ?_;exact tV (x:=L+1) (y:=R)
 hx:=λO σ x h=>aC (hv _ (.head _)) h
 hL:=λO σ x h=>aC (hv _ (.tail _ (.head _))) h
 hss:=λO σ x L R n hx hL hR hN b1 b2 b3 b4=>by
  have hmL:∀d,(put σ ce d).lookup nL=some (.sh (.int (L:Int))):=λd=>by refine au (by decide) ?_;exact hL
  have hmx:∀d,(put σ ce d).lookup fQ=some (.sh (.int (x:Int))):=λd=>by refine au (by decide) ?_;exact hx
  have hmN:∀d,(put σ ce d).lookup nN=some (.sh (.int (n:Int))):=λd=>by refine au (by decide) ?_;exact hN
  refine cn ((L+R)/2) λmid hm=>?_;have c1:L<=mid:=z0 b4 hm;have c2:mid<=128:=Ay b1 b4 hm;have hb:(mid - L)*n<=128*512:=kE (xL b1 hm) b2;refine aT (bM (d:=.int ((mid:Nat):Int)) (hs _ (.head _)) (h:=aR (aR (aC (hv _ (.tail _ (.head _))) hL) (aC (hv _ (.tail _ (.tail _ (.head _)))) hR) rf) bc (by (rewrite[AK];exact aa hm rfl))) (hs:=λxs z=>nomatch z)) ?_;refine aT (bM (hs _ (.tail _ (.head _))) (h:=aR (aR (aC (hv _ (.tail _ (.tail _ (.tail _ (.tail _ (.head _)))))) (aM)) (aC (hv _ (.tail _ (.head _))) (hmL _)) (Bt c1)) (aC (hv _ (.tail _ (.tail _ (.tail _ (.head _))))) (hmN _)) (CA (xL b1 hm))) (hs:=λxs z=>nomatch z)) ?_;revert hb;refine aX ((mid - L)*n) λsft=>?_;intro hb;refine aT (bM (hs _ (.tail _ (.tail _ (.head _)))) (h:=aR (aC (hv _ (.head _)) (by refine au (by decide) ?_;exact hmx _)) (aC (hv _ (by simp)) (aM)) zk) (hs:=λxs z=>nomatch z)) ?_;have hbits:bX ((x/2^sft:Nat):Int)<=65536:=hF (eN (uD _ _) b3);refine aT (bM (hs _ (.tail _ (.tail _ (.tail _ (.head _))))) (h:=aR (aC (hv _ (.head _)) (by refine au (by decide) ?_;refine au (by decide) ?_;exact hmx _)) (aR (aC (hv _ (by simp)) (aM)) (aC (hv _ (by simp)) (by refine au (by decide) ?_;exact aM)) (zl (Mb hb hbits))) Lu) (hs:=λxs z=>nomatch z)) ?_;have e:rI (x:Int) ((x/2^sft*2^sft:Nat):Int)=((x%2^sft:Nat):Int):=by
   have:=Hv x sft
   push_cast at this⊢
   exact this
  refine aa e ?_;exact a9
 ha1:=λO σ x L R h1 h2 h3=>aN (aC (hv _ (by simp)) h1) (aN (aC (hv _ (.tail _ (.head _))) h2) (aN (aC (hv _ (.tail _ (.tail _ (.tail _ (.tail _ (.head _)))))) h3) bC))
 ha2:=λO σ x L R h1 h2 h3=>aN (aC (hv _ (by simp)) h1) (aN (aC (hv _ (.tail _ (.tail _ (.tail _ (.tail _ (.head _)))))) h2) (aN (aC (hv _ (.tail _ (.tail _ (.head _)))) h3) bC))
theorem EL (hv:∀x∈[nL,nR,nN,ce,dK,cT],bj isc x=true) (hs:∀x∈[ce,dK],bb isc x=true):vS isc (.Compare (.BinOp (.Name nL p1) .Add (cI 1 p2) p3) [.Eq] [.Name nR p4] p5) (.Subscript (.Name cT p6) (.Name nL p7) p8)
   (.Assign [.Name ce p9] (.BinOp (.BinOp (.Name nL p10) .Add (.Name nR p11) p12) .RShift (cI 1 p13) p14) p15)
   (.Assign [.Name dK p16] (.BinOp (.BinOp (.Name ce p17) .Sub (.Name nL p18) p19) .Mult (.Name nN p20) p21) p22)
   (.Name dK p23) [.Name ce p24,.Name nR p25] [.Name nL p26,.Name ce p27] where
 hT:=λO σ L R h1 h2=>by refine bA (d:=.bool (decide (L+1=R))) (h:=aB (h:=?_)) (ht:=rfl);refine br (aB (h:=aR (aC (hv _ (.head _)) h1) bc rf)) (aD (hv _ (.tail _ (.head _))) (aF h2)) ?_;exact tV (x:=L+1) (y:=R)
 hD:=λO σ L ds h1 h2 h3=>by
  refine gM (h1:=aD (hv _ (by simp)) (aF h2)) (h2:=aC (hv _ (.head _)) h1) (ho:=dX h2) (h:=?_);unfold fN;simp only[bx];have e:iD (L:Int) ds.length=some L:=by unfold iD;have hneg:¬ ((L:Int)<0):=L7;simp[hneg,h3]
  refine aa e ?_;simp[h3,uJ]
 hss:=λO σ L R n hL hR hN b1 b2 b4=>by
  have hmL:∀d,(put σ ce d).lookup nL=some (.sh (.int (L:Int))):=λd=>by refine au (by decide) ?_;exact hL
  have hmN:∀d,(put σ ce d).lookup nN=some (.sh (.int (n:Int))):=λd=>by refine au (by decide) ?_;exact hN
  refine cn ((L+R)/2) λmid hm=>?_;have c1:L<=mid:=z0 b4 hm;have c2:mid<=128:=Ay b1 b4 hm;refine aT (bM (d:=.int ((mid:Nat):Int)) (hs _ (.head _)) (h:=aR (aR (aC (hv _ (.head _)) hL) (aC (hv _ (.tail _ (.head _))) hR) rf) bc (by (rewrite[AK];exact aa hm rfl))) (hs:=λxs z=>nomatch z)) ?_;refine aT (bM (hs _ (.tail _ (.head _))) (h:=aR (aR (aC (hv _ (.tail _ (.tail _ (.tail _ (.head _))))) (aM)) (aC (hv _ (.head _)) (hmL _)) (Bt c1)) (aC (hv _ (.tail _ (.tail _ (.head _)))) (hmN _)) (CA (xL b1 hm))) (hs:=λxs z=>nomatch z)) ?_;exact a9
 hS:=λO σ x h=>aC (hv _ (.tail _ (.tail _ (.tail _ (.tail _ (.head _)))))) h
 ha1:=λO σ L R h1 h2=>aN (aC (hv _ (.tail _ (.tail _ (.tail _ (.head _))))) h1) (aN (aC (hv _ (.tail _ (.head _))) h2) bC)
 ha2:=λO σ L R h1 h2=>aN (aC (hv _ (.head _)) h1) (aN (aC (hv _ (.tail _ (.tail _ (.tail _ (.head _))))) h2) bC)
theorem MJ {sc:Scope} (h1:bj sc cT=true) (h2:bS sc (ag "len")=true) (s2:bb sc bn=true) (i1:ed sc nN=true) (i2:ed sc bn=true) (i3:ed sc cT=true) (ng:(sc.names.lookup bn==some yA)=false):CT sc (.Name cT p1) (cI 0 p2) [cI 0 p3,.Call (.Name (ag "len") p4) [.Name cT p5] [] p6] where
 hT:=λO σ ds h=>by
  refine aa (jP h1 h) ?_;unfold eO gK
  induction ds using aP<;>rfl
 h0:=λO σ=>bc
 ha:=λO σ ds h=>aN bc (aN (oL h2 (aD h1 (aF h)) (dX h) (by refine aa nQ ?_;simp[gK])) bC)
 s2:=s2
 i1:=i1
 i2:=i2
 i3:=i3
 ok1:=by decide
 ng:=ng
theorem HH {sc:Scope} (h1:bj sc nA=true) (h2:bj sc nN=true) (h3:bj sc dj=true) (h4:bS sc (ag "len")=true) (hp:(p6.endLine==p7.line)=true) (s1:bb sc dj=true) (s2:bb sc bn=true) (i1:ed sc nN=true) (i2:ed sc bn=true) (i3:ed sc dj=true) (ng:(sc.names.lookup bn==some yA)=false):Al sc (.BinOp (.List [cI 0 p1] p2) .Mult (.BinOp (.BinOp (.BinOp (.Call (.Attribute (.Name nA p5) (ag "bit_length") p6) [] [] p7) .Add (.Name nN p8) p9) .Sub (cI 1 p10) p11) .FloorDiv (.Name nN p12) p13) p14) (.Name nA p15) [.Name nA p16,cI 0 p17,.Call (.Name (ag "len") p18) [.Name dj p19] [] p20] where
 hE:=λX A s env σ W O a n OK R S V la ln c1 c2 c3 c4=>by
  have hl:pe O 12 sc σ (.List [cI 0 p1] p2)=some (.list [.int 0]):=rfl;have hbits:bX (a:Int)<=65536:=hF c3;refine QP (aA (dP OK R 12 sc σ env [] W _ _ s hl S V) (λv1 t1 h_=>aI h_ λS1 k1 r1=>?_) λζ ζ f=>f.elim);rw[lg] at r1;have V1:=V.keep k1.kb;have hd:bV .FloorDiv (.int ((bX (a:Int):Int)+(n:Int) - 1)) (.int n)=some (.int (cD a n:Nat)):=by
   have e0:((bX (a:Int):Int)+(n:Int) - 1)=((bX (a:Int)+n - 1:Nat):Int):=by lia
   refine aa e0 ?_;unfold bV;simp only;rw[if_pos]
   ·congr 2;unfold cD;exact Int.ofNat_fdiv _ _ |>.symm
   ·simp only[bF,bne_iff_ne,ne_eq,decide_eq_true_eq];refine⟨Lc c1,?_⟩;have:(2:Nat)^60=1152921504606846976:=by decide
    refine aa this ?_;rw[RA];lia
  have hev:=pn (pos:=p13) (R.mono (xR)) S1 V1 (pn (pos:=p11) (R.mono (xR)) S1 V1 (pn (pos:=p9) (R.mono (xR)) S1 V1 (Gp (W:=W++ay []) rfl hp S1 (dP OK R 12 sc σ env [] W _ _ t1 (aC (n:=11) (q:=p5) h1 la) S1 V1)) (λs' S' k'=>dP OK R 12 sc σ env [] W _ _ s' (aC (n:=11) (q:=p8) h2 ln) S' (V1.keep k'.kb)) rf)
   (λs' S' k'=>dP OK R 12 sc σ env [] W _ _ s' (bc (n:=11) (i:=1) (k:=0) (p:=p10)) S' (V1.keep k'.kb)) q0) (λs' S' k'=>dP OK R 12 sc σ env [] W _ _ s' (aC (n:=11) (q:=p12) h2 ln) S' (V1.keep k'.kb)) hd
  refine aA hev (λv2 t2 h_=>aI h_ λS2 k2 r2=>?_) λζ ζ f=>f.elim;obtain ⟨l,vs,rfl,hlW,⟨lk,hl⟩,hlen,rl⟩:=r1;refine aE r2 λu e1_=>?_;clear r2;subst e1_;have hlen1:vs.length=1:=by refine aa rl.length ?_;rfl
  have hsz:vs.length*((cD a n:Nat):Int).toNat<=sizeLine:=by (refine aa hlen1 ?_;rw[gb,og]);exact al c2 (by decide)
  refine C1 (vs:=vs) ⟨_,k2.kb l _ (λq=>nomatch q) rfl hl,rfl,_,rfl⟩ (GB) (Ni c2) hsz ?_;have kp:∀b o,t2.heap.get? b=some o->_:=λb o e=>bK (o:={cls:=.type "list",data:=.seq ((fH ((cD a n:Nat):Int).toNat vs).flatten).toArray}) b o e;refine⟨S2.keep (tk:=t2.toks) kp,(k1.trans k2).trans (af.keep (tk:=t2.toks) kp),_,_,_,rfl,(k1.trans k2).none eJ,dH _ rfl,by refine aa Bu ?_;exact hsz,?_⟩;have rr:=w1 rl (cD a n);rw[gb];have e1:(fH (cD a n) [PV.int 0]).flatten=fH (cD a n) (.int 0):=by
   refine aX (cD a n) λk=>?_
   induction k with
   |zero=>rfl
   |succ k ih=>refine aa Dm (aa nV (aa ih ?_));rfl
  replace rr:=e1▸rr;exact fX (λd hd=>by refine aa (yC hd) ?_;rfl) rr
 hT:=λO σ a h=>by
  refine aa (jP h1 h) ?_;show some _=some _;congr 1
  by_cases q:a=0
  ·subst q;rfl
  ·simp[q]
 ha:=λO σ a k h h'=>aN (aC h1 h) (aN bc (aN (oL h4 (aD h3 (aF h')) (dX h') (by refine aa nQ ?_;simp)) bC))
 cf:=rfl
 s1:=s1
 s2:=s2
 i1:=i1
 i2:=i2
 i3:=i3
 ok1:=by decide
 ok2:=by decide
 ng:=ng
end
noncomputable abbrev pw:Program:=PySem.Challenge.pw_tc0009_02
noncomputable def bD (f:Str):DefRec:=(jA pw f).getD ⟨f,{posonlyargs:=[],args:=[],vararg:=none,kwonlyargs:=[],kw_defaults:=[],kwarg:=none,defaults:=[]},[],{kind:=.function,names:=[],isGenerator:=false,isCoroutine:=false,more:=[]},⟨0,0,0,0⟩⟩
noncomputable def Mz (d:DefRec):Pos:=match d.body.findSome? (λst=>match st with|.FunctionDef _ _ _ _ _ _ _ _ _ p=>some p|_=>none) with
 |some p=>p
 |none=>⟨0,0,0,0⟩
noncomputable def jf (d:DefRec):DefRec:=match d.body.findSome? (λst=>match st with|.FunctionDef n a b _ _ _ sc _ _ p=>some ⟨n,a,b,sc,p⟩|_=>none) with
 |some r=>r
 |none=>d
theorem r1:jA pw cX=some (bD cX):=by rfl
theorem r2:jA pw cZ=some (bD cZ):=by rfl
theorem r3:jA pw nEsc=some (bD nEsc):=by rfl
noncomputable def tb (f:Str) (c P:Addr):Tb:={c:=c,P:=P,pos:=Mz (bD f),qual:=f++ag ".<locals>." ++bn}
section
variable {X:Cx} {loose:List Str} {mean:pW->Option Value}
noncomputable def kU (X:Cx) (f:Str):Prop:=∀a o,X.mg f=some (.ref a)->X.h0.get? a=some o->o.cls=.type "function"
noncomputable def sW (X:Cx) (f:Str) (c:Addr):Prop:=∀a o fd,X.mg f=some (.ref a)->X.h0.get? a=some o->o.data=.func fd->fd.code=.ref c
theorem GK:nh [fQ,nL,nR] (jf (bD cX)).params (jf (bD cX)).scope (jf (bD cX)).body nN bn dj where
 co:=rfl
 ge:=rfl
 kd:=rfl
 nd:=by decide
 nm:=by
  have h:(jf (bD cX)).scope.names.all (λy=>cw y.1)=true:=by decide
  exact λx k hx=>c9.mp h _ hx
 pst:=by decide
 bind:=λqual clos doc pm ct cv vs h=>by obtain ⟨a,b,c,rfl⟩:=xc h;rfl
 fr:=λx hx=>by
  have h:(jf (bD cX)).scope.names.all (λy=>y.2 != .free||y.1==nN||y.1==bn||y.1==dj)=true:=by decide
  have:=c9.mp h _ (cm hx);simpa [or_assoc] using this
 f1:=by decide
 f2:=by decide
 f3:=by decide
 noc:=λx hx=>by
  have h:(jf (bD cX)).scope.names.all (λy=>y.2 != .cell)=true:=by decide
  have:=c9.mp h _ hx;exact aZ this
 n12:=by decide
 n13:=by decide
 n23:=by decide
 clo:=λcells=>rfl
 doc:=rfl
 d0:=rfl
 k0:=rfl
 an:=λenv=>rfl
theorem N3:nh [nL,nR] (jf (bD cZ)).params (jf (bD cZ)).scope (jf (bD cZ)).body nN bn cT where
 co:=rfl
 ge:=rfl
 kd:=rfl
 nd:=by decide
 nm:=by
  have h:(jf (bD cZ)).scope.names.all (λy=>cw y.1)=true:=by decide
  exact λx k hx=>c9.mp h _ hx
 pst:=by decide
 bind:=λqual clos doc pm ct cv vs h=>by obtain ⟨a,b,rfl⟩:=qy h;rfl
 fr:=λx hx=>by
  have h:(jf (bD cZ)).scope.names.all (λy=>y.2 != .free||y.1==nN||y.1==bn||y.1==cT)=true:=by decide
  have:=c9.mp h _ (cm hx);simpa [or_assoc] using this
 f1:=by decide
 f2:=by decide
 f3:=by decide
 noc:=λx hx=>by
  have h:(jf (bD cZ)).scope.names.all (λy=>y.2 != .cell)=true:=by decide
  have:=c9.mp h _ hx;exact aZ this
 n12:=by decide
 n13:=by decide
 n23:=by decide
 clo:=λcells=>rfl
 doc:=rfl
 d0:=rfl
 k0:=rfl
 an:=λenv=>rfl
end
section
variable {X:Cx} {loose:List Str} {mean:pW->Option Value}
theorem Br {f:Str} (T:gH pw X) (hr:jA pw f=some (bD f)) (hc:kU X f) {ps:List Str} (hf:qT (bD f).scope ps=true) (hb:∀pm code doc (vs:List Value),vs.length=ps.length->lC (oj (bD f).name (bD f).params (bD f).body (bD f).scope pm code doc) ⟨vs,[]⟩=pure (ps.zip vs)):∃fa fd,X.mg f=some (.ref fa)/\mn X fa fd ps (bD f).body/\fd.scope=(bD f).scope/\fd.qualname=f:=by have hm:=Ea hr;have hname:(bD f).name=f:=beq_iff_eq.mp (Rz (p:=λe:DefRec=>e.name==f) hr);refine gL (zH T hm (by refine aa hname ?_;exact hc) hf hb) λfa fd h1 h2 h3 h4 ζ=>?_;exact Ag fa fd (by refine aH hname ?_;exact h1) h2 h3 (h4.trans hname)
theorem MI (T:gH pw X) (hc:kU X cX) {c P:Addr} (hcd:sW X cX c) (hT:jO X (tb cX c P)) (OK:bq X O0 0):m8 X cX kT 140:=by
 intro as d e
 obtain ⟨fa,fd,h1,h2,h3,h4⟩:=Br T r1 hc (ps:=[nA,nN]) (by decide) (λpm code doc vs h=>by
  obtain ⟨a,b,rfl⟩:=qy h;rfl)
 refine bB h2.ho λo ho hcl hd=>?_;refine⟨by decide,by decide,fa,h1,⟨o,fd,ho,hcl,hd⟩,λA s W vs R S w r=>?_⟩;refine jJ (GG e) λa n e2_=>?_;subst e2_;delta kT at e;dsimp only at e
 ·refine ifs e λhg e=>?_;simp only[bF,decide_eq_true_eq] at hg;obtain ⟨⟨⟨⟨g1,g2⟩,g3⟩,g4⟩,g5⟩:=hg;have h_:=aj e;clear e;subst h_;refine aE (Eb g1) λa e1_=>?_;subst e1_;refine aE (Eb (show 0<=n by exact L4 g2)) λn e1_=>?_;subst e1_;simp only[RB,gb] at g4 g5 ⊢;refine Lb h2 ?_ GK ?_ (λenv q=>?_) hT (hcd fa o fd h1 ho hd) rfl (by refine aa h4 ?_;rfl) OK (IP g2) g4 g5 (Bh g3) R S w r
  ·refine aa h3 ?_;exact HH (by decide) (by decide) (by decide) (by decide) rfl (by decide) (by decide) (by decide) (by decide) (by decide) (by decide)
  ·exact L6 (by decide) (by decide)
  ·rfl
theorem Gn (T:gH pw X) (hc:kU X cZ) {c P:Addr} (hcd:sW X cZ c) (hT:jO X (tb cZ c P)) (OK:bq X O0 0):m8 X cZ kI 140:=by
 intro as d e
 obtain ⟨fa,fd,h1,h2,h3,h4⟩:=Br T r2 hc (ps:=[cT,nN]) (by decide) (λpm code doc vs h=>by
  obtain ⟨a,b,rfl⟩:=qy h;rfl)
 refine bB h2.ho λo ho hcl hd=>?_;refine⟨by decide,by decide,fa,h1,⟨o,fd,ho,hcl,hd⟩,λA s W vs R S w r=>?_⟩;refine jJ (OD e) λxs n e2_=>?_;subst e2_;delta kI at e;dsimp only at e
 ·set_option smartUnfolding false in refine om e λl hl e=>?_
  refine ifs e λhg e=>?_;simp only[bF,decide_eq_true_eq,c9] at hg;obtain ⟨⟨⟨g1,g2⟩,g3⟩,g4⟩:=hg;have h_:=aj e;clear e;subst h_;refine aE (Eb g3) λn e1_=>?_;subst e1_;have hxs:xs=gK (l.map hG):=by
   have key:∀(xs:List PV) (l:List Int),ji xs=some l->(∀x∈l,0<=x)->xs=gK (l.map hG):=by
    intro xs
    induction xs with
    |nil=>intro l h _;have h_:=aj h;clear h;subst h_;rfl
    |cons x xs ih=>
     intro l h hp
     induction x using PV.casesOn with
     |int i=>refine ah (gy.mp (show (ji xs).map (i:: ·)=some l from h)) λl' h' e2_=>?_;subst e2_;have hi:=hp i (.head _);rw[ih l' h' λy hy=>hp y (.tail _ hy)];simp[gK,P0 hi]
     |_=>exact ac h
   exact key xs l hl λx hx=>(g1 x hx).1
  replace r:=hxs▸r;simp only[RB,gb] at g1 ⊢;refine EB h2 ?_ N3 ?_ hT (hcd fa o fd h1 ho hd) rfl (by refine aa h4 ?_;rfl) OK (by simpa using g2) (λd hd=>?_) (Bh g4) R S w r
  ·refine aa h3 ?_;exact MJ (by decide) (by decide) (by decide) (by decide) (by decide) (by decide) (by decide)
  ·exact EL (by decide) (by decide)
  ·refine ah (dG.mp hd) λx hx e2_=>?_;subst e2_;exact (g1 x hx).2
end
noncomputable def FZ:List (Nat×Pos):=[(0,⟨73,4,73,7⟩),(1,⟨73,10,73,11⟩),(2,⟨73,4,73,11⟩),(3,⟨74,4,74,10⟩),(4,⟨74,13,74,18⟩),(5,⟨74,4,74,18⟩),(10,⟨75,8,75,11⟩),(11,⟨75,13,75,15⟩),(12,⟨75,8,75,15⟩),(13,⟨75,19,75,28⟩),(14,⟨75,29,75,33⟩),(15,⟨75,19,75,34⟩),(16,⟨75,4,82,27⟩),(20,⟨77,19,77,22⟩),(21,⟨77,24,77,28⟩),(22,⟨77,31,77,33⟩),(23,⟨77,24,77,33⟩),(24,⟨77,18,77,34⟩),(30,⟨82,19,82,22⟩),(31,⟨82,24,82,26⟩),(32,⟨82,18,82,27⟩),(40,⟨84,15,84,18⟩),(41,⟨84,20,84,24⟩),(42,⟨84,14,84,25⟩),(50,⟨76,11,76,17⟩),(51,⟨77,12,77,34⟩),(52,⟨77,12,77,34⟩),(53,⟨78,12,78,18⟩),(54,⟨78,21,78,26⟩),(55,⟨78,12,78,26⟩),(56,⟨79,13,79,15⟩),(57,⟨79,19,79,23⟩),(58,⟨79,13,79,23⟩),(60,⟨80,12,80,18⟩),(61,⟨80,21,80,25⟩),(62,⟨80,12,80,25⟩),(63,⟨82,12,82,27⟩),(64,⟨82,12,82,27⟩),(65,⟨79,8,82,27⟩),(66,⟨76,8,82,27⟩),(70,⟨83,7,83,13⟩),(71,⟨84,8,84,25⟩),(72,⟨84,8,84,25⟩),(73,⟨83,4,84,25⟩)]
noncomputable def gPos:Nat->Pos:=λi=>match FZ.lookup i with
 |some p=>p
 |none=>⟨0,0,0,0⟩
section
variable {X:Cx} {loose:List Str} {mean:pW->Option Value}
theorem LR:(bD nEsc).body=l9 gPos:=rfl
theorem ES (T:gH pw X) (hc:kU X nEsc) (OK:bq X O0 0):bq X O1 8:=by
 have hm:=Ea r3;have hname:(bD nEsc).name=nEsc:=by rfl
 refine bR (Ju T hm (by refine aa hname ?_;exact hc) LR rfl (λpm code doc v=>rfl)) λfa fd h1 h2=>?_;exact Fe OK h2 (by refine aH hname ?_;exact h1)
noncomputable def oy:List Str:=[gC,eA,dL,im,qX,iq,ef,iT]
theorem sv {α:Type} {vs:List α} (h:vs.length=1):∃a,vs=[a]:=by refine bR (qu h) λa l e h=>?_;exact⟨a,aa e (aa (zv h) rfl)⟩
theorem nu (T:gH pw X) {f:Str} {d0:DefRec} (hd:jA pw f=some d0) (hbi:fW f=none) (hn:cw f=true) (hf:qT d0.scope (ic d0)=true) (hb:∀pm code doc (vs:List Value),vs.length=(ic d0).length->lC (oj d0.name d0.params d0.body d0.scope pm code doc) ⟨vs,[]⟩=pure ((ic d0).zip vs)):kU X f->nK pw X f:=λhc=>Op T hbi hn hc λd hd'=>by have h:=kr (hd.symm.trans hd');subst h;exact⟨hf,hb⟩
theorem EF {f:Str} (hd:jA pw f=none):kU X f->nK pw X f:=λζ d h=>nomatch hd.symm.trans h
theorem K4 (T:gH pw X) (hc:∀f∈oy,kU X f):∀f∈oy,nK pw X f:=λf hf=>
 (fm_ (P:=λf=>kU X f->nK pw X f) (nu T (d0:=bD gC) (by rfl) (by decide) (by decide) (by decide) λpm code doc vs h=>by obtain ⟨a,rfl⟩:=sv h;rfl)<|
  fm_ (nu T (d0:=bD eA) (by rfl) (by decide) (by decide) (by decide) λpm code doc vs h=>by obtain ⟨a,rfl⟩:=sv h;rfl)<|
  fm_ (nu T (d0:=bD dL) (by rfl) (by decide) (by decide) (by decide) λpm code doc vs h=>by obtain ⟨a,b,rfl⟩:=qy h;rfl)<|
  fm_ (nu T (d0:=bD im) (by rfl) (by decide) (by decide) (by decide) λpm code doc vs h=>by obtain ⟨a,rfl⟩:=sv h;rfl)<|
  fm_ (EF (by rfl))<|
  fm_ (nu T (d0:=bD iq) (by rfl) (by decide) (by decide) (by decide) λpm code doc vs h=>by obtain ⟨a,b,c,d,rfl⟩:=Ij h;rfl)<|
  fm_ (nu T (d0:=bD ef) (by rfl) (by decide) (by decide) (by decide) λpm code doc vs h=>by obtain ⟨a,b,c,rfl⟩:=xc h;rfl)<|
  fm_ (nu T (d0:=bD iT) (by rfl) (by decide) (by decide) (by decide) λpm code doc vs h=>by obtain ⟨a,rfl⟩:=sv h;rfl) j3) f hf (hc f hf)
theorem OX {c1 P1 c2 P2:Addr} (T:gH pw X) (hc:∀f∈nEsc::cX::cZ::oy,kU X f) (G:vO X) (he:∃t,X.mg lS=some (.str (ag "...") t)) (hb:∀f∈ow,X.mg f=none) (k1:sW X cX c1) (k2:sW X cZ c2) (t1:jO X (tb cX c1 P1)) (t2:jO X (tb cZ c2 P2)):m8 X iT (bQ pw (O6 pw) iT) 146:=by
 have OK:=Lf T G he hb;have F:=K4 T λf hf=>hc f (by simp[hf])
 have a6:=HR OK (ES T (hc _ (.head _)) OK) (λf hf=>F f (by
  simp only[av,bz,or_false] at hf;simp only[oy,av,bz,or_false]
  rcases hf with h|h|h|h|h|h|h<;>simp[h])) (MI T (hc _ (.tail _ (.head _))) k1 t1 OK) (Gn T (hc _ (.tail _ (.tail _ (.head _)))) k2 t2 OK)
 exact lP a6 (F iT (by decide))
end
theorem As {W:List Addr} {h:Heap}:∀{vs:List Value} {ns:List Int},rO vs ns->ax W h (ns.map .int) vs
 |_,_,.nil=>rfl
 |_,_,.cons x t r=>⟨_,_,rfl,⟨t,rfl⟩,As r⟩
theorem OY {view:Program} {loose:List Str} {mean:pW->Option Value} {w:iC} {s₁:ae} {mg mb:Str->Option Value} {fa l:Addr} {ns:List Int} {vs:List Value} {P:Params} {c1 P1 c2 P2:Addr} {cl:Str->Option Addr} {meanE:pW->Option Value}  (T:Top view loose mean mg mb s₁.heap) (hview:lE view=lE pw) (hg:s₁.gens= #[]) (hT:TabsAt [(c2,P2),(c1,P1)] s₁.heap) (hP:P1≠P2) (hc:∀f∈nEsc::cX::cZ::oy,∀a o,mg f=some (.ref a)->s₁.heap.get? a=some o->o.cls=.type "function") (hk1:∀a o fd,mg cX=some (.ref a)->s₁.heap.get? a=some o->o.data=.func fd->fd.code=.ref c1) (hk2:∀a o fd,mg cZ=some (.ref a)->s₁.heap.get? a=some o->o.data=.func fd->fd.code=.ref c2) (G:∃da o kvs,mg qi=some (.ref da)/\(da==D9)=false/\s₁.heap.get? da=some o/\o.cls≠.none/\o.IsDictOf (pX pw w) kvs/\vg pY kvs flagD) (he:∃t,mg lS=some (.str (ag "...") t)) (hb:∀f∈ow,mg f=none) (hfa:mg iT=some (.ref fa)) (hl:s₁.heap.IsList l vs.toArray) (hw:Well P s₁.heap (.ref l) (vi (.list (ns.map .int)))) (hi:rO vs ns) (hn:¬ ((63:Nat):Int)<(ns.length:Int)) (hrun:∀ns:List Int,ns.length<=63->bQ pw (O6 pw) iT [.list (ns.map .int)]=some (.bool true)):aq (aw PySem.Challenge.rw_tc0009_02.row.prog w) Ec ((λf vs=>call f vs) (n8 fa) [n8 l])
   (λv s'=>GoodWG PySem.Challenge.rw_tc0009_02.row.claim cl meanE [vi (.list (ns.map .int))] s₁ (Except.ok (DQ v)) s')
   (λe s'=>GoodWG PySem.Challenge.rw_tc0009_02.row.claim cl meanE [vi (.list (ns.map .int))] s₁ (Except.error e) s') s₁:=by
 let X:Cx:=⟨pw,w,s₁.heap,mg,mb,s₁.os,[tb cX c1 P1,tb cZ c2 P2]⟩
 have TL:gH pw X:=gH.of (X:=X) T hview;have hNs:∀b m,s₁.heap.Ns b m->∀ps,s₁.heap.get? b≠some (mE ps):=λb m h_ ps q=>i5 h_ λo es ep h_=>aI h_ λe hd ζ=>by replace q:=e▸q;have h_:=aj q;clear q;subst h_;cases hd
 have h1:=hT (c1,P1) (.tail _ (.head _));have h2:=hT (c2,P2) (.head _);have XO:A6 X:=
  {g:=jQ T.g λo es ep e ζ=>⟨o,e⟩
   b:=jQ T.b λo es ep e ζ=>⟨o,e⟩
   st:=let ⟨mc,⟨o,es,ep,e,_⟩,_⟩:=T.nolimit;⟨o,e⟩
   tb:=λq hq=>by
    have hq:q∈[tb cX c1 P1,tb cZ c2 P2]:=hq;simp only[av,bz,or_false] at hq;rcases hq with rfl|rfl
    ·exact uf c1 (#[]) (h1.1.tab h1.2)
    ·exact uf c2 (#[]) (h2.1.tab h2.2)
   tc:=λq hq=>by
    have hq:q∈[tb cX c1 P1,tb cZ c2 P2]:=hq;simp only[av,bz,or_false] at hq;rcases hq with rfl|rfl
    ·exact h1.1
    ·exact h2.1}
 have S:ai X s₁:=
  {x:=XO,old:=OldK.refl _,g:=T.g,b:=T.b,lim:=T.nolimit,os:=rfl
   bare:=λy hy=>by replace hy:=hg▸hy;simp at hy
   tab:=λq hq=>by
    have hq:q∈[tb cX c1 P1,tb cZ c2 P2]:=hq;simp only[av,bz,or_false] at hq;rcases hq with rfl|rfl
    ·exact⟨h1.1,.inl h1.2⟩
    ·exact⟨h2.1,.inl h2.2⟩}
 have tf:∀P,(P=P1\/P=P2)->s₁.heap.BuiltinsAt mg P/\dF≠P:=λP hP=>by
  have ht:s₁.heap.get? P=some (mE #[]):=by
   rcases hP with rfl|rfl
   ·exact h1.2
   ·exact h2.2
  refine Pu T.bmain λbm ob b1 b2 b3 b4 b5 b6=>?_;refine⟨⟨bm,ob,b1,b2,λz=>?_,λz=>?_,b3,b4,b5,b6⟩,λz=>hNs _ _ T.g _ (z▸ht)⟩
  ·refine jH T.g λo es ep e hd ζ=>?_;replace e:=(eh z)▸e;replace e:=b3▸e;have h_:=aj e;clear e;subst h_;replace hd:=b6▸hd;cases hd
  ·replace b3:=z▸b3;replace b3:=ht▸b3;have h_:=aj b3;clear b3;subst h_;cases b4
 have t1:jO X (tb cX c1 P1):=⟨by refine (?_:_∈[tb cX c1 P1,tb cZ c2 P2]);exact .head _,(tf P1 (.inl rfl)).1,(tf P1 (.inl rfl)).2,λq' hq' e=>by
  have hq':q'∈[tb cX c1 P1,tb cZ c2 P2]:=hq';simp only[av,bz,or_false] at hq';rcases hq' with rfl|rfl
  ·rfl
  ·exact absurd e.symm hP⟩
 have t2:jO X (tb cZ c2 P2):=⟨by refine (?_:_∈[tb cX c1 P1,tb cZ c2 P2]);exact .tail _ (.head _),(tf P2 (.inr rfl)).1,(tf P2 (.inr rfl)).2,λq' hq' e=>by
  have hq':q'∈[tb cX c1 P1,tb cZ c2 P2]:=hq';simp only[av,bz,or_false] at hq';rcases hq' with rfl|rfl
  ·exact absurd e hP
  ·rfl⟩
 have C:=OX (X:=X) TL hc ⟨G⟩ he hb hk1 hk2 t1 t2;obtain ⟨_,_,fa',h3,_,hC⟩:=C [.list (ns.map .int)] (.bool true) (hrun ns (Ip hn));have h3:mg iT=some (.ref fa'):=h3;replace h3:=hfa▸h3;cases h3;have hex:s₁.heap.get? l=some {cls:=.type "list",data:=.seq vs.toArray}:=by
  have hw':Well P s₁.heap (.ref l) (.list (ofPys (ns.map .int))):=hw;cases hw' with
  |list e _=>obtain ⟨o,e2,_,n,hd⟩:=hl;replace e2:=e▸e2;have h_:=aj e2;clear e2;subst h_;cases hd;exact e
 have hlen:vs.length=ns.length:=hi.length;have r:ax [] s₁.heap [.list (ns.map .int)] [.ref l]:=⟨_,_,rfl,⟨l,vs,rfl,(by simp),⟨_,hex⟩,al (E6 hn hlen) (by decide:63<=sizeLine),As hi⟩,rfl⟩
 have R:aK Ec 146:=⟨rfl,by decide,by decide⟩
 refine aA (hC Ec s₁ [] _ R S (λb hb=>nomatch hb) r) (λv s' h_=>aI h_ λS' ζ rv=>?_) λζ ζ f=>f.elim;simp only[ao] at rv;subst rv;have hpost:Ed PySem.Challenge.rw_tc0009_02.row.records PySem.Challenge.rw_tc0009_02.row.post {args:=[vi (RC (Ee pY ns))],res:=some (RD true),after:=[vi (RC (Ee pY ns))]}=some (RD true):=by refine (?_:Ed _ (.eq .res (.lit (.bool true))) _=_);simp[Ed,W.same]
 exact i9 (.inl ⟨_,.bool true,[],rfl,λcls=>rfl,.bool true,postW_of (X:=true) rfl hpost rfl,λζ=>⟨uQ,λa ha=>nomatch ha⟩⟩) S'.old S'.os S'.bare
theorem IZ {K:Frag} {h:Heap} {mg:Str->Option Value} (X:K.In h) (G:h.Ns dF mg) (l:List Str) (hl:l.all (λf=>match lF K dF f with|some (some (.ref a))=>(match K.lookup a with|some o=>(match o.cls with|.type c=>c== "function" |_=>false)|none=>false)|some none=>true|_=>false)=true):∀f∈l,∀a o,mg f=some (.ref a)->h.get? a=some o->o.cls=.type "function" :=λf hf a o h1 h2=>by
 have:=c9.mp hl f hf;revert this;refine cn (lF K dF f) λu e=>?_
 induction u using bW with
 |none=>exact aZ
 |some u=>
  induction u using bW with
  |none=>exact λζ=>ac ((RE X G e).symm.trans h1)
  |some v=>
   have e1:=aj ((mg_of X G e).symm.trans h1);subst e1;refine (?_:(match K.lookup a with|some o=>(match o.cls with|.type c=>c== "function" |_=>false)|none=>false)=true->_);refine cn (K.lookup a) λw e2=>?_
   induction w using bW with
   |none=>exact aZ
   |some o'=>
    have e3:=aj ((X _ _ e2).symm.trans h2);subst e3;refine (?_:(match o'.cls with|.type c=>c== "function" |_=>false)=true->_);refine aX o'.cls λc=>?_
    induction c using nU with
    |type c=>exact λh=>congrArg Value.type (bh h)
    |_=>exact aZ
theorem Iu {K:Frag} {h:Heap} {mg:Str->Option Value} (X:K.In h) (G:h.Ns dF mg) (l:List Str) (hl:l.all (λf=>match lF K dF f with|some none=>true|_=>false)=true):∀f∈l,mg f=none:=λf hf=>by
 have:=c9.mp hl f hf;revert this;refine cn (lF K dF f) λu e=>?_
 induction u using bW with
 |none=>exact aZ
 |some u=>
  induction u using bW with
  |none=>exact λζ=>RE X G e
  |some v=>exact aZ
noncomputable def qF:List (Int×Str)->Nat->List DictEntry
 |[],_=>[]
 |(k,x)::r,c=>{hash:=k,key:=.int k c,val:=.str x (c+1)}::qF r (c+2)
noncomputable def oR:List (Int×Str)->Nat->List (Int×Value)
 |[],_=>[]
 |(k,x)::r,c=>(k,.str x (c+1))::oR r (c+2)
theorem A5 {prog:Program} {w:iC}:∀(l:List (Int×Str)) (c:Nat),(∀y∈l,hashInt y.1=y.1)->(∀e∈qF l c,∃k,(pX prog w).is k e.key=true/\e.hash=(pX prog w).hash k)/\Pairs (pX prog w) (qF l c) (oR l c)/\(oR l c).map (·.1)=l.map (·.1)/\vg pY (oR l c) (l.map λy=>(.int y.1,.str y.2))
 |[],c,_=>⟨(λe he=>nomatch he),.nil,rfl,.nil⟩
 |(k,x)::r,c,h=>by
  refine gq (A5 (prog:=prog) (w:=w) r (c+2) λy hy=>h y (.tail _ hy)) λh1 h2 h3 h4=>?_;have hk:=h (k,x) (.head _);refine i9 (λe he=>?_) (.cons (RF prog w k c) rfl h2) (by refine (?_:_::_=_::_);exact aa h3 rfl) (.cons (λh=>.str x _) h4);rcases av.mp he with q|q
  ·subst q;exact az k (RF prog w k c) hk.symm
  ·exact h1 e q
theorem Kx {prog:Program} {w:iC} {c n:Nat} {o:ek} (h:o={cls:=.type "dict",data:=.dict (qF il c).toArray n}):o.cls≠.none/\o.IsDictOf (pX prog w) (oR il c)/\vg pY (oR il c) flagD:=by subst h;refine gq (A5 (prog:=prog) (w:=w) il c (by decide)) λh1 h2 h3 h4=>?_;refine fx (by simp) ⟨_,n,⟨rfl,rfl,rfl⟩,rfl,λe he=>h1 e (by simpa using he),h2,?_⟩ h4;refine aa h3 ?_;decide
open PySem.StrLaws
noncomputable def S (l:List Nat):Str:=⟨l.toArray⟩
noncomputable abbrev Lx (x:Str):List Nat:=x.cps.toList
@[simp] theorem qO (l:List Nat):(S l).cps.toList=l:=by simp[S]
theorem wF (x:Str):S (Lx x)=x:=by simp[S]
@[simp] theorem dA (l:List Nat):(S l).length=l.length:=by simp[S,RG]
theorem Cf (x:Str):x.length=(Lx x).length:=by simp[RG]
theorem IQ {a b:List Nat}:S a=S b↔a=b:=⟨λh=>by have:=congrArg (λx:Str=>x.cps.toList) h;simpa using this,λh=>h▸rfl⟩
theorem xt (a b:List Nat):S a++S b=S (a++b):=by
 have:(S a++S b).cps=(S a).cps++(S b).cps:=rfl;cases h:S a++S b with|mk c=>replace this:=h▸this;simp only at this;refine aa this ?_;simp[S]
theorem jZ (a b:List Nat):(S a==S b)=(a==b):=by
 by_cases h:a=b
 ·subst h;simp
 ·have h2:¬ S a=S b:=λz=>h (IQ.mp z);exact aa (beq_eq_false_iff_ne.mpr h) (aa (beq_eq_false_iff_ne.mpr h2) rfl)
theorem JL (l:List Nat):eY (S l)=l.map λc=>S [c]:=by unfold eY;rw[qO];rfl
theorem wa (x:Str) (l u:Option Int):ll x l u=sliceText x l u:=rfl
theorem CP (l:List Nat) {a b:Nat} (hab:a<=b) (hb:b<=l.length):ll (S l) (some (a:Int)) (some (b:Int))=S ((l.drop a).take (b - a)):=by rw[wa,sliceText_nat (S l) hab (by simpa using hb),qO];rfl
theorem BB {l:List Nat} {b:Nat} (hb:b<=l.length):ll (S l) none (some (b:Int))=S (l.take b):=by rw[wa,sliceText_to (x:=S l) ⟨c7 _,by simpa using hb⟩,qO];simp[S]
theorem B7 {l:List Nat} {a:Nat} (ha:a<=l.length):ll (S l) (some (a:Int)) none=S (l.drop a):=by
 rw[wa,sliceText_from (x:=S l) ⟨c7 _,by simpa using ha⟩,qO];have:((l.length:Int) - (a:Int)).toNat=(l.drop a).length:=by refine aa fM ?_;exact Fo ha
 simp only[gb,this,n0];rfl
theorem qz (l m:List Nat) (i:Nat):Ti (S l) (S m) i=((l.drop i).take m.length==m):=by rw[subAt_eq];simp
theorem Fn (l m:List Nat):x1 (S l) (S m)=m.isPrefixOf l:=by
 unfold x1
 rw[qz,dA,dA];simp only[e9,uT]
 by_cases h:m <+: l
 ·have h1:=h.length_le;have h2:l.take m.length=m:=(si.mp h).symm;refine aa h2 ?_;simp[h1,sj.mpr h]
 ·have h3:m.isPrefixOf l=false:=by
   cases e:m.isPrefixOf l with
   |false=>rfl
   |true=>exact absurd (sj.mp e) h
  refine aa h3 ?_
  by_cases h4:l.take m.length=m
  ·exact absurd (si.mpr h4.symm) h
  ·simp[h4]
theorem I1 (l m:List Nat):x2 (S l) (S m)=m.isSuffixOf l:=by
 unfold x2
 rw[qz,dA,dA];simp only[e9]
 by_cases h:m <:+ l
 ·have h1:=h.length_le;have h2:(l.drop (l.length - m.length))=m:=(Ef.mp h).symm;refine aa h2 (aa n0 ?_);simp[h1,sk.mpr h]
 ·have h3:m.isSuffixOf l=false:=by
   cases e:m.isSuffixOf l with
   |false=>rfl
   |true=>exact absurd (sk.mp e) h
  refine aa h3 ?_
  by_cases h1:m.length<=l.length
  ·by_cases h4:(l.drop (l.length - m.length)).take m.length=m
   ·have h5:(l.drop (l.length - m.length)).take m.length=l.drop (l.length - m.length):=uU (by refine aa fM ?_;exact Od h1);exact absurd (Ef.mpr (h5▸h4).symm) h
   ·simp[h4]
  ·simp[h1]
theorem oA (l m:List Nat) (hi i:Nat):At (S l) (S m) hi i↔i+m.length<=hi/\(l.drop i).take m.length=m:=by unfold At;rw[qz,dA];simp
theorem qx (l m:List Nat):iz (S l) (S m)=true↔∃i,i+m.length<=l.length/\(l.drop i).take m.length=m:=by
 unfold iz;rw[found_iff];constructor
 ·rintro ⟨i,h1,h2⟩;exact az i (by simpa using h1) (by simpa [qz] using h2)
 ·rintro ⟨i,h1,h2⟩;exact az i (by simpa using h1) (by simpa [qz] using h2)
noncomputable def after (m:List Nat):List Nat->Option (Nat×List Nat)
 |[]=>if m=[] then some (0,[]) else none
 |c::u=>if m.isPrefixOf (c::u) then some (0,(c::u).drop m.length) else (after m u).map λp=>(p.1+1,p.2)
theorem zI {m}:after m []=if m=[] then some (0,[]) else none:=rfl
theorem qm {m c u}:after m (c::u)=if m.isPrefixOf (c::u) then some (0,(c::u).drop m.length) else (after m u).map λp=>(p.1+1,p.2):=rfl
theorem tQ {m:List Nat}:∀{u:List Nat} {k:Nat} {r:List Nat},after m u=some (k,r)->k+m.length<=u.length/\(u.drop k).take m.length=m/\r=u.drop (k+m.length)/\∀j,j<k->(u.drop j).take m.length≠m
 |[],k,r,h=>by skip;refine ifs h λhm h=>?_;subst hm;cases h;simp
 |c::u,k,r,h=>by
  rw[qm] at h
  split at h
  ·rename_i hp;cases h;have hp:=sj.mp hp;exact i9 (by have:=hp.length_le;exact Je this) (by simpa using (si.mp hp).symm) (by simp) (λj hj=>absurd (by assumption) (PT _))
  ·rename_i hp;obtain ⟨⟨k',r'⟩,h',e⟩:=gy.mp h;cases e;refine gq (tQ h') λa1 a2 a3 a4=>?_;refine i9 (by simp;exact LQ a1) (by simpa using a2) (by refine aa a3 ?_;simp[Eg]) (λj hj=>?_)
   induction j using e8 with
   |zero=>intro z;exact hp (sj.mpr (si.mpr (by simpa using z.symm)))
   |succ j=>simpa using a4 j (Nat.lt_of_succ_lt_succ (by assumption))
theorem zm {m:List Nat}:∀{u:List Nat},after m u=none->∀j,j+m.length<=u.length->(u.drop j).take m.length≠m
 |[],h,j,hj=>by
  rw[zI] at h
  split at h
  ·cases h
  ·rename_i hm;intro z;simp at z;exact hm z
 |c::u,h,j,hj=>by
  rw[qm] at h
  split at h
  ·cases h
  ·rename_i hp;have h':=Option.map_eq_none_iff.mp h
   induction j using e8 with
   |zero=>intro z;exact hp (sj.mpr (si.mpr (by simpa using z.symm)))
   |succ j=>simpa using zm h' j (by simp at hj;exact MB hj)
theorem KN (l m:List Nat) {i j:Nat} (hij:i<=j) (hj:j<=l.length):qM (S l) (S m) (i:Int) (j:Int)=match after m ((l.drop i).take (j - i)) with|some (k,_)=>((i+k:Nat):Int)|none=> -1:=by
 have hseg:∀k,i<=k->k+m.length<=j->((l.drop k).take m.length=m↔(((l.drop i).take (j - i)).drop (k - i)).take m.length=m):=λk h1 h2=>by refine aa RH (aa mO (aa List.take_take ?_));have e1:i+(k - i)=k:=nT (by assumption);have e2:fg m.length (j - i - (k - i))=m.length:=Pg h2 e1;rw[e1,e2]
 have hlen:((l.drop i).take (j - i)).length=j - i:=by rw[pV,fM];exact CG hij hj
 unfold qM;rw[gb,gb,occ_eq];rcases occ_first (S l) (S m) j 1 (bf _) (fm i (j+1 - i)) i (λk hk=>(mT.mp hk).1) with ⟨h0,hn⟩|⟨pre,a,post,e,h0,ha,hn⟩
 ·refine aa h0 ?_;simp only;cases ha:after m ((l.drop i).take (j - i)) with
  |none=>rfl
  |some p=>obtain ⟨k,r⟩:=p;refine aI (tQ ha) λa1 a2 ζ=>?_;replace a1:=hlen▸a1;exact absurd ((oA l m j (i+k)).mpr ⟨w5 hij a1,(hseg (i+k) (fI _ _) (w5 hij a1)).mpr (by rw[yG];exact a2)⟩) (hn (i+k) (mT.mpr ⟨fI _ _,Ja hij a1⟩))
 ·refine be ((oA l m j a).mp ha) λb1 b2=>?_;refine be (range'_split_from e) λc1 c2=>?_;have hl:∃r,(lA (fm i (j+1 - i)) ((#[]:Array Nat),i) (occBody (S l) (S m) j 1)).run.fst.toList=a::r:=by
   have h1:(lA (fm i (j+1 - i)) ((#[]:Array Nat),i) (occBody (S l) (S m) j 1)).run.fst.toList[0]?=some a:=by refine aa Array.getElem?_toList ?_;exact h0
   cases hq:(lA (fm i (j+1 - i)) ((#[]:Array Nat),i) (occBody (S l) (S m) j 1)).run.fst.toList with
   |nil=>replace h1:=hq▸h1;exact ac h1
   |cons b r=>replace h1:=hq▸h1;have h_:=aj h1;clear h1;subst h_;exact⟨r,rfl⟩
  refine aE hl λr hr=>?_;clear hl;refine aa hr ?_;simp only;have b3:=(hseg a c1 b1).mp b2;cases hf:after m ((l.drop i).take (j - i)) with
  |none=>exact absurd b3 (zm hf (a - i) (by refine aa hlen ?_;exact MW hij b1 c1))
  |some p=>obtain ⟨k,r'⟩:=p;refine gq (tQ hf) λa1 a2 ζ a4=>?_;replace a1:=hlen▸a1;have h5:¬ a - i<k:=λz=>a4 (a - i) z b3;have h6:¬ i+k<a:=λz=>hn (i+k) (c2 (i+k) (fI _ _) z) ((oA l m j (i+k)).mpr ⟨Cw b1 z,(hseg (i+k) (fI _ _) (Cw b1 z)).mpr (by rw[yG];exact a2)⟩);simp only;exact PA c1 h5 h6
open PySem.StrLaws
noncomputable def dots:List Nat:=[46,46,46]
noncomputable def jn:List (List Nat)->List Nat
 |[]=>[]
 |[w]=>w
 |w::ws=>w++dots++jn ws
theorem Jd:jn []=[]:=rfl
theorem wo {w}:jn [w]=w:=rfl
theorem HN {w v ws}:jn (w::v::ws)=w++dots++jn (v::ws):=rfl
theorem ka (w v:List Nat) (ws:List (List Nat)):jn (w::v::ws)=w++dots++jn (v::ws):=rfl
theorem IG (sep:List Nat):∀ws:List (List Nat),rL (S sep) (ws.map S)=S (fq sep ws):=by
 intro ws;unfold rL;rw[glued_eq_join]
 induction ws with
 |nil=>rfl
 |cons w r ih=>
  induction r using aP with
  |nil=>simp[Eh,fq]
  |cons v r=>have e:Eh (S sep) ((w::v::r).map S)=S w++S sep++Eh (S sep) ((v::r).map S):=rfl;refine aa e (aa ih ?_);rw[xt,xt];congr 1;exact gP ..
theorem v6:∀ws:List (List Nat),jn ws=fq dots ws
 |[]=>rfl
 |[w]=>by simp[Jd,wo,HN,fq]
 |w::v::r=>by (rewrite[ka];refine aa (v6 (v::r)) ?_);exact gP ..
theorem sr (l:List Nat) (hi k:Nat) (hk:hi<=l.length):At (S l) (S dots) hi k->l[k]?=some 46:=λh=>by
 refine be ((oA l dots hi k).mp h) λh1 h2=>?_;have h3:((l.drop k).take dots.length)[0]?=some 46:=by refine aa h2 ?_;rfl
 replace h3:=RI▸h3;simpa [dots] using h3
theorem zt (l:List Nat) (i j:Nat):yH (S l) i j=S ((l.drop i).take (j - i)):=by have:=strSub_toList (S l) i j;rw[qO] at this;refine aH (wF (yH (S l) i j)) ?_;exact congrArg S this
theorem C2 (X:List Nat):∀(ws:List (List Nat)) (w:List Nat) (a f:Nat) (cuts:List Nat),(∀u∈w::ws,46∉u)->X.drop a=jn (w::ws)->a<=X.length->ChainG (S X) (S dots) X.length a cuts f->(∀k,f<=k->¬ At (S X) (S dots) X.length k)->partsFrom (S X) 3 a cuts=(w::ws).map S
 |[],w,a,f,cuts,hf,hd,ha,hc,hn=>by
  have hd:X.drop a=w:=hd;have hcut:cuts=[]:=by
   induction cuts using aP with
   |nil=>rfl
   |cons c r=>
    refine aI hc λc1 c2 ζ=>?_;clear hc;have h:=sr X _ c (bf _) c2;have:w[c - a]?=some 46:=by refine aH hd (aa yI ?_);rw[show a+(c - a)=c by exact nT (by assumption)];exact h
    exact absurd (lG this) (hf w (.head _))
  subst hcut;refine (?_:[yH (S X) a (S X).length]=[S w]);rewrite[zt,dA];refine aa hd ?_;have:X.length - a=w.length:=aH hd (aa fM rfl);rw[this,n0]
 |v::ws,w,a,f,cuts,hf,hd,ha,hc,hn=>by
  rw[ka] at hd;have hlen:X.length - a=w.length+(3+(jn (v::ws)).length):=by refine aH fM (aa hd ?_);simp[dots];exact K8
  have hat:At (S X) (S dots) X.length (a+w.length):=by rw[oA];refine⟨by simp[dots];exact A3 ha hlen,?_⟩;rw[<- mO,hd,gP,Ei,yJ]
  have hno:∀k,a<=k->k<a+w.length->¬ At (S X) (S dots) X.length k:=λk k1 k2 h=>by
   have h:=sr X _ k (bf _) h;have h2:(X.drop a)[k - a]?=some 46:=by rw[yI,show a+(k - a)=k by exact nT (by assumption)];exact h
   rw[hd,gP,List.getElem?_append_left (Pi k1 k2)] at h2;exact hf w (.head _) (lG h2)
  induction cuts using aP with
  |nil=>have e:f=a:=hc;exact absurd hat (hn _ (zN e))
  |cons c r=>
   refine gq hc λc1 c2 c3 c4=>?_;clear hc;have ec:c=a+w.length:=by
    rcases Nat.lt_trichotomy c (a+w.length) with h|h|h
    ·exact absurd c2 (hno c c1 h)
    ·exact h
    ·exact absurd hat (c3 _ (fI _ _) h)
   subst ec;refine (?_:yH (S X) a (a+w.length)::partsFrom (S X) 3 (a+w.length+3) r=S w::(v::ws).map S);rw[zt,yG];have e1:(X.drop a).take w.length=w:=by (refine aa hd ?_;rewrite[gP];exact aa yJ rfl)
   refine aa e1 ?_;congr 1;refine C2 X ws v (a+w.length+3) f r (λu hu=>hf u (.tail _ hu)) ?_ (A3 ha hlen) c4 hn;rewrite[mA];refine aH mO (aa hd ?_);have:w++dots++jn (v::ws)=(w++dots)++jn (v::ws):=rfl;rw[List.drop_left' (by exact ci ..)]
theorem M8 (w v:List Nat) (ws:List (List Nat)):3<=(jn (w::v::ws)).length:=by rw[ka];simp[dots];exact HU
theorem GH (w:List Nat) (ws:List (List Nat)) (hf:∀u∈w::ws,46∉u):Txt.split (S (jn (w::ws))) (S dots)=(w::ws).map S:=by
 refine ah (occ_tight (S (jn (w::ws))) (S dots) (by rw[dA];decide)) λf hc hn=>?_;rw[dA] at hc hn;have hp:=C2 (jn (w::ws)) ws w 0 f _ hf rfl (iE _) hc hn;have hk:mJ (S dots)=1:=by unfold mJ;rw[if_pos (by simp[S,dots])]
 unfold Txt.split;have hk2:¬ mJ (S (jn (w::ws)))<mJ (S dots):=by
  refine aa hk ?_;unfold mJ;split
  ·decide
  ·split<;>decide
 induction ws using aP with
 |nil=>
  have hocc:jr (S (jn [w])) (S dots) 0 (S (jn [w])).length ((S (jn [w])).length+1)=[]:=by
   rw[dA];cases hq:jr (S (jn [w])) (S dots) 0 (jn [w]).length ((jn [w]).length+1) with
   |nil=>rfl
   |cons c r=>replace hc:=hq▸hc;refine aI hc λζ c2 ζ=>?_;clear hc;have h:=sr _ _ c (bf _) c2;exact absurd (lG (show w[c]?=some 46 from h)) (hf w (.head _))
  refine aa hocc ?_
  split
  ·rfl
  ·rfl
 |cons v ws=>
  have h3:=M8 w v ws;have hne:¬ (S (jn (w::v::ws))).length<(S dots).length:=by rw[dA,dA];have:dots.length=3:=rfl;exact LM h3 this
  rw[if_neg (by simp only[vh,decide_eq_true_eq];exact λz=>z.elim hne hk2)];rw[dA];cases hq:jr (S (jn (w::v::ws))) (S dots) 0 (jn (w::v::ws)).length ((jn (w::v::ws)).length+1) with
  |nil=>replace hp:=hq▸hp;have:=congrArg iB hp;nomatch this
  |cons c r=>rw[if_neg (by simp),partsBetween_eq];replace hp:=hq▸hp;exact hp
theorem Pv (w v:List Nat) (ws:List (List Nat)):iz (S (jn (w::v::ws))) (S dots)=true:=by rw[qx];refine⟨w.length,by rw[ka];simp,?_⟩;rewrite[ka,gP];exact aa Ei (aa yJ rfl)
theorem Hi {l:List Nat} (h:46∉l):iz (S l) (S dots)=false:=by
 cases e:iz (S l) (S dots) with
 |false=>rfl
 |true=>refine ah ((qx l dots).mp e) λi h1 h2=>?_;exact absurd (lG (sr l l.length i (bf _) ((oA l dots _ i).mpr ⟨h1,h2⟩))) h
section
variable {O:Orc} {n:Nat} {sc:Scope} {σ σ':Sg} {r:List aL} {o:Option Out}
theorem mo {t:ab} {b e:List aL} {p:Pos} {c:Bool} (h:pT O n sc σ t=some c):px O (n+1) sc σ (.If t b e p)=if c=true then aJ O n sc σ b else aJ O n sc σ e:=by refine aa FD (aa h ?_);induction c using d8<;>rfl
theorem M7 {e:ab} {p:Pos} {d:PV} (h:pe O n sc σ e=some d):px O (n+1) sc σ (.Return (some e) p)=some (.rt d):=aa JU (aa h rfl)
theorem nM {st:aL} {q:Out} (h:px O n sc σ st=some q) (hq:∀σ',q≠.nx σ'):aJ O (n+1) sc σ (st::r)=some q:=by
 refine aa oH (aa h ?_);cases q with
 |nx σ'=>exact absurd rfl (hq σ')
 |bk σ'=>rfl
 |rt d=>rfl
theorem dW {t:ab} {b e:List aL} {p:Pos} (h:pT O n sc σ t=some false) (he:aJ O n sc σ e=some (.nx σ')) (hr:aJ O (n+1) sc σ' r=o):aJ O (n+2) sc σ (.If t b e p::r)=o:=
 aT (by refine aa (mo h) ?_;exact he) hr
theorem ig {t:ab} {b e:List aL} {p:Pos} (h:pT O n sc σ t=some true) (he:aJ O n sc σ b=some (.nx σ')) (hr:aJ O (n+1) sc σ' r=o):aJ O (n+2) sc σ (.If t b e p::r)=o:=
 aT (by refine aa (mo h) ?_;exact he) hr
theorem lQ {t:ab} {b e:List aL} {p:Pos} {d:PV} (h:pT O n sc σ t=some true) (he:aJ O n sc σ b=some (.rt d)):aJ O (n+2) sc σ (.If t b e p::r)=some (.rt d):=
 nM (by refine aa (mo h) ?_;exact he) λζ z=>nomatch z
theorem xo {t:ab} {b e:List aL} {p:Pos} {d:PV} (h:pT O n sc σ t=some false) (he:aJ O n sc σ e=some (.rt d)):aJ O (n+2) sc σ (.If t b e p::r)=some (.rt d):=
 nM (by refine aa (mo h) ?_;exact he) λζ z=>nomatch z
theorem iw {e:ab} {p:Pos} {d:PV} (h:pe O n sc σ e=some d):aJ O (n+2) sc σ (.Return (some e) p::r)=some (.rt d):=nM (M7 h) λζ z=>nomatch z
noncomputable def b8 (O:Orc) (n:Nat) (sc:Scope) (t:ab) (b:List aL):Sg->PV->Option Out:=λσ d=>match bu false sc 4 σ t d with|some σ1=>aJ O n sc σ1 b|none=>none
theorem lO {t it:ab} {b e:List aL} {p:Pos} {xs:List PV} (hi:cr O n sc σ (dM t) it=some xs) (hl:bU (b8 O n sc t b) xs σ=some (.nx σ')) (he:aJ O n sc σ' e=o):px O (n+1) sc σ (.For t it b e p)=o:=by refine aa oE (aa hi ?_);refine (?_:(match bU (b8 O n sc t b) xs σ with|some (.nx σ')=>aJ O n sc σ' e|some (.bk σ')=>some (.nx σ')|r=>r)=_);refine aa hl ?_;exact he
theorem OV {t it:ab} {b e:List aL} {p:Pos} {xs:List PV} {d:PV} (hi:cr O n sc σ (dM t) it=some xs) (hl:bU (b8 O n sc t b) xs σ=some (.rt d)):px O (n+1) sc σ (.For t it b e p)=some (.rt d):=by refine aa oE (aa hi ?_);refine (?_:(match bU (b8 O n sc t b) xs σ with|some (.nx σ')=>aJ O n sc σ' e|some (.bk σ')=>some (.nx σ')|r=>r)=_);exact aa hl rfl
theorem FA {t it:ab} {b e:List aL} {p:Pos} {xs:List PV} (hi:cr O n sc σ (dM t) it=some xs) (hl:bU (b8 O n sc t b) xs σ=some (.bk σ')):px O (n+1) sc σ (.For t it b e p)=some (.nx σ'):=by refine aa oE (aa hi ?_);refine (?_:(match bU (b8 O n sc t b) xs σ with|some (.nx σ')=>aJ O n sc σ' e|some (.bk σ')=>some (.nx σ')|r=>r)=_);exact aa hl rfl
theorem Aq {t it:ab} {b e:List aL} {p:Pos} (hi:cr O n sc σ (dM t) it=none) (hg:j8 O n sc σ it=none):px O (n+1) sc σ (.For t it b e p)=none:=by exact aa oE (aa hi (aa hg rfl))
theorem B2 {t it:ab} {b e:List aL} {p:Pos} {xs:List PV} (hi:cr O n sc σ (dM t) it=none) (hg:j8 O n sc σ it=some xs) (hl:bU (b8 O n sc t b) xs σ=some (.nx σ')) (he:aJ O n sc σ' e=o):px O (n+1) sc σ (.For t it b e p)=o:=by refine aa oE (aa hi (aa hg ?_));refine (?_:(match bU (b8 O n sc t b) xs σ with|some (.nx σ')=>aJ O n sc σ' e|some (.bk σ')=>some (.nx σ')|r=>r)=_);refine aa hl ?_;exact he
theorem La {t it:ab} {b e:List aL} {p:Pos} {xs:List PV} {d:PV} (hi:cr O n sc σ (dM t) it=none) (hg:j8 O n sc σ it=some xs) (hl:bU (b8 O n sc t b) xs σ=some (.rt d)):px O (n+1) sc σ (.For t it b e p)=some (.rt d):=by refine aa oE (aa hi (aa hg ?_));refine (?_:(match bU (b8 O n sc t b) xs σ with|some (.nx σ')=>aJ O n sc σ' e|some (.bk σ')=>some (.nx σ')|r=>r)=_);exact aa hl rfl
theorem Ch {st:aL} (h0:px O n sc σ st=none) (h:px O n sc (unown1 σ (lZ st)) st=some (.nx σ')) (hr:aJ O n sc σ' r=o):aJ O (n+1) sc σ (st::r)=o:=by refine aa oH (aa h0 (aa h ?_));exact hr
theorem Jt {st:aL} {q:Out} (h0:px O n sc σ st=none) (h:px O n sc (unown1 σ (lZ st)) st=some q) (hq:∀σ',q≠.nx σ'):aJ O (n+1) sc σ (st::r)=some q:=by
 rw[oH,h0,h];cases q with
 |nx σ'=>exact absurd rfl (hq σ')
 |bk σ'=>rfl
 |rt d=>rfl
theorem oK {x:Str} {xp p:Pos} {op:mz} {e:ab} {a b d:PV} (hx:bb sc x=true) (hv:bj sc x=true) (h1:gS σ x=some a) (h2:pe O n sc σ e=some b) (h:ml op a b=some d):px O (n+1) sc σ (.AugAssign (.Name x xp) op e p)=some (.nx (put σ x (.sh d))):=by rw[Pd,if_pos (by rw[hx,hv];rfl),h1,h2];refine (?_:(match ml op a b with|some d=>some (Out.nx (put σ x (.sh d)))|none=>none)=_);rw[h]
theorem qJ {x:Str} {xp apos pos p:Pos} {e:ab} {xs:List PV} {d:PV} (hv:bj sc x=true) (hp:(apos.endLine==pos.line)=true) (h1:gW σ x=some xs) (h2:pe O n sc σ e=some d) (hl:bt (xs.length+1)=true):px O (n+1) sc σ (.Expr (.Call (.Attribute (.Name x xp) (ag "append") apos) [e] [] pos) p)=some (.nx (put σ x (.own (xs++[d])))):=by rw[Hc,if_pos (by rw[hv,hp];rfl),h1,h2];simp only;rw[if_pos (show (ag "append" ==ag "append")=true by decide),if_pos hl]
theorem CN {x:Str} {xp sp p:Pos} {i:ab} {xs:List PV} {k:Int} {j:Nat} (hv:bj sc x=true) (h1:gW σ x=some xs) (h2:pe O n sc σ i=some (.int k)) (hj:iD k xs.length=some j) (hb: -1000<=k/\k<1000):px O (n+1) sc σ (.Delete [.Subscript (.Name x xp) i sp] p)=some (.nx (put σ x (.own (xs.eraseIdx j)))):=by refine aa Hn (aa (if_pos hv) (aa h1 (aa h2 ?_)));simp only[hj];rw[if_pos (by simp[hb.1,hb.2])]
theorem EJ {t:ab} {m:Option ab} {p:Pos} (h:pT O n sc σ t=some true):px O (n+1) sc σ (.Assert t m p)=some (.nx σ):=aa Gx (aa h rfl)
theorem tL {x:Str} {xp p:Pos} {e:ab} {ent:Ent} (hx:bb sc x=true) (h:fA O n sc σ e=some ent):px O (n+1) sc σ (.Assign [.Name x xp] e p)=some (.nx (put σ x ent)):=by exact aa qN (aa (if_pos hx) (aa h rfl))
theorem EY {e:ab} {xs:List PV} (hl:ou e=true:=by rfl) (h:pe O n sc σ e=some (.list xs)) (hs:kg e=true):fA O n sc σ e=some (.own xs):=by refine aa (qU hl) (aa h ?_);refine (?_:(if kg e=true then _ else _)=_);exact aa (if_pos hs) rfl
theorem xe {es:List ab} {p:Pos} {ds:List PV} (h:aY (pe O n sc σ) es=some ds) (hl:bt ds.length=true):fA O n sc σ (.List es p)=some (.own ds):=by unfold fA;simp only[h,hl,if_true]
theorem Cb {ts vs:List ab} {tn vn:Nat} {tp vp q:Pos} {xs:List Str} {ents:List Ent} (h1:aY fv ts=some xs) (hc:(xs.all (bb sc)&&jR xs&&xs.length==vs.length&&(!(vs.all (mQ 8))||vs.all (mR 8))&&my vs.length 1000)=true) (h2:aY (fA O n sc σ) vs=some ents):px O (n+1) sc σ (.Assign [.Tuple ts tn tp] (.Tuple vs vn vp) q)=some (.nx (bP σ (xs.zip ents))):=by refine aa AB (aa h1 ?_);show (if _ then _ else _)=_;exact aa (if_pos hc) (aa h2 rfl)
theorem zr {f:ab->Option Ent}:aY f []=some []:=rfl
theorem sV {e:ab} {d:PV} (hl:ou e=true:=by rfl) (h:pe O n sc σ e=some d) (hs:∀xs,d=.list xs->kg e=false):fA O n sc σ e=some (.sh d):=by
 refine aa (qU hl) (aa h ?_)
 induction d using PV.casesOn with
 |list xs=>rw[show kg e=false from hs xs rfl];rfl
 |_=>rfl
theorem oG {o:ab} {name:Str} {apos pos:Pos} {args:List ab} {r d:PV} {ds:List PV} (ho:qc o=true:=by rfl) (h0:ke o=false) (hp:(apos.endLine==pos.line)=true) (hl:iY args.length 30=true) (h1:pe O n sc σ o=some r) (h2:aY (pa O n sc σ) args=some ds) (h:dZ (args.any (cE σ)) (cY r name ds)=some d):
  pe O (n+1) sc σ (.Call (.Attribute o name apos) args [] pos)=some d:=by
 rw[y9 ho,if_pos (by rw[hp,hl,h0];rfl),h1,h2];exact h
theorem ny:i8 O (n+1) sc σ none=some none:=rfl
theorem gY {e:ab} {i:Int} (h:pe O n sc σ e=some (.int i)) (hb: -2^62<i/\i<2^62):i8 O (n+1) sc σ (some e)=some (some i):=by refine (?_:(match pe O n sc σ e with|some d=>sX (some d)|none=>none)=_);refine aa h ?_;exact if_pos (jT.mpr ⟨decide_eq_true hb.1,decide_eq_true hb.2⟩)
theorem jF {v:ab} {lo hi st:Option ab} {q p:Pos} {a d:PV} {l h s:Option Int} (h1:pe O n sc σ v=some a) (h2:i8 O n sc σ lo=some l) (h3:i8 O n sc σ hi=some h) (h4:i8 O n sc σ st=some s) (hd:eG a l h s=some d):pe O (n+1) sc σ (.Subscript v (.Slice lo hi st q) p)=some d:=by rw[B8,h1,h2,h3,h4];exact hd
theorem wn {f:Str} {fp p:Pos} {a:ab} {d:PV} {xs:List PV} (hf:bS sc f=true) (h1:pe O n sc σ a=some d) (h:O.gen f [d]=some xs):j8 O n sc σ (.Call (.Name f fp) [a] [] p)=some xs:=by refine (?_:(if bS sc f=true then (match pe O n sc σ a with|some d=>O.gen f [d]|none=>none) else none)=some xs);exact aa (if_pos hf) (aa h1 h)
theorem FL {x:Str} {xp apos pos:Pos} {args:List ab} {d:PV} {ds:List PV} (hx:bj sc x=false) (hg:bS sc x=true) (hp:(apos.endLine==pos.line)=true) (hl:iY args.length 30=true) (h2:aY (pa O n sc σ) args=some ds) (h:O.dget x ds=some d) (hd:d.flat=true):pe O (n+1) sc σ (.Call (.Attribute (.Name x xp) (ag "get") apos) args [] pos)=some d:=by rw[tm,if_pos (by rw[hp,hl];rfl),if_neg (by rw[hx];decide),if_pos (by rw[hg];rfl),h2];refine (?_:dZ true _=_);refine aa h ?_;exact wQ hd
theorem Gw {p:Pos} {r:List aL}:aJ O (n+2) sc σ (.Break p::r)=some (.bk σ):=nM rfl λζ z=>nomatch z
theorem gR {step:Sg->PV->Option Out} {d:PV} {ds:List PV} (h:step σ d=some (.nx σ')) (hr:bU step ds σ'=o):bU step (d::ds) σ=o:=by refine aa ue ?_;refine aa h ?_;exact hr
theorem xB {step:Sg->PV->Option Out} {d:PV} {ds:List PV} {q:Out} (h:step σ d=some q) (hq:∀σ',q≠.nx σ'):bU step (d::ds) σ=some q:=by
 refine aa ue ?_;refine aa h ?_;cases q with
 |nx σ'=>exact absurd rfl (hq σ')
 |bk σ'=>rfl
 |rt d=>rfl
end
noncomputable def aU (b:List aL) (i:Nat):ab×List aL:=match b[i]? with
 |some (.For t _ bd _ _)=>(t,bd)
 |_=>(.Constant .none 0 ⟨0,0,0,0⟩,[])
noncomputable def ia:List (List Nat)->List Nat->Bool
 |[],_=>true
 |w::r,u=>match after w u with
  |some (_,u')=>ia r u'
  |none=>false
theorem Sv {u}:ia [] u=true:=rfl
theorem nq {w r u}:ia (w::r) u=(match after w u with|some (_,v)=>ia r v|none=>false):=rfl
noncomputable abbrev eW:Str:=ag "want"
noncomputable abbrev gh:Str:=ag "got"
noncomputable abbrev dN:Str:=ag "ws"
noncomputable abbrev fC:Str:=ag "startpos"
noncomputable abbrev gj:Str:=ag "endpos"
noncomputable abbrev nW:Str:=ag "w"
noncomputable def ff:Scope:=(bD dL).scope
noncomputable def iP:List aL:=(bD dL).body
section
variable {O:Orc} {n:Nat} {sc:Scope} {σ σ':Sg}
noncomputable def AX (i:Nat):Option (Nat×List Nat)->Int
 |some p=>((i+p.1:Nat):Int)
 |none=> -1
theorem Fd {l m:List Nat} {i j:Nat} (hij:i<=j) (hj:j<=l.length):cY (.str (S l)) (ag "find") [.str (S m),.int i,.int j]=some (.int (AX i (after m ((l.drop i).take (j - i))))):=by
 have e:AX i (after m ((l.drop i).take (j - i)))=qM (S l) (S m) i j:=by refine aa (KN l m hij hj) ?_;cases after m ((l.drop i).take (j - i))<;>rfl
 refine aa e ?_;unfold cY;simp only;rw[if_pos];rw[dA];simp only[bF,decide_eq_true_eq];refine⟨⟨⟨⟨by decide,c7 _⟩,Ks hij hj⟩,c7 _⟩,ej.mpr (by assumption)⟩
theorem N6 (T:List Nat):∀(P:List (List Nat)) (s e:Nat) (σ:Sg),s<=e->e<=T.length->σ.lookup gh=some (.sh (.str (S T)))->σ.lookup fC=some (.sh (.int s))->σ.lookup gj=some (.sh (.int e))->∃σ',bU (b8 O 49 ff (aU iP 9).1 (aU iP 9).2) (P.map λw=>.str (S w)) σ=if ia P ((T.drop s).take (e - s))=true then some (.nx σ') else some (.rt (.bool false)):=by
 intro P
 induction P with
 |nil=>intro s e σ _ _ _ _ _;exact⟨σ,rfl⟩
 |cons w P ih=>
  intro s e σ hs he h1 h2 h3;have hstep:b8 O 49 ff (aU iP 9).1 (aU iP 9).2 σ (.str (S w))=aJ O 49 ff (put σ nW (.sh (.str (S w)))) (aU iP 9).2:=rfl;have g1:(put σ nW (.sh (.str (S w)))).lookup gh=some (.sh (.str (S T))):=by refine au (by decide) ?_;exact h1
  have g2:(put σ nW (.sh (.str (S w)))).lookup fC=some (.sh (.int s)):=by refine au (by decide) ?_;exact h2
  have g3:(put σ nW (.sh (.str (S w)))).lookup gj=some (.sh (.int e)):=by refine au (by decide) ?_;exact h3
  have g4:(put σ nW (.sh (.str (S w)))).lookup nW=some (.sh (.str (S w))):=aM;revert hstep;revert g1;revert g2;revert g3;revert g4;refine aX (put σ nW (.sh (.str (S w)))) λσ1=>?_;intro g4 g3 g2 g1 hstep;have no1:∀q,cE σ1 (.Name gh q)=false:=λq=>dX g1;have no2:∀q,cE σ1 (.Name nW q)=false:=λq=>dX g4;have no3:∀q,cE σ1 (.Name fC q)=false:=λq=>dX g2;have no4:∀q,cE σ1 (.Name gj q)=false:=λq=>dX g3;have hfind:=Fd (l:=T) (m:=w) hs he;refine aa nq ?_;cases ha:after w ((T.drop s).take (e - s)) with
  |none=>
   replace hfind:=ha▸hfind;refine⟨σ,?_⟩;simp only[ey,if_false];refine xB (q:=.rt (.bool false)) ?_ (λζ z=>nomatch z);refine aa hstep ?_
   refine aT (bM (d:=.int (-1)) (by decide) (h:=mU (by decide) rfl rfl (aF g1) (aN (aD (by decide) (aF g4)) (aN (aD (by decide) (aF g2)) (aN (aD (by decide) (aF g3)) bC))) (by
    simp only[pO,Ej,no1,no2,no3,no4,Ek,dZ];exact hfind)) (hs:=λxs z=>nomatch z)) ?_
   exact lQ (bA (d:=.bool true) (h:=aB (h:=br (aD (by decide) (aF (aM))) (aB (h:=bc)) rfl)) (ht:=rfl)) (iw kS)
  |some p=>
   obtain ⟨k,u'⟩:=p;replace hfind:=ha▸hfind;simp only;refine gq (tQ ha) λa1 a2 a3 a4=>?_;have hlen:((T.drop s).take (e - s)).length=e - s:=by refine aa pV (aa fM ?_);exact CG hs he
   replace a1:=hlen▸a1;have hu:u'=(T.drop (s+k+w.length)).take (e - (s+k+w.length)):=by refine aa a3 (aa RH (aa mO ?_));have e1:s+(k+w.length)=s+k+w.length:=(mA _ _ _).symm;have e2:e - s - (k+w.length)=e - (s+k+w.length):=Nh;exact aa e1 (aa e2 rfl)
   have f1:(put (put σ1 fC (.sh (.int ((s+k:Nat):Int)))) fC (.sh (.int ((s+k:Nat)+w.length:Nat)))).lookup gh=some (.sh (.str (S T))):=by refine au (by decide) ?_;refine au (by decide) ?_;exact g1
   have f3:(put (put σ1 fC (.sh (.int ((s+k:Nat):Int)))) fC (.sh (.int ((s+k:Nat)+w.length:Nat)))).lookup gj=some (.sh (.int e)):=by refine au (by decide) ?_;refine au (by decide) ?_;exact g3
   refine aE (ih (s+k+w.length) e (put (put σ1 fC (.sh (.int ((s+k:Nat):Int)))) fC (.sh (.int ((s+k:Nat)+w.length:Nat)))) (w5 hs a1) he f1 (aM) f3) λσ' hσ'=>?_;refine⟨σ',?_⟩;refine aa hu (aH hσ' ?_);refine gR ?_ rfl;refine aa hstep ?_
   refine aT (bM (d:=.int ((s+k:Nat):Int)) (by decide) (h:=mU (by decide) rfl rfl (aF g1) (aN (aD (by decide) (aF g4)) (aN (aD (by decide) (aF g2)) (aN (aD (by decide) (aF g3)) bC))) (by
    simp only[pO,Ej,no1,no2,no3,no4,Ek,dZ];exact hfind)) (hs:=λxs z=>nomatch z)) ?_
   refine dW (bA (d:=.bool false) (h:=aB (h:=br (aD (by decide) (aF (aM))) (aB (h:=bc)) ?_)) (ht:=rfl)) a9 ?_
   ·show some (decide (((s+k:Nat):Int)<0))=some false;rw[decide_eq_false (mB.mpr (c7 _))]
   refine aT (oK (d:=.int ((s+k:Nat)+w.length:Nat)) (by decide) (by decide) (nD (aM)) (kM (by decide) (aD (by decide) (aF (by refine au (by decide) ?_;exact g4))) (show dr O (ag "len") [.str (S w)]=some (.int ((S w).length:Nat)) from rfl) rfl) ?_) a9;rw[dA];rfl
noncomputable def bp (P:List (List Nat)):List PV:=P.map λw=>.str (S w)
theorem oU {x:Str} {xs:List PV} (h:σ.lookup x=some (.own xs)):gW σ x=some xs:=by unfold gW;exact aa h rfl
theorem qG {x:Str} {xs:List PV} (h:σ.lookup x=some (.own xs)):iu σ x=some (.list xs):=by unfold iu;exact aa h rfl
theorem Jb {w:List Nat} {P:List (List Nat)}:fN (.list (bp (w::P))) (.int 0)=some (.str (S w)):=by unfold fN bp;have:iD 0 ((w::P).map λw=>PV.str (S w)).length=some 0:=yK (RJ _) (by first|(simp;done)|(simp;omega));simp only[this];rfl
theorem BQ {P:List (List Nat)} (h:P≠[]):fN (.list (bp P)) (.int (-1))=some (.str (S (P.getLast h))):=by
 have hp:0<P.length:=vf.mpr h;unfold fN bp;have:iD (-1) (P.map λw=>PV.str (S w)).length=some (P.length - 1):=by
  have h2:=RK (i:= -1) (n:=(P.map λw=>PV.str (S w)).length) (by decide) (by first|(simp;done)|(simp;exact yX hp));refine aa h2 ?_;congr 1;first|(simp;done)|(simp;exact AH hp)
 simp only[this];show ((P.map λw=>PV.str (S w))[P.length - 1]?)=_;rw[iG,List.getLast_eq_getElem,el (Ex hp)];rfl
noncomputable def o0 (T l:List Nat):Option Nat:=if l=[] then some T.length else if l.isSuffixOf T=true then some (T.length - l.length) else none
noncomputable def kO (T:List Nat) (s:Nat) (P:List (List Nat)) (l:List Nat):Bool:=match o0 T l with
 |none=>false
 |some e=>if e<s then false else ia (if l=[] then P else P.dropLast) ((T.drop s).take (e - s))
theorem ot {l:List Nat}:eO (.str (S l))=some (decide (l≠[])):=by
 show some ((S l).length != 0)=_;rw[dA]
 induction l using aP<;>rfl
theorem Cz {T:List Nat} {s e:Nat} {P:List (List Nat)} (he:e<=T.length) (h1:σ.lookup gh=some (.sh (.str (S T)))) (h2:σ.lookup fC=some (.sh (.int s))) (h3:σ.lookup gj=some (.sh (.int e))) (h4:σ.lookup dN=some (.own (bp P))):aJ O 52 ff σ (iP.drop 8)=some (.rt (.bool (if e<s then false else ia P ((T.drop s).take (e - s))))):=by
 have hc:pT O 50 ff σ (.Compare (.Name fC ⟨0,0,0,0⟩) [.Gt] [.Name gj ⟨0,0,0,0⟩] ⟨0,0,0,0⟩)=some (decide ((s:Int)>(e:Int))):=
  bA (d:=.bool (decide ((s:Int)>(e:Int)))) (h:=aB (h:=br (aD (by decide) (aF h2)) (aD (by decide) (aF h3)) rfl)) (ht:=rfl)
 by_cases hlt:e<s
 ·refine aa (if_pos hlt) ?_;refine lQ (bA (d:=.bool true) (h:=aB (h:=br (aD (by decide) (aF h2)) (aD (by decide) (aF h3)) ?_)) (ht:=rfl)) (iw kS);show some (decide ((s:Int)>(e:Int)))=some true;rw[decide_eq_true (oh.mpr (by assumption))]
 ·refine aa (if_neg hlt) ?_;refine dW (bA (d:=.bool false) (h:=aB (h:=br (aD (by decide) (aF h2)) (aD (by decide) (aF h3)) ?_)) (ht:=rfl)) a9 ?_
  ·show some (decide ((s:Int)>(e:Int)))=some false;rw[decide_eq_false (PB hlt)]
  have hu:unown1 σ dN=put σ dN (.sh (.list (bp P))):=by unfold unown1;exact aa h4 rfl
  have g1:(put σ dN (.sh (.list (bp P)))).lookup gh=some (.sh (.str (S T))):=by refine au (by decide) ?_;exact h1
  have g2:(put σ dN (.sh (.list (bp P)))).lookup fC=some (.sh (.int s)):=by refine au (by decide) ?_;exact h2
  have g3:(put σ dN (.sh (.list (bp P)))).lookup gj=some (.sh (.int e)):=by refine au (by decide) ?_;exact h3
  refine aE (N6 (O:=O) T P s e (put σ dN (.sh (.list (bp P)))) (rK (by assumption)) he g1 g2 g3) λσ' hσ'=>?_;have hno:gS σ dN=none:=by unfold gS;exact aa h4 rfl
  have hpe:∀q,pe O 48 ff σ (.Name dN q)=none:=λq=>by refine aa rA ?_;rw[if_pos (show bj ff dN=true by decide)];exact hno
  have hpi:∀q tt,cr O 49 ff σ tt (.Name dN q)=none:=λq tt=>by refine aa (ql rfl) ?_;rw[hpe]
  have hps:∀q,cr O 49 ff (put σ dN (.sh (.list (bp P)))) (dM (aU iP 9).1) (.Name dN q)=some (bp P):=λq=>by have:pe O 48 ff (put σ dN (.sh (.list (bp P)))) (.Name dN q)=some (.list (bp P)):=aC (by decide) (aM);refine aa (ql rfl) (aa this ?_);rfl
  cases hl:ia P ((T.drop s).take (e - s)) with
  |true=>rw[hl,if_pos rfl] at hσ';refine Ch (σ':=σ') (Aq (hpi _ _) rfl) ?_ (iw kS);show px O 50 ff (unown1 σ dN) _=_;refine aa hu ?_;exact lO (hps _) hσ' a9
  |false=>rw[hl,if_neg (by decide)] at hσ';refine Jt (q:=.rt (.bool false)) (Aq (hpi _ _) rfl) ?_ (λζ z=>nomatch z);show px O 50 ff (unown1 σ dN) _=_;refine aa hu ?_;exact OV (hps _) hσ'
theorem FG {P:List (List Nat)} (h:P≠[]):(bp P).eraseIdx (P.length - 1)=bp P.dropLast:=by
 unfold bp;refine aa List.map_dropLast ?_;have key:∀(l:List PV),l≠[]->l.eraseIdx (l.length - 1)=l.dropLast:=by
  intro l
  induction l with
  |nil=>intro h;exact absurd rfl h
  |cons a r ih=>
   intro _
   induction r using aP with
   |nil=>rfl
   |cons b r=>show (a::b::r).eraseIdx (r.length+1)=a::(b::r).dropLast;refine aa List.eraseIdx_cons_succ ?_;congr 1;exact ih (sm _ _)
 have:=key (P.map λw=>PV.str (S w)) (by simpa using h);exact (bx ..)▸this
theorem BK {T:List Nat} {s:Nat} {P:List (List Nat)} (hP:P≠[]) (h1:σ.lookup gh=some (.sh (.str (S T)))) (h2:σ.lookup fC=some (.sh (.int s))) (h3:σ.lookup gj=some (.sh (.int (T.length:Nat)))) (h4:σ.lookup dN=some (.own (bp P))):aJ O 54 ff σ (iP.drop 6)=some (.rt (.bool (kO T s P (P.getLast hP)))):=by
 have hcut:pe O 52 ff σ (.Subscript (.Name dN ⟨0,0,0,0⟩) (.UnaryOp .USub (.Constant (.int 1) 0 ⟨0,0,0,0⟩) ⟨0,0,0,0⟩) ⟨0,0,0,0⟩)=some (.str (S (P.getLast hP))):=
  wW (h1:=aD (by decide) (qG h4)) (h2:=s8 bc) (h:=BQ hP) (hd:=rfl)
 refine aT (bM (d:=.str (S (P.getLast hP))) (by decide) (h:=wW (h1:=aD (by decide) (qG h4)) (h2:=s8 bc) (h:=BQ hP) (hd:=rfl)) (hs:=λxs z=>nomatch z)) ?_;have g1:(put σ nW (.sh (.str (S (P.getLast hP))))).lookup gh=some (.sh (.str (S T))):=by refine au (by decide) ?_;exact h1
 have g2:(put σ nW (.sh (.str (S (P.getLast hP))))).lookup fC=some (.sh (.int s)):=by refine au (by decide) ?_;exact h2
 have g3:(put σ nW (.sh (.str (S (P.getLast hP))))).lookup gj=some (.sh (.int (T.length:Nat))):=by refine au (by decide) ?_;exact h3
 have g4:(put σ nW (.sh (.str (S (P.getLast hP))))).lookup dN=some (.own (bp P)):=by refine au (by decide) ?_;exact h4
 have g5:(put σ nW (.sh (.str (S (P.getLast hP))))).lookup nW=some (.sh (.str (S (P.getLast hP)))):=aM;revert g1;revert g2;revert g3;revert g4;revert g5;refine aX (P.getLast hP) λl=>?_;intro g5 g4 g3 g2 g1;revert g1;revert g2;revert g3;revert g4;revert g5;refine aX (put σ nW (.sh (.str (S l)))) λσ1=>?_;intro g5 g4 g3 g2 g1;unfold kO o0
 by_cases hl:l=[]
 ·refine aa (if_pos hl) (aa (if_pos hl) ?_);refine dW (by rw[jP (by decide) g5,ot];simp[hl]) a9 ?_;exact Cz (bf _) g1 g2 g3 g4
 ·refine aa (if_neg hl) ?_;have no1:∀q,cE σ1 (.Name gh q)=false:=λq=>dX g1;have no2:∀q,cE σ1 (.Name nW q)=false:=λq=>dX g5;have hends:∀{c:Bool},l.isSuffixOf T=c->dZ (cE σ1 (.Name gh ⟨0,0,0,0⟩)||[Q1 nW ⟨0,0,0,0⟩].any (cE σ1)) (cY (.str (S T)) (ag "endswith") [.str (S l)])=some (.bool c):=λ{c} hc=>by simp only[pO,Ej,no1,no2,Ek,dZ];show some (PV.bool (x2 (S T) (S l)))=_;rewrite[I1];exact aa hc rfl
  cases hc:l.isSuffixOf T with
  |false=>rw[if_neg (by decide)];refine lQ (by rw[jP (by decide) g5,ot];simp[hl]) ?_;exact xo (bA (d:=.bool false) (h:=aB (h:=mU (by decide) rfl rfl (aF g1) (aN (aD (by decide) (aF g5)) bC) (hends hc))) (ht:=rfl)) (iw kS)
  |true=>
   refine aa (if_pos rfl) (aa (if_neg hl) ?_);have hle:=(sk.mp hc).length_le;refine ig (σ':=put (put σ1 gj (.sh (.int ((T.length - l.length:Nat):Int)))) dN (.own (bp P.dropLast))) (by rw[jP (by decide) g5,ot];simp[hl]) ?_ ?_
   ·refine ig (bA (d:=.bool true) (h:=aB (h:=mU (by decide) rfl rfl (aF g1) (aN (aD (by decide) (aF g5)) bC) (hends hc))) (ht:=rfl)) (σ':=put (put σ1 gj (.sh (.int ((T.length - l.length:Nat):Int)))) dN (.own (bp P.dropLast))) ?_ a9;refine aT (oK (d:=.int ((T.length - l.length:Nat):Int)) (by decide) (by decide) (nD g3) (kM (by decide) (aD (by decide) (aF g5)) (show dr O (ag "len") [.str (S l)]=some (.int ((S l).length:Nat)) from rfl) rfl) ?_) ?_
    ·rw[dA];show some (PV.int ((T.length:Int) - (l.length:Int)))=_;congr 2;omega
    ·refine aT (?_:px O _ ff _ _=some (.nx (put (put σ1 gj (.sh (.int ((T.length - l.length:Nat):Int)))) dN (.own (bp P.dropLast))))) a9;refine aH (FG hP) ?_;refine CN (k:= -1) (by decide) (oU (by refine au (by decide) ?_;exact g4)) (s8 bc) ?_ (by decide);have h2:=RK (i:= -1) (n:=(bp P).length) (by decide) (by have:=vf.mpr hP;simp[bp];exact yX this);refine aa h2 ?_;congr 1;have:=vf.mpr hP;simp[bp];exact AH this
   ·exact Cz (kt _ _) (by refine au (by decide) ?_;refine au (by decide) ?_;exact g1) (by refine au (by decide) ?_;refine au (by decide) ?_;exact g2) (by refine au (by decide) ?_;exact aM) (aM)
noncomputable def nP (P:List (List Nat)) (T:List Nat):Bool:=match P with
 |[]=>false
 |w::rest=>if w=[] then kO T 0 (w::rest) ((w::rest).getLastD []) else if w.isPrefixOf T=true then kO T w.length rest (rest.getLastD []) else false
theorem vX {P:List (List Nat)} (h:P≠[]):P.getLastD []=P.getLast h:=by
 have key:∀(r:List (List Nat)) (a d:List Nat),(a::r).getLastD d=(a::r).getLast (sm _ _):=by
  intro r
  induction r with
  |nil=>intro a d;rfl
  |cons b r ih=>intro a d;exact (ih b a).trans (by rfl)
 induction P using aP with
 |nil=>exact absurd rfl h
 |cons a r=>exact key r a []
set_option backward.match.sparseCases true in
theorem Ou {x:Str} {P:List (List Nat)} (h:Txt.split x (S dots)=P.map S) (hl:bt (x.length+2)=true):cY (.str x) (ag "split") [.str (S dots)]=some (.list (bp P)):=by
 unfold cY;simp only;rw[if_pos (show (ag "split" ==ag "split")=true by decide),if_pos,h]
 ·unfold bp;refine aa fj ?_;rfl
 ·refine aa hl ?_;rfl
theorem Jo {w v:List Nat} {ws:List (List Nat)} {T:List Nat} (hgc:O.gc lS=some (.str (S dots))) (hf:∀u∈w::v::ws,46∉u) (hl:bt ((jn (w::v::ws)).length+2)=true):aJ O 60 ff [(eW,.sh (.str (S (jn (w::v::ws))))),(gh,.sh (.str (S T)))] iP=some (.rt (.bool (nP (w::v::ws) T))):=by
 have hcon:=Pv w v ws;have hsp:=GH w (v::ws) hf;revert hcon;revert hsp;revert hl;refine aX (jn (w::v::ws)) λX=>?_;intro hl hsp hcon;have hP:w::v::ws≠[]:=sm _ _;refine dW (bA (d:=.bool false) (h:=aB (h:=br (v7 (by decide) (by decide) hgc) (aD (by decide) rfl) ?_)) (ht:=rfl)) a9 ?_
 ·show some (!iz (S X) (S dots))=some false;refine aa hcon ?_;rfl
 refine aT (tL (ent:=.own (bp (w::v::ws))) (by decide) (EY (xs:=bp (w::v::ws)) (h:=mU (r:=.str (S X)) (ds:=[.str (S dots)]) (by decide) rfl rfl rfl (aN (v7 (by decide) (by decide) hgc) bC) (Ou hsp (by rw[dA];exact hl))) (hs:=rfl))) ?_;show aJ O 58 ff [(eW,.sh (.str (S X))),(gh,.sh (.str (S T))),(dN,.own (bp (w::v::ws)))] (iP.drop 2)=_;refine aT (EJ (bA (d:=.bool true) (h:=aB (h:=br (aB (h:=kM (a:=.list (bp (w::v::ws))) (by decide) (aD (by decide) rfl) nQ rfl)) (aB (h:=bc)) ?_)) (ht:=rfl))) ?_
 ·show some (decide ((((bp (w::v::ws)).length:Nat):Int)>=2))=some true;rw[decide_eq_true];simp[bp];exact JF
 refine aT (Cb (xs:=[fC,gj]) (ents:=[.sh (.int 0),.sh (.int (T.length:Nat))]) rfl rfl (aN (sV (h:=bc) (hs:=λxs z=>nomatch z)) (aN (sV (h:=kM (a:=.str (S T)) (by decide) (aD (by decide) rfl) (show dr O (ag "len") [.str (S T)]=some (.int (T.length:Nat)) by rw[<- dA];rfl) rfl) (hs:=λxs z=>nomatch z)) zr))) ?_;show aJ O 56 ff [(eW,.sh (.str (S X))),(gh,.sh (.str (S T))),(dN,.own (bp (w::v::ws))),(fC,.sh (.int 0)),(gj,.sh (.int (T.length:Nat)))] (iP.drop 4)=_;refine aT (bM (d:=.str (S w)) (by decide) (h:=wW (a:=.list (bp (w::v::ws))) (h1:=aD (by decide) rfl) (h2:=bc) (h:=Jb) (hd:=rfl)) (hs:=λxs z=>nomatch z)) ?_;show aJ O 55 ff [(eW,.sh (.str (S X))),(gh,.sh (.str (S T))),(dN,.own (bp (w::v::ws))),(fC,.sh (.int 0)),(gj,.sh (.int (T.length:Nat))),(nW,.sh (.str (S w)))] (iP.drop 5)=_;unfold nP;simp only
 by_cases hw:w=[]
 ·refine aa (if_pos hw) ?_;refine dW (by rw[jP (d:=.str (S w)) (by decide) rfl,ot];simp[hw]) a9 ?_;refine aa (vX hP) ?_;exact BK (s:=0) hP rfl rfl rfl rfl
 ·refine aa (if_neg hw) ?_;have hst:∀{c:Bool},w.isPrefixOf T=c->cY (.str (S T)) (ag "startswith") [.str (S w)]=some (.bool c):=λ{c} hc=>by show some (PV.bool (x1 (S T) (S w)))=_;rewrite[Fn];exact aa hc rfl
  cases hc:w.isPrefixOf T with
  |false=>rw[if_neg (by decide)];refine lQ (by rw[jP (d:=.str (S w)) (by decide) rfl,ot];simp[hw]) ?_;exact xo (bA (d:=.bool false) (h:=aB (h:=mU (r:=.str (S T)) (ds:=[.str (S w)]) (by decide) rfl rfl rfl (aN (aD (by decide) rfl) bC) (hst hc))) (ht:=rfl)) (iw kS)
  |true=>
   refine aa (if_pos rfl) ?_;have hP2:v::ws≠[]:=sm _ _;refine ig (σ':=[(eW,.sh (.str (S X))),(gh,.sh (.str (S T))),(dN,.own (bp (v::ws))),(fC,.sh (.int (w.length:Nat))),(gj,.sh (.int (T.length:Nat))),(nW,.sh (.str (S w)))]) (by rw[jP (d:=.str (S w)) (by decide) rfl,ot];simp[hw]) ?_ ?_
   ·refine ig (σ':=[(eW,.sh (.str (S X))),(gh,.sh (.str (S T))),(dN,.own (bp (v::ws))),(fC,.sh (.int (w.length:Nat))),(gj,.sh (.int (T.length:Nat))),(nW,.sh (.str (S w)))]) (bA (d:=.bool true) (h:=aB (h:=mU (r:=.str (S T)) (ds:=[.str (S w)]) (by decide) rfl rfl rfl (aN (aD (by decide) rfl) bC) (hst hc))) (ht:=rfl)) ?_ a9;refine aT (bM (d:=.int (w.length:Nat)) (by decide) (h:=kM (a:=.str (S w)) (by decide) (aD (by decide) rfl) (show dr O (ag "len") [.str (S w)]=some (.int (w.length:Nat)) by rw[<- dA];rfl) rfl) (hs:=λxs z=>nomatch z)) ?_;refine aT (CN (xs:=bp (w::v::ws)) (k:=0) (j:=0) (by decide) rfl bc ?_ (by decide)) a9;exact yK (RJ _) (by simp[bp];exact FU)
   ·refine aa (vX hP2) ?_;exact BK (s:=w.length) hP2 rfl rfl rfl rfl
theorem FJ {x t:List Nat} (hgc:O.gc lS=some (.str (S dots))) (hf:46∉x):aJ O 60 ff [(eW,.sh (.str (S x))),(gh,.sh (.str (S t)))] iP=some (.rt (.bool (x==t))):=by
 refine lQ (bA (d:=.bool true) (h:=aB (h:=br (v7 (by decide) (by decide) hgc) (aD (by decide) rfl) ?_)) (ht:=rfl)) ?_
 ·show some (!iz (S x) (S dots))=some true;refine aa (Hi hf) ?_;rfl
 ·refine iw (br (aD (by decide) rfl) (aD (by decide) rfl) ?_);show some (S x==S t)=_;rw[jZ]
theorem w7 {w v:List Nat} {ws:List (List Nat)} {T:List Nat} (hf:∀u∈w::v::ws,46∉u) (hl:bt ((jn (w::v::ws)).length+2)=true):bQ pw O0 dL [.str (S (jn (w::v::ws))),.str (S T)]=some (.bool (nP (w::v::ws) T)):=by refine lX (d:=bD dL) rfl rfl ?_;have:=Jo (O:=O0) (T:=T) (by rfl) hf hl;exact this
theorem Le {x t:List Nat} (hf:46∉x):bQ pw O0 dL [.str (S x),.str (S t)]=some (.bool (x==t)):=by refine lX (d:=bD dL) rfl rfl ?_;have:=FJ (O:=O0) (t:=t) (by rfl) hf;exact this
end
inductive It0 where
 |ch (c:Nat)
 |es (c:Nat)
 deriving DecidableEq
noncomputable def It0.txt:It0->List Nat
 |.ch c=>[c]
 |.es c=>[92,c]
noncomputable def It0.ok:It0->Bool
 |.ch c=>c != 92
 |.es _=>true
noncomputable def a8 (l:List It0):List Nat:=l.flatMap It0.txt
noncomputable def tok:Nat->List It0->List PV
 |_,[]=>[]
 |i,.ch c::r=>.tup [.int i,.str (S [c])]::tok (i+1) r
 |i,.es c::r=>.tup [.int ((i+1:Nat):Int),.str (S [92,c])]::tok (i+2) r
theorem Bj (t:It0) (l:List It0):a8 (t::l)=t.txt++a8 l:=rfl
theorem kG (a b:List It0):a8 (a++b)=a8 a++a8 b:=by unfold a8;exact aa El rfl
theorem rG:∀(a b:List It0) (i:Nat),tok i (a++b)=tok i a++tok (i+(a8 a).length) b
 |[],b,i=>rfl
 |.ch c::a,b,i=>by refine (?_:_::tok (i+1) (a++b)=_::(tok (i+1) a++_));refine aa (rG a b (i+1)) ?_;rw[Bj];simp only[It0.txt,ci,pZ,vj];congr 3;exact mA _ _ _
 |.es c::a,b,i=>by refine (?_:_::tok (i+2) (a++b)=_::(tok (i+2) a++_));refine aa (rG a b (i+2)) ?_;rw[Bj];simp only[It0.txt,ci,pZ,vj];congr 3;exact mA _ _ _
theorem tX:∀(l:List It0) (i:Nat),l.all It0.ok=true->fG i false ((a8 l).map λc=>S [c])=tok i l
 |[],i,_=>rfl
 |.ch c::r,i,h=>by
  simp only[mM,bF,It0.ok,bne_iff_ne,ne_eq] at h;have e:(S [c]==fz)=false:=by rw[show fz=S [92] by rfl,jZ];simp[h.1]
  refine (?_:fG i false (S [c]::(a8 r).map λc=>S [c])=_);refine aa rC ?_;simp only[ey,if_false,e];refine aa (tX r (i+1) h.2) ?_;rfl
 |.es c::r,i,h=>by simp only[mM,bF] at h;refine (?_:fG i false (S [92]::S [c]::(a8 r).map λc=>S [c])=_);refine aa rC ?_;simp only[ey,if_false,show (S [92]==fz)=true by decide,if_true];refine aa rC ?_;simp only[if_true];refine aa (tX r (i+1+1) h.2) ?_;rfl
theorem BG (l:List It0):eY (S (a8 l))=(a8 l).map λc=>S [c]:=JL _
theorem Iq {l:List It0} (h:l.all It0.ok=true):O1.gen nEsc [.str (S (a8 l))]=some (tok 0 l):=by refine (?_:tz [.str (S (a8 l))]=_);unfold tz;simp only;rewrite[BG];exact aa (tX l 0 h) rfl
noncomputable def pj:Scope:=(bD eA).scope
noncomputable def kJ:List aL:=(bD eA).body
noncomputable abbrev mV:Str:=ag "addr"
noncomputable abbrev lV:Str:=ag "opens"
noncomputable abbrev fe:Str:=ag "pos"
noncomputable abbrev fD:Str:=ag "ch"
noncomputable def dx:Int->List It0->Option Int
 |k,[]=>some k
 |k,.ch c::r=>if c=40 then dx (k+1) r else if c=41 then (if k - 1<0 then none else dx (k - 1) r) else dx k r
 |k,.es _::r=>dx k r
theorem Sr {k}:dx k []=some k:=rfl
theorem Hs {k c r}:dx k (.ch c::r)=if c=40 then dx (k+1) r else if c=41 then (if k - 1<0 then none else dx (k - 1) r) else dx k r:=rfl
theorem Sx {k x r}:dx k (.es x::r)=dx k r:=rfl
section
variable {O:Orc} {σ σ':Sg} {n:Nat}
theorem rj {step:Sg->PV->Option Out}:∀{xs ys:List PV} {σ σ':Sg},bU step xs σ=some (.nx σ')->bU step (xs++ys) σ=bU step ys σ'
 |[],ys,σ,σ',h=>by cases h;rfl
 |d::xs,ys,σ,σ',h=>by
  rw[ue] at h;cases hs:step σ d with
  |none=>replace h:=hs▸h;exact ac h
  |some o=>
   replace h:=hs▸h;cases o with
   |nx σ1=>have h:bU step xs σ1=some (.nx σ'):=h;exact (gR (ds:=xs++ys) hs rfl).trans (rj h)
   |bk σ1=>cases h
   |rt d=>cases h
theorem LG:∀(l:List It0) (i:Nat) (k:Int) (σ:Sg),σ.lookup lV=some (.sh (.int k))->∃σ',bU (b8 O 55 pj (aU kJ 2).1 (aU kJ 2).2) (tok i l) σ=(match dx k l with|some k'=>some (.nx σ')|none=>some (.rt (.bool false)))/\∀k',dx k l=some k'->σ'.lookup lV=some (.sh (.int k')):=by
 intro l
 induction l with
 |nil=>intro i k σ h;exact az σ rfl (λk' e=>by (have h_:=aj e;clear e;subst h_);exact h)
 |cons t r ih=>
  intro i k σ h;have hstep:∀(p:Int) (s:Str),b8 O 55 pj (aU kJ 2).1 (aU kJ 2).2 σ (.tup [.int p,.str s])=aJ O 55 pj (put (put σ fe (.sh (.int p))) fD (.sh (.str s))) (aU kJ 2).2:=λp s=>rfl;have g1:∀(p:Int) (s:Str),(put (put σ fe (.sh (.int p))) fD (.sh (.str s))).lookup lV=some (.sh (.int k)):=λp s=>by refine au (by decide) ?_;refine au (by decide) ?_;exact h
  have g2:∀(p:Int) (s:Str),(put (put σ fe (.sh (.int p))) fD (.sh (.str s))).lookup fD=some (.sh (.str s)):=λp s=>aM;have none0:∀(p:Int) (s:Str),(s==S [40])=false->(s==S [41])=false->b8 O 55 pj (aU kJ 2).1 (aU kJ 2).2 σ (.tup [.int p,.str s])=some (.nx (put (put σ fe (.sh (.int p))) fD (.sh (.str s)))):=λp s h1 h2=>by
   rw[hstep];refine dW (bA (d:=.bool false) (h:=aB (h:=br (aD (by decide) (aF (g2 p s))) (aB (h:=fU (by decide))) ?_)) (ht:=rfl)) ?_ a9
   ·refine (?_:some (s==S [40])=_);exact aa h1 rfl
   ·refine dW (bA (d:=.bool false) (h:=aB (h:=br (aD (by decide) (aF (g2 p s))) (aB (h:=fU (by decide))) ?_)) (ht:=rfl)) a9 a9;refine (?_:some (s==S [41])=_);exact aa h2 rfl
  cases t with
  |es c=>
   have h1:(S [92,c]==S [40])=false:=by rw[jZ];rfl
   have h2:(S [92,c]==S [41])=false:=by rw[jZ];rfl
   refine ah (ih (i+2) k _ (g1 ((i+1:Nat):Int) (S [92,c]))) λσ' e1 e2=>?_;exact az σ' ((gR (none0 _ _ h1 h2) rfl).trans e1) e2
  |ch c=>
   refine aa Hs ?_
   by_cases h40:c=40
   ·subst h40;simp only[if_true];refine ah (ih (i+1) (k+1) (put (put (put σ fe (.sh (.int i))) fD (.sh (.str (S [40])))) lV (.sh (.int (k+1)))) (aM)) λσ' e1 e2=>?_;refine az σ' ((gR ?_ rfl).trans e1) e2;rw[hstep];refine ig (bA (d:=.bool true) (h:=aB (h:=br (aD (by decide) (aF (g2 i (S [40])))) (aB (h:=fU (by decide))) rfl)) (ht:=rfl)) ?_ a9;exact aT (oK (by decide) (by decide) (nD (g1 i (S [40]))) bc rfl) a9
   ·refine aa (if_neg h40) ?_;have e40:(S [c]==S [40])=false:=by rw[jZ];simp[h40]
    by_cases h41:c=41
    ·subst h41;simp only[if_true];have g3:(put (put (put σ fe (.sh (.int i))) fD (.sh (.str (S [41])))) lV (.sh (.int (k - 1)))).lookup lV=some (.sh (.int (k - 1))):=aM
     by_cases hk:k - 1<0
     ·refine aa (if_pos hk) ?_;refine az σ (xB (q:=.rt (.bool false)) ?_ (λζ z=>nomatch z)) (λk' e=>nomatch e);rw[hstep];refine xo (bA (d:=.bool false) (h:=aB (h:=br (aD (by decide) (aF (g2 i (S [41])))) (aB (h:=fU (by decide))) rfl)) (ht:=rfl)) ?_;refine lQ (bA (d:=.bool true) (h:=aB (h:=br (aD (by decide) (aF (g2 i (S [41])))) (aB (h:=fU (by decide))) rfl)) (ht:=rfl)) ?_;refine aT (oK (by decide) (by decide) (nD (g1 i (S [41]))) bc (rfl:ml .Sub (.int k) (.int 1)=some (.int (k - 1)))) ?_;refine lQ (bA (d:=.bool true) (h:=aB (h:=br (aD (by decide) (aF g3)) (aB (h:=bc)) ?_)) (ht:=rfl)) (iw kS);refine (?_:some (decide (k - 1<0))=some true);exact aa (decide_eq_true hk) rfl
     ·refine aa (if_neg hk) ?_;refine ah (ih (i+1) (k - 1) _ g3) λσ' e1 e2=>?_;refine az σ' ((gR ?_ rfl).trans e1) e2;rw[hstep];refine dW (bA (d:=.bool false) (h:=aB (h:=br (aD (by decide) (aF (g2 i (S [41])))) (aB (h:=fU (by decide))) rfl)) (ht:=rfl)) ?_ a9;refine ig (bA (d:=.bool true) (h:=aB (h:=br (aD (by decide) (aF (g2 i (S [41])))) (aB (h:=fU (by decide))) rfl)) (ht:=rfl)) ?_ a9;refine aT (oK (by decide) (by decide) (nD (g1 i (S [41]))) bc (rfl:ml .Sub (.int k) (.int 1)=some (.int (k - 1)))) ?_;refine dW (bA (d:=.bool false) (h:=aB (h:=br (aD (by decide) (aF g3)) (aB (h:=bc)) ?_)) (ht:=rfl)) a9 a9;refine (?_:some (decide (k - 1<0))=some false);exact aa (decide_eq_false hk) rfl
    ·refine aa (if_neg h41) ?_;have e41:(S [c]==S [41])=false:=by rw[jZ];simp[h41]
     refine ah (ih (i+1) k _ (g1 (i:Int) (S [c]))) λσ' e1 e2=>?_;exact az σ' ((gR (none0 _ _ e40 e41) rfl).trans e1) e2
end
inductive Sg2 where
 |pl (t:It0)
 |qt (l:List It0)
noncomputable def Sg2.its:Sg2->List It0
 |.pl t=>[t]
 |.qt l=>.ch 34::l++[.ch 34]
noncomputable def Sg2.keep:Sg2->List It0
 |.pl t=>[t]
 |.qt _=>[]
noncomputable def Sg2.ok:Sg2->Bool
 |.pl t=>t.ok&&t != .ch 34
 |.qt l=>l.all λt=>t.ok&&t != .ch 34
noncomputable def cu (l:List Sg2):List It0:=l.flatMap Sg2.its
noncomputable def dn (l:List Sg2):List It0:=l.flatMap Sg2.keep
noncomputable def fZ:Scope:=(bD gC).scope
noncomputable def dI:List aL:=(bD gC).body
noncomputable abbrev re:Str:=ag "start"
noncomputable abbrev pk:Str:=ag "open_pos"
noncomputable abbrev lN:Str:=ag "result"
section
variable {O:Orc} {σ σ':Sg} {n:Nat}
structure fP (X:List Nat) (st:Nat) (op:PV) (R:List (List Nat)) (σ:Sg):Prop where
 a:σ.lookup mV=some (.sh (.str (S X)))
 s:σ.lookup re=some (.sh (.int st))
 o:σ.lookup pk=some (.sh op)
 r:σ.lookup lN=some (.own (bp R))
theorem fP.tgt {X:List Nat} {st:Nat} {op:PV} {R:List (List Nat)} (h:fP X st op R σ) (p:Int) (s:Str):fP X st op R (put (put σ fe (.sh (.int p))) fD (.sh (.str s))):=
 ⟨by refine au (by decide) ?_;refine au (by decide) ?_;exact h.a,by refine au (by decide) ?_;refine au (by decide) ?_;exact h.s,
  by refine au (by decide) ?_;refine au (by decide) ?_;exact h.o,by refine au (by decide) ?_;refine au (by decide) ?_;exact h.r⟩
theorem z7 {X:List Nat} {st:Nat} {op:PV} {R:List (List Nat)} (p:Int) (s:Str) (h:fP X st op R σ) (hs:(s==S [34])=false):∃σ',b8 O 54 fZ (aU dI 4).1 (aU dI 4).2 σ (.tup [.int p,.str s])=some (.nx σ')/\fP X st op R σ':=by refine az _ ?_ (h.tgt p s);show aJ O 54 fZ (put (put σ fe (.sh (.int p))) fD (.sh (.str s))) (aU dI 4).2=_;refine dW (bA (d:=.bool false) (h:=aB (h:=br (aD (by decide) (aF (aM))) (aB (h:=fU (by decide))) ?_)) (ht:=rfl)) a9 a9;show some (s==S [34])=_;exact aa hs rfl
set_option backward.match.sparseCases true in
theorem to {X:List Nat} {st:Nat} {op:PV} {R:List (List Nat)}:∀(l:List It0) (i:Nat) (σ:Sg),(l.all λt=>t.ok&&t != .ch 34)=true->fP X st op R σ->∃σ',bU (b8 O 54 fZ (aU dI 4).1 (aU dI 4).2) (tok i l) σ=some (.nx σ')/\fP X st op R σ'
 |[],i,σ,_,h=>⟨σ,rfl,h⟩
 |.ch c::r,i,σ,ha,h=>by simp only[mM,bF,bne_iff_ne,ne_eq] at ha;have hc:¬ c=34:=λe=>ha.1.2 (e▸rfl);refine ah (z7 (O:=O) (i:Int) (S [c]) h (by rw[jZ];simp[hc])) λσ1 e1 h1=>?_;refine ah (to r (i+1) σ1 (by simp only[c9,bF,bne_iff_ne,ne_eq] at ha ⊢;exact ha.2) h1) λσ2 e2 h2=>?_;exact az σ2 ((gR e1 rfl).trans e2) h2
 |.es c::r,i,σ,ha,h=>by simp only[mM,bF] at ha;refine ah (z7 (O:=O) ((i+1:Nat):Int) (S [92,c]) h (by rw[jZ];rfl)) λσ1 e1 h1=>?_;refine ah (to r (i+2) σ1 ha.2 h1) λσ2 e2 h2=>?_;exact az σ2 ((gR e1 rfl).trans e2) h2
theorem KL {X:List Nat} {st:Nat} {R:List (List Nat)} (p:Int) (h:fP X st .none R σ):∃σ',b8 O 54 fZ (aU dI 4).1 (aU dI 4).2 σ (.tup [.int p,.str (S [34])])=some (.nx σ')/\fP X st (.int p) R σ':=by
 have g:=h.tgt p (S [34]);have g1:(put (put σ fe (.sh (.int p))) fD (.sh (.str (S [34])))).lookup fe=some (.sh (.int p)):=by refine au (by decide) ?_;exact aM
 have g2:(put (put σ fe (.sh (.int p))) fD (.sh (.str (S [34])))).lookup fD=some (.sh (.str (S [34]))):=aM;have hst:∀q,b8 O 54 fZ (aU dI 4).1 (aU dI 4).2 σ (.tup [.int p,.str (S [34])])=q↔aJ O 54 fZ (put (put σ fe (.sh (.int p))) fD (.sh (.str (S [34])))) (aU dI 4).2=q:=λq=>Iff.rfl;revert g;revert g1;revert g2;revert hst;refine aX (put (put σ fe (.sh (.int p))) fD (.sh (.str (S [34])))) λσ1=>?_;intro hst g2 g1 g;refine az (put σ1 pk (.sh (.int p))) ?_ ⟨by refine au (by decide) ?_;exact g.a,by refine au (by decide) ?_;exact g.s,aM,by refine au (by decide) ?_;exact g.r⟩;rw[hst];refine ig (bA (d:=.bool true) (h:=aB (h:=br (aD (by decide) (aF g2)) (aB (h:=fU (by decide))) rfl)) (ht:=rfl)) ?_ a9;refine ig (bA (d:=.bool true) (h:=aB (h:=br (aD (by decide) (aF g.o)) (aB (h:=nG)) rfl)) (ht:=rfl)) ?_ a9;exact aT (bM (by decide) (h:=aC (by decide) g1) (hs:=λxs z=>nomatch z)) a9
theorem Fa {X:List Nat} {a b:Nat} (hab:a<=b) (hb:b<=X.length):eG (.str (S X)) (some (a:Int)) (some (b:Int)) none=some (.str (S ((X.drop a).take (b - a)))):=by refine aH (CP X hab hb) ?_;rfl
theorem Fy {X:List Nat} {a:Nat} (hb:a<=X.length):eG (.str (S X)) (some (a:Int)) none none=some (.str (S (X.drop a))):=by refine aH (B7 hb) ?_;rfl
theorem KF {X:List Nat} {st o p:Nat} {R:List (List Nat)} (h:fP X st (.int o) R σ) (hso:st<=o) (ho:o<=X.length) (hX:X.length<=1000000) (hR:R.length<=1000000):∃σ',b8 O 54 fZ (aU dI 4).1 (aU dI 4).2 σ (.tup [.int p,.str (S [34])])=some (.nx σ')/\fP X (p+1) .none (if st=o then R else R++[(X.drop st).take (o - st)]) σ':=by
 have g:=h.tgt p (S [34]);have g1:(put (put σ fe (.sh (.int p))) fD (.sh (.str (S [34])))).lookup fe=some (.sh (.int p)):=by refine au (by decide) ?_;exact aM
 have g2:(put (put σ fe (.sh (.int p))) fD (.sh (.str (S [34])))).lookup fD=some (.sh (.str (S [34]))):=aM;have hst:∀q,b8 O 54 fZ (aU dI 4).1 (aU dI 4).2 σ (.tup [.int p,.str (S [34])])=q↔aJ O 54 fZ (put (put σ fe (.sh (.int p))) fD (.sh (.str (S [34])))) (aU dI 4).2=q:=λq=>Iff.rfl;revert g;revert g1;revert g2;revert hst;refine aX (put (put σ fe (.sh (.int p))) fD (.sh (.str (S [34])))) λσ1=>?_;intro hst g2 g1 g;have h62:(2:Int)^62=4611686018427387904:=by decide
 have tail:∀{σ2:Sg} {R'},fP X st (.int o) R' σ2->σ2.lookup fe=some (.sh (.int p))->fP X (p+1) .none R' (put (put σ2 re (.sh (.int ((p+1:Nat):Int)))) pk (.sh .none)):=λ{σ2 R'} k _=>
  ⟨by refine au (by decide) ?_;refine au (by decide) ?_;exact k.a,by refine au (by decide) ?_;exact aM,aM,by refine au (by decide) ?_;refine au (by decide) ?_;exact k.r⟩
 have hne:∀q1 q2 q3,pe O 50 fZ σ1 (.Compare (.Name re q1) [.NotEq] [.Name pk q2] q3)=some (.bool (!((st:Int)==(o:Int)))):=λq1 q2 q3=>br (aD (by decide) (aF g.s)) (aD (by decide) (aF g.o)) rfl
 by_cases hc:st=o
 ·refine aa (if_pos hc) ?_;refine az _ ?_ (tail g g1);rw[hst];refine ig (bA (d:=.bool true) (h:=aB (h:=br (aD (by decide) (aF g2)) (aB (h:=fU (by decide))) rfl)) (ht:=rfl)) ?_ a9;refine dW (bA (d:=.bool false) (h:=aB (h:=br (aD (by decide) (aF g.o)) (aB (h:=nG)) rfl)) (ht:=rfl)) ?_ a9;refine dW (bA (d:=.bool false) (h:=aB (h:=br (aD (by decide) (aF g.s)) (aD (by decide) (aF g.o)) ?_)) (ht:=rfl)) a9 ?_
  ·show some (!((st:Int)==(o:Int)))=some false;subst hc;simp
  refine aT (bM (d:=.int ((p+1:Nat):Int)) (by decide) (h:=aR (aC (by decide) g1) bc rfl) (hs:=λxs z=>nomatch z)) ?_;exact aT (bM (by decide) (h:=nG) (hs:=λxs z=>nomatch z)) a9
 ·refine aa (if_neg hc) ?_;have hk:fP X st (.int o) (R++[(X.drop st).take (o - st)]) (put σ1 lN (.own (bp R++[.str (S ((X.drop st).take (o - st)))]))):=
   ⟨by refine au (by decide) ?_;exact g.a,by refine au (by decide) ?_;exact g.s,by refine au (by decide) ?_;exact g.o,by refine aM.trans ?_;simp[bp]⟩
  have g1':(put σ1 lN (.own (bp R++[.str (S ((X.drop st).take (o - st)))]))).lookup fe=some (.sh (.int p)):=by refine au (by decide) ?_;exact g1
  refine az _ ?_ (tail hk g1');rw[hst];refine ig (bA (d:=.bool true) (h:=aB (h:=br (aD (by decide) (aF g2)) (aB (h:=fU (by decide))) rfl)) (ht:=rfl)) ?_ a9;refine dW (bA (d:=.bool false) (h:=aB (h:=br (aD (by decide) (aF g.o)) (aB (h:=nG)) rfl)) (ht:=rfl)) ?_ a9;refine ig (σ':=put σ1 lN (.own (bp R++[.str (S ((X.drop st).take (o - st)))]))) (bA (d:=.bool true) (h:=aB (h:=br (aD (by decide) (aF g.s)) (aD (by decide) (aF g.o)) ?_)) (ht:=rfl)) ?_ ?_
  ·show some (!((st:Int)==(o:Int)))=some true;have:((st:Int)==(o:Int))=false:=by simp;exact Pk hso hc
   refine aa this ?_;rfl
  ·refine aT (qJ (by decide) rfl (oU g.r) (jF (aC (by decide) g.a) (gY (aC (by decide) g.s) (by lia)) (gY (aC (by decide) g.o) (by lia)) ny (Fa hso ho)) ?_) a9;unfold bt;exact dg (by simp[bp];exact al (by assumption) (dv _ _))
  refine aT (bM (d:=.int ((p+1:Nat):Int)) (by decide) (h:=aR (aC (by decide) g1') bc rfl) (hs:=λxs z=>nomatch z)) ?_;exact aT (bM (by decide) (h:=nG) (hs:=λxs z=>nomatch z)) a9
end
section
variable {O:Orc} {σ σ':Sg} {n:Nat}
theorem oP (g:Sg2) (l:List Sg2):cu (g::l)=g.its++cu l:=rfl
theorem qB (g:Sg2) (l:List Sg2):dn (g::l)=g.keep++dn l:=rfl
theorem Ps (X:List Nat) (hX:X.length<=1000000):∀(l:List Sg2) (i st:Nat) (R:List (List Nat)) (σ:Sg),l.all Sg2.ok=true->fP X st .none R σ->st<=i->i<=X.length->X.drop i=a8 (cu l)->R.length<=i->∃σ' st' R',bU (b8 O 54 fZ (aU dI 4).1 (aU dI 4).2) (tok i (cu l)) σ=some (.nx σ')/\fP X st' .none R' σ'/\st'<=X.length/\R'.length<=X.length/\
   R'.flatten++X.drop st'=R.flatten++(X.drop st).take (i - st)++a8 (dn l):=by
 intro l
 induction l with
 |nil=>
  intro i st R σ _ h hi hle hd hR;refine jl σ st R rfl h (al (by assumption) (by assumption)) (al (by assumption) (by assumption)) ?_;have:X.length<=i:=by have:=congrArg iB hd;simp[cu,a8] at this;exact GA this
  have e:(X.drop st).take (i - st)=X.drop st:=uU (by refine aa fM ?_;exact L8 hi hle this);refine aa e ?_;simp[dn,a8]
 |cons g l ih=>
  intro i st R σ hok h hi hle hd hR;simp only[mM,bF] at hok;refine be hok λhg hl=>?_;clear hok;rw[oP,kG] at hd;have hlen:X.length - i=(a8 g.its).length+(a8 (cu l)).length:=aH fM (aa hd (aa ci rfl));have hd':X.drop (i+(a8 g.its).length)=a8 (cu l):=aH mO (aa hd (aa Ei rfl));have hseg:(X.drop i).take (a8 g.its).length=a8 g.its:=aa hd (aa yJ rfl);rw[oP,rG];cases g with
  |pl t=>
   have hrun:∃σ1,bU (b8 O 54 fZ (aU dI 4).1 (aU dI 4).2) (tok i [t]) σ=some (.nx σ1)/\fP X st .none R σ1:=to [t] i σ (by simpa [Sg2.ok] using hg) h;refine ah hrun λσ1 e1 h1=>?_;clear hrun;refine fw (ih (i+(a8 [t]).length) st R σ1 hl h1 (al (by assumption) (fI _ _)) (by have:(a8 (Sg2.pl t).its).length=(a8 [t]).length:=rfl;exact KB hle hlen this) hd' (al (by assumption) (fI _ _))) λσ' st' R' e2 h2 h3 h4 h5=>?_;refine jl σ' st' R' ((rj e1).trans e2) h2 h3 h4 ?_;refine aa h5 ?_;rw[qB,kG];have e3:(X.drop st).take (i+(a8 [t]).length - st)=(X.drop st).take (i - st)++a8 [t]:=by have:i+(a8 [t]).length - st=(i - st)+(a8 [t]).length:=NQ hi;refine aa this (aa Rw (aa mO ?_));congr 1;have e4:st+(i - st)=i:=nT (by assumption);refine aa e4 ?_;exact hseg
   refine aa e3 ?_;simp[Sg2.keep,gP]
  |qt q=>
   have hq:(q.all λt=>t.ok&&t != .ch 34)=true:=hg;have hits:(Sg2.qt q).its=[.ch 34]++(q++[.ch 34]):=by simp[Sg2.its]
   have hqlen:(a8 (Sg2.qt q).its).length=1+(a8 q).length+1:=by (refine aa hits ?_;rw[kG,kG]);simp[a8,It0.txt];exact iW _ _
   refine ah (KL (O:=O) (i:Int) h) λσ1 e1 h1=>?_;refine ah (to (O:=O) q (i+1) σ1 hq h1) λσ2 e2 h2=>?_;refine ah (KF (O:=O) (p:=i+1+(a8 q).length) h2 hi hle hX (al (by assumption) (al (by assumption) (by assumption)))) λσ3 e3 h3=>?_;have erun:bU (b8 O 54 fZ (aU dI 4).1 (aU dI 4).2) (tok i (Sg2.qt q).its) σ=some (.nx σ3):=by refine aa hits ?_;rw[rG];have f1:bU (b8 O 54 fZ (aU dI 4).1 (aU dI 4).2) (tok i [.ch 34]) σ=some (.nx σ1):=(gR e1 rfl).trans rfl;refine aa (rj f1) ?_;rw[rG];have f2:bU (b8 O 54 fZ (aU dI 4).1 (aU dI 4).2) (tok (i+(a8 [It0.ch 34]).length) q) σ1=some (.nx σ2):=e2;refine aa (rj f2) ?_;exact (gR e3 rfl).trans rfl
   have hR':(if st=i then R else R++[(X.drop st).take (i - st)]).length<=i+(a8 (Sg2.qt q).its).length:=by
    split
    ·exact al (by assumption) (fI _ _)
    ·refine aa ci ?_;simp;exact Ky hR hqlen
   refine fw (ih (i+(a8 (Sg2.qt q).its).length) (i+1+(a8 q).length+1) _ σ3 hl h3 (IM hqlen) (NN hlen hqlen) hd' hR') λσ' st' R' e4 h4 h5 h6 h7=>?_;refine jl σ' st' R' ((rj erun).trans e4) h4 h5 h6 ?_;refine aa h7 ?_;rw[qB,kG];have e5:i+(a8 (Sg2.qt q).its).length - (i+1+(a8 q).length+1)=0:=LV hqlen;refine aa e5 (aa yD ?_);rw[jw];have e6:(if st=i then R else R++[(X.drop st).take (i - st)]).flatten=R.flatten++(X.drop st).take (i - st):=by
    split
    ·rename_i z;subst z;simp
    ·simp
   refine aa e6 ?_;simp[Sg2.keep,a8]
theorem wD:∀(R:List (List Nat)),(R.map iB).sum=R.flatten.length
 |[]=>rfl
 |r::R=>aa cS (aa iI (aa nV (aa ci (aa (wD R) rfl))))
theorem Ba:∀R:List (List Nat),pr (bp R)=some (R.map S)
 |[]=>rfl
 |r::R=>by show (pr (bp R)).map (S r:: ·)=_;refine aa (Ba R) ?_;rfl
theorem AG:∀R:List (List Nat),fq [] R=R.flatten
 |[]=>rfl
 |[r]=>by simp[fq]
 |r::q::R=>by have:=AG (q::R);unfold fq at this ⊢;show (r::[]::List.intersperse [] (q::R)).flatten=r++(q::R).flatten;refine aa nV (aa nV ?_);rewrite[uX];exact aa this rfl
theorem un {sep:List Nat} {R:List (List Nat)} (h:(R.map iB).sum+R.length*sep.length<=1000000):cY (.str (S sep)) (ag "join") [.list (bp R)]=some (.str (S (fq sep R))):=by
 have hst:=Ba R;have hj:=IG sep R;have hlen:(fq sep R).length<=(R.map iB).sum+R.length*sep.length:=by
  have:=Tj (S sep) (R.map S);have h2:(rL (S sep) (R.map S)).length<=((R.map S).map (·.length)).sum+(R.map S).length*(S sep).length:=by unfold rL;refine aa this ?_;exact Tk (S sep) (R.map S)
  rw[hj,dA] at h2;simpa [RL] using h2
 unfold cY;simp only;rw[if_pos (show (ag "join" ==ag "join")=true by decide)];simp only[hst,hj];rw[if_pos];simp only[bF];constructor
 ·unfold JoinOk;rw[Tl];have e1:((R.map S).map (·.length)).sum=(R.map iB).sum:=by congr 1;simp[RL]
  refine aa e1 ?_;rw[dA,bx];unfold PZ;simp[sizeLine];exact al (by assumption) (dv _ _)
 ·rw[dA];unfold bt;exact dg (al (al (by assumption) (by assumption)) (by decide))
theorem A4 {R:List (List Nat)} (h:R.flatten.length<=1000000):cY (.str (S [])) (ag "join") [.list (bp R)]=some (.str (S R.flatten)):=by rw[<- AG];exact un (by rw[wD];simpa using h)
theorem By:∀(l:List Sg2),l.all Sg2.ok=true->34∉a8 (cu l)->dn l=cu l
 |[],_,_=>rfl
 |g::l,h,hn=>by
  simp only[mM,bF] at h;rw[oP,kG,bo,not_or] at hn;rewrite[qB,oP];refine aa (By l h.2 hn.2) ?_;cases g with
  |pl t=>rfl
  |qt q=>exact absurd (by simp[Sg2.its,a8,It0.txt]) hn.1
theorem xP:∀(l:List Sg2),l.all Sg2.ok=true->(cu l).all It0.ok=true/\(dn l).all It0.ok=true
 |[],_=>⟨rfl,rfl⟩
 |g::l,h=>by
  simp only[mM,bF] at h;refine be (xP l h.2) λh1 h2=>?_;rewrite[oP,qB];refine aa vm (aa vm (aa h1 (aa h2 ?_)));cases g with
  |pl t=>have:=h.1;simp only[Sg2.ok,bF] at this;simp[Sg2.its,Sg2.keep,this.1]
  |qt q=>
   have:=h.1;simp only[Sg2.ok,c9,bF] at this;refine⟨?_,rfl⟩;simp only[Sg2.its,sn,c9,av,bo,bz,or_false]
   rintro x ((rfl|hx)|rfl)
   ·rfl
   ·exact (this x hx).1
   ·rfl
theorem JJ {l:List Sg2} (hgen:∀x,O.gen nEsc [.str x]=some (fG 0 false (eY x))) (hok:l.all Sg2.ok=true) (hX:(a8 (cu l)).length<=100000):aJ O 60 fZ [(mV,.sh (.str (S (a8 (cu l)))))] dI=some (.rt (.str (S (a8 (dn l))))):=by
 have hesc:O.gen nEsc [.str (S (a8 (cu l)))]=some (tok 0 (cu l)):=by (rewrite[hgen,BG];exact aa (tX _ 0 (xP l hok).1) rfl)
 by_cases hq:34∈a8 (cu l)
 ·generalize hXe:a8 (cu l)=X at hq hX hesc;refine dW (bA (d:=.bool false) (h:=aB (h:=br (aB (h:=fU (by decide))) (aD (by decide) rfl) ?_)) (ht:=rfl)) a9 ?_
  ·show some (!iz (S X) (S [34]))=some false;have:iz (S X) (S [34])=true:=by obtain ⟨i,hi,e⟩:=Qg.mp hq;rw[qx];refine az i (by simp;exact Qw (by assumption)) ?_;refine aa (lz hi) ?_;simp[e]
   refine aa this ?_;rfl
  refine aT (bM (by decide) (h:=bc) (hs:=λxs z=>nomatch z)) ?_;refine aT (bM (by decide) (h:=nG) (hs:=λxs z=>nomatch z)) ?_;refine aT (tL (by decide) (xe bC rfl)) ?_;show aJ O 56 fZ [(mV,.sh (.str (S X))),(re,.sh (.int 0)),(pk,.sh .none),(lN,.own [])] (dI.drop 4)=_;have h0:fP X 0 .none [] [(mV,.sh (.str (S X))),(re,.sh (.int 0)),(pk,.sh .none),(lN,.own [])]:=⟨rfl,rfl,rfl,rfl⟩
  refine fw (Ps (O:=O) X (al (by assumption) (dv _ _)) l 0 0 [] _ hok h0 (bf _) (iE _) (by refine aa uT ?_;exact hXe.symm) (iE _)) λσ' st' R' e1 h1 h2 h3 h4=>?_;simp only[RM,uX,D6,yD] at h4;have h62:(2:Int)^62=4611686018427387904:=by decide
  refine aT (B2 (σ':=σ') (xs:=tok 0 (cu l)) rfl ?_ e1 a9) ?_
  ·exact wn (by decide) (aC (by decide) rfl) hesc
  have hfin:∀{σ2:Sg} {R2:List (List Nat)},σ2.lookup lN=some (.own (bp R2))->R2.flatten=a8 (dn l)->R2.flatten.length<=1000000->aJ O 54 fZ σ2 (dI.drop 6)=some (.rt (.str (S (a8 (dn l))))):=λ{σ2 R2} k1 k2 k3=>by
   refine iw (oG (h0:=rfl) (hp:=rfl) (hl:=rfl) (h1:=fU (by decide)) (h2:=aN (aD (by decide) (qG k1)) bC) (h:=?_));have:=A4 k3;refine aH k2 ?_;have e:cY (.str (ag "")) (ag "join") [.list (bp R2)]=some (.str (S R2.flatten)):=this;refine aa e ?_;unfold dZ
   split<;>rfl
  have hfl:R'.flatten.length<=100000/\(X.drop st').length<=X.length:=by
   have:=congrArg iB h4;rw[ci,fM] at this;have hk:(a8 (dn l)).length<=X.length:=by
    have key:∀l:List Sg2,(a8 (dn l)).length<=(a8 (cu l)).length:=by
     intro l
     induction l with
     |nil=>exact bf _
     |cons g l ih=>
      rewrite[qB,oP,kG,kG];refine aa ci (aa ci ?_);cases g with
      |pl t=>exact fh ih _
      |qt q=>have:(a8 (Sg2.qt q).keep).length=0:=rfl;exact Oo ih this
    refine aH hXe ?_;exact key l
   refine aa fM ?_;exact Mi hX this hk
  by_cases hlt:st'<X.length
  ·refine ig (σ':=put σ' lN (.own (bp R'++[.str (S (X.drop st'))]))) (bA (d:=.bool true) (h:=aB (h:=br (aD (by decide) (aF h1.s)) (aB (h:=kM (a:=.str (S X)) (by decide) (aD (by decide) (aF h1.a)) (show dr O (ag "len") [.str (S X)]=some (.int (X.length:Nat)) by rw[<- dA];rfl) rfl)) ?_)) (ht:=rfl)) ?_ ?_
   ·show some (decide ((st':Int)<(X.length:Int)))=some true;rw[decide_eq_true (oh.mpr (by assumption))]
   ·refine aT (qJ (by decide) rfl (oU h1.r) (jF (aC (by decide) h1.a) (gY (aC (by decide) h1.s) (by lia)) ny ny (Fy h2)) ?_) a9;unfold bt;exact dg (by simp[bp];exact al (al (by assumption) (by assumption)) (by decide))
   ·refine hfin (R2:=R'++[X.drop st']) (by refine aM.trans ?_;simp[bp]) (by refine aa RN ?_;simpa using h4) ?_;refine aa RN (aa ci ?_);have q1:=hfl.1;have q2:=hfl.2;simp only[nV,RM,jw];exact Gd hX hfl
  ·refine dW (bA (d:=.bool false) (h:=aB (h:=br (aD (by decide) (aF h1.s)) (aB (h:=kM (a:=.str (S X)) (by decide) (aD (by decide) (aF h1.a)) (show dr O (ag "len") [.str (S X)]=some (.int (X.length:Nat)) by rw[<- dA];rfl) rfl)) ?_)) (ht:=rfl)) a9 ?_
   ·show some (decide ((st':Int)<(X.length:Int)))=some false;rw[decide_eq_false (Mu h2 hlt)]
   ·have:X.drop st'=[]:=RO (rK (by assumption));rw[this,jw] at h4;exact hfin h1.r h4 (by have:=hfl.1;exact al (by assumption) (dv _ _))
 ·refine lQ (bA (d:=.bool true) (h:=aB (h:=br (aB (h:=fU (by decide))) (aD (by decide) rfl) ?_)) (ht:=rfl)) ?_
  ·show some (!iz (S (a8 (cu l))) (S [34]))=some true;have:iz (S (a8 (cu l))) (S [34])=false:=by
    cases e:iz (S (a8 (cu l))) (S [34]) with
    |false=>rfl
    |true=>
     refine ah ((qx _ _).mp e) λi h1 h2=>?_;simp only[pZ,vj] at h1 h2;have h3:(a8 (cu l))[i]?=some 34:=by have:=congrArg (λl:List Nat=>l[0]?) h2;simpa [RI,yI] using this
     exact absurd (lG h3) hq
   refine aa this ?_;rfl
  ·refine aa (By l hok hq) ?_;exact iw (aC (by decide) rfl)
theorem Nv {l:List Sg2} (hok:l.all Sg2.ok=true) (hX:(a8 (cu l)).length<=100000):bQ pw O1 gC [.str (S (a8 (cu l)))]=some (.str (S (a8 (dn l)))):=by refine lX (d:=bD gC) rfl rfl ?_;have:=JJ (O:=O1) (l:=l) (λx=>rfl) hok hX;exact this
noncomputable def jk (l:List It0):Bool:=match dx 0 l with|some k=>k==0|none=>false
theorem CU {l:List Sg2} (hok:l.all Sg2.ok=true) (hX:(a8 (cu l)).length<=100000):bQ pw (O2 pw) eA [.str (S (a8 (cu l)))]=some (.bool (jk (dn l))):=by
 have hrun:aJ (O2 pw) 60 pj [(mV,.sh (.str (S (a8 (cu l)))))] kJ=some (.rt (.bool (jk (dn l)))):=by
  have hst:(O2 pw).fn gC [.str (S (a8 (cu l)))]=some (.str (S (a8 (dn l)))):=by show (if (gC==gC)=true then bQ pw O1 gC [.str (S (a8 (cu l)))] else O1.fn gC [.str (S (a8 (cu l)))])=_;rw[if_pos (by decide)];exact Nv hok hX
  have hesc:(O2 pw).gen nEsc [.str (S (a8 (dn l)))]=some (tok 0 (dn l)):=Iq (xP l hok).2;revert hst;refine aX (a8 (cu l)) λX=>?_;intro hst;revert hst;revert hesc;refine cn (a8 (dn l)) λY hY=>?_;intro hesc hst;refine aT (bM (d:=.str (S Y)) (by decide) (h:=kM (a:=.str (S X)) (by decide) (aD (by decide) rfl) (show dr (O2 pw) gC [.str (S X)]=_ from hst) rfl) (hs:=λxs z=>nomatch z)) ?_;refine aT (bM (by decide) (h:=bc) (hs:=λxs z=>nomatch z)) ?_;show aJ (O2 pw) 58 pj [(mV,.sh (.str (S Y))),(lV,.sh (.int 0))] (kJ.drop 2)=_;refine ah (LG (O:=O2 pw) (dn l) 0 0 [(mV,.sh (.str (S Y))),(lV,.sh (.int 0))] rfl) λσ' e1 e2=>?_;unfold jk;cases hk:dx 0 (dn l) with
  |none=>replace e1:=hk▸e1;exact nM (La rfl (wn (by decide) (aC (by decide) rfl) hesc) e1) (λζ z=>nomatch z)
  |some k=>replace e1:=hk▸e1;refine aT (B2 (σ':=σ') rfl (wn (by decide) (aC (by decide) rfl) hesc) e1 a9) ?_;exact iw (br (aD (by decide) (aF (e2 k hk))) (aB (h:=bc)) rfl)
 refine lX (d:=bD eA) rfl rfl ?_;exact hrun
end
noncomputable def mw (i:Nat):Str:=Dh "0x" 16 ((2^i:Nat):Int)
noncomputable def cJ (i:Nat):Str:=(il.lookup ((2^i:Nat):Int)).getD (mw i)
theorem Aa:∀i,i<32->bt (mw i).length=true:=by decide
theorem Ab:∀i,i<32->(cJ i).length<=20:=by decide
noncomputable def jm:Scope:=(bD im).scope
noncomputable def mj:List aL:=(bD im).body
noncomputable abbrev eV:Str:=ag "flags"
noncomputable abbrev je:Str:=ag "names"
noncomputable abbrev nI:Str:=ag "i"
noncomputable abbrev j7:Str:=ag "flag"
theorem Ah (m j:Nat):m &&& 2^j=if m.testBit j=true then 2^j else 0:=by
 apply DZ;intro k;rewrite[Rp];refine aa yL ?_
 by_cases e:j=k
 ·subst e;cases h:m.testBit j
  ·simp
  ·simp[yL]
 ·cases h:m.testBit j
  ·simp[e]
  ·simp[yL,e]
theorem Bq (a b:Nat):uC (a:Int) (b:Int)=((a &&& b:Nat):Int):=by unfold uC;simp
theorem Lm {m j:Nat} (h:m.testBit j=true):rI (m:Int) ((2^j:Nat):Int)=((m - 2^j:Nat):Int):=by have hle:2^j<=m:=RP h;rewrite[Rq,Bq,Ah];refine aa (if_pos h) ?_;omega
section
variable {O:Orc} {σ σ':Sg} {n:Nat}
structure zp (m:Nat) (N:List PV) (σ:Sg):Prop where
 f:σ.lookup eV=some (.sh (.int m))
 n:σ.lookup je=some (.own N)
theorem Jv {x:Int}:eO (.int x)=some (x != 0):=rfl
theorem FK {m j:Nat} (h:m.testBit j=true) (hl:m%2^j=0):(m - 2^j)%2^(j+1)=0/\∀k,(m - 2^j).testBit k=(m.testBit k&&decide (k≠j)):=by
 have hm:m=2^j*(m/2^j):=by have:=Db m (2^j);exact FW hl this
 revert hm;refine aX (m/2^j) λb=>?_;intro hm;subst hm;replace h:=Em▸h;simp at h;have hb:b=2*(b/2)+1:=LI h;revert hb;refine aX (b/2) λa=>?_;intro hb;subst hb;have e:2^j*(2*a+1) - 2^j=2^(j+1)*a:=by rw[RQ,En,RS,Nat.pow_succ,D7]
 refine aa e ?_;refine⟨Nat.mul_mod_right _ _,λk=>?_⟩;refine aa Em (aa Em ?_)
 by_cases h1:k<j
 ·have h2:¬ j<=k:=Nat.not_le.mpr (by assumption);have h3:¬ j+1<=k:=Ht h1;simp[h2,h3]
 ·by_cases h4:k=j
  ·subst h4;have h7:¬ k+1<=k:=JW;simp[h7]
  ·have h5:j<=k:=rK (by assumption);have h6:j+1<=k:=Po h1 h4;have e2:k - j=(k - (j+1))+1:=MM h1 h4;refine aa e2 ?_;rw[Nat.testBit_succ];have e3:(2*a+1)/2=a:=Jx h;refine aa e3 ?_;simp[h5,h6,h4]
theorem GV {m j:Nat} (h:m.testBit j=false) (hl:m%2^j=0):m%2^(j+1)=0:=by
 apply DZ;intro k;rw[RT,yM]
 by_cases e:k<j
 ·have h2:(m%2^j).testBit k=false:=by (refine aa hl ?_;rw[yM])
  rw[RT] at h2;simp[e] at h2;simp[h2]
 ·by_cases e2:k=j
  ·subst e2;simp[h]
  ·have:¬ k<j+1:=Ir e e2;simp[this]
theorem II (hd:O.dget=sU):∀(k j m:Nat) (N:List PV) (σ:Sg),j+k=32->0<m->m<2^32->m%2^j=0->zp m N σ->N.length<=j->∃σ',bU (b8 O 57 jm (aU mj 1).1 (aU mj 1).2) ((fm j k).map λi=>.int ((i:Nat):Int)) σ=some (.bk σ')/\σ'.lookup je=some (.own (N++((fm j k).filter λi=>m.testBit i).map λi=>.str (cJ i))):=by
 intro k
 induction k with
 |zero=>intro j m N σ hj h0 hm hl _ _;have:j=32:=J1 hj;subst this;replace hl:=(D1 hm)▸hl;exact (Ok h0 hl).elim
 |succ k ih=>
  intro j m N σ hj h0 hm hl h hN;have hj32:j<32:=Px hj;refine aa Eo (aa cS ?_);have a1:(put (put σ nI (.sh (.int j))) j7 (.sh (.int ((2^j:Nat):Int)))).lookup j7=some (.sh (.int ((2^j:Nat):Int))):=aM;have a2:zp m N (put (put σ nI (.sh (.int j))) j7 (.sh (.int ((2^j:Nat):Int)))):=⟨by refine au (by decide) ?_;refine au (by decide) ?_;exact h.f,by refine au (by decide) ?_;refine au (by decide) ?_;exact h.n⟩
  have hstep:∀{o:Option Out},aJ O 56 jm (put (put σ nI (.sh (.int j))) j7 (.sh (.int ((2^j:Nat):Int)))) ((aU mj 1).2.drop 1)=o->b8 O 57 jm (aU mj 1).1 (aU mj 1).2 σ (.int ((j:Nat):Int))=o:=λ{o} ho=>by show aJ O 57 jm (put σ nI (.sh (.int j))) (aU mj 1).2=o;refine aT (bM (d:=.int ((2^j:Nat):Int)) (by decide) (h:=aR bc (aC (by decide) (aM)) ?_) (hs:=λxs z=>nomatch z)) ho;have:=zl (x:=1) (s:=j) (by have:bX ((1:Nat):Int)<=1:=hF (by decide);exact FE hj this);rw[og] at this;exact this
  have hbin:∀q1 q2 q3,pT O 54 jm (put (put σ nI (.sh (.int j))) j7 (.sh (.int ((2^j:Nat):Int)))) (.BinOp (.Name eV q1) .BitAnd (.Name j7 q2) q3)=some (m.testBit j):=λq1 q2 q3=>by
   refine bA (d:=.int ((m &&& 2^j:Nat):Int)) (h:=aB (h:=aR (aC (by decide) a2.f) (aC (by decide) a1) ?_)) (ht:=?_)
   ·rw[<- Bq];rfl
   ·refine aa Jv ?_;rw[Ah];cases m.testBit j
    ·simp
    ·simp only[if_true];have:(2:Nat)^j≠0:=by have:=u9 j;exact kA (by assumption)
     congr 1;have h9:((2^j:Nat):Int)≠0:=by exact_mod_cast this
     simp only[bne_iff_ne,ne_eq];exact h9
  revert a1;revert a2;revert hstep;revert hbin;refine aX (put (put σ nI (.sh (.int j))) j7 (.sh (.int ((2^j:Nat):Int)))) λσ1=>?_;intro hbin hstep a2 a1;cases hb:m.testBit j with
  |false=>refine ah (ih (j+1) m N σ1 (y7 hj) h0 hm (GV hb hl) a2 (uZ (by assumption))) λσ' e1 e2=>?_;refine az σ' ((gR (hstep (dW (by (rewrite[hbin];exact aa hb rfl)) a9 a9)) rfl).trans e1) ?_;refine aa e2 (aa pH ?_);rw[if_neg (by simp[hb])]
  |true=>
   refine be (FK hb hl) λc1 c2=>?_;have hle:2^j<=m:=RP hb;have b1:(put (put σ1 je (.own (N++[.str (cJ j)]))) eV (.sh (.int ((m - 2^j:Nat):Int)))).lookup eV=some (.sh (.int ((m - 2^j:Nat):Int))):=aM;have b2:(put (put σ1 je (.own (N++[.str (cJ j)]))) eV (.sh (.int ((m - 2^j:Nat):Int)))).lookup je=some (.own (N++[.str (cJ j)])):=by refine au (by decide) ?_;exact aM
   have hblk:∀{o:Option Out} {r:List aL} {p1 p2 p3 p4 p5 p6 p7 p8 p9 p10 p11 p12 p13 p14:Pos},(p2.endLine==p10.line)=true->(p4.endLine==p9.line)=true->aJ O 52 jm (put (put σ1 je (.own (N++[.str (cJ j)]))) eV (.sh (.int ((m - 2^j:Nat):Int)))) r=o->
     aJ O 54 jm σ1 (.Expr (.Call (.Attribute (.Name je p1) (ag "append") p2) [.Call (.Attribute (.Name qi p3) (ag "get") p4) [.Name j7 p5,.Call (.Name (ag "hex") p6) [.Name j7 p7] [] p8] [] p9] [] p10) p11::
      .AugAssign (.Name eV p12) .BitXor (.Name j7 p13) p14::r)=o:=λ{o r p1 p2 p3 p4 p5 p6 p7 p8 p9 p10 p11 p12 p13 p14} hp1 hp2 ho=>by
    refine aT (qJ (d:=.str (cJ j)) (by decide) hp1 (oU a2.n) ?_ ?_) ?_
    ·refine FL (ds:=[.int ((2^j:Nat):Int),.str (mw j)]) (by decide) (by decide) hp2 rfl ?_ (by refine aa hd ?_;rfl) rfl;refine aN (aD (by decide) (aF a1)) (aN (aB (h:=?_)) bC);refine kM (a:=.int ((2^j:Nat):Int)) (by decide) (aD (by decide) (aF a1)) ?_ rfl;have hh:dr O (ag "hex") [.int ((2^j:Nat):Int)]=if bt (mw j).length=true then some (.str (mw j)) else none:=rfl
     exact aa hh (aa (if_pos (Aa j hj32)) rfl)
    ·unfold bt;exact dg (KI hj hN)
    ·refine aT (oK (d:=.int ((m - 2^j:Nat):Int)) (by decide) (by decide) (nD (by refine au (by decide) ?_;exact a2.f)) (aC (by decide) (by refine au (by decide) ?_;exact a1)) ?_) ho;refine aH (Lm hb) ?_;rfl
   have hnot:∀q1 q2,pT O 50 jm (put (put σ1 je (.own (N++[.str (cJ j)]))) eV (.sh (.int ((m - 2^j:Nat):Int)))) (.UnaryOp .Not (.Name eV q1) q2)=some (decide (m - 2^j=0)):=λq1 q2=>by
    have:=GP (p:=q2) (show pT O 49 jm (put (put σ1 je (.own (N++[.str (cJ j)]))) eV (.sh (.int ((m - 2^j:Nat):Int)))) (.Name eV q1)=some (((m - 2^j:Nat):Int) != 0) by rw[jP (by decide) b1];rfl);refine aa this ?_;congr 1
    by_cases z:m - 2^j=0
    ·refine aa z ?_;rfl
    ·simp[z]
   by_cases hz:m - 2^j=0
   ·refine az _ (xB (q:=.bk _) (hstep (nM (?_:px O 55 jm σ1 _=some (.bk (put (put σ1 je (.own (N++[.str (cJ j)]))) eV (.sh (.int ((m - 2^j:Nat):Int)))))) (λζ z=>nomatch z))) (λζ z=>nomatch z)) ?_
    ·rw[mo (by (rewrite[hbin];exact aa hb rfl)),if_pos rfl];refine hblk rfl rfl (nM ?_ (λζ z=>nomatch z));rw[mo (by (rewrite[hnot];exact aa (decide_eq_true hz) rfl)),if_pos rfl];exact Gw
    ·refine aa b2 (aa pH ?_);rw[if_pos (by simp[hb])];have:(fm (j+1) k).filter (λi=>m.testBit i)=[]:=by rw[RU];intro i hi;have hi:=(mT.mp hi).1;have:=c2 i;rw[hz,yM] at this;have hne:i≠j:=CO hj hi;simp[hne] at this;simp[this]
     refine aa this ?_;rfl
   ·refine ah (ih (j+1) (m - 2^j) (N++[.str (cJ j)]) _ (y7 hj) (Dp (by assumption)) (Nat.sub_lt_of_lt (by assumption)) c1 ⟨b1,b2⟩ (by refine aa ci ?_;simp;assumption)) λσ' e1 e2=>?_;refine az σ' ((gR (hstep (aT ?_ a9)) rfl).trans e1) ?_
    ·rw[mo (by (rewrite[hbin];exact aa hb rfl)),if_pos rfl];refine hblk rfl rfl (aT ?_ a9);rw[mo (by (rewrite[hnot];exact aa (decide_eq_false hz) rfl)),if_neg (by decide)];exact a9
    ·refine aa e2 (aa pH ?_);rw[if_pos (by simp[hb]),gP];congr 3;show [PV.str (cJ j)]++_=PV.str (cJ j)::_;refine aa RV ?_;congr 2;apply List.filter_congr;intro i hi;have hi:=(mT.mp hi).1;refine aa (c2 i) ?_;have hne:i≠j:=CO hj hi;simp[hne]
noncomputable def lK:List Nat:=[44,32]
noncomputable def jh (m:Nat):List Nat:=(fm 0 32).filter λi=>m.testBit i
theorem Pr {m:Nat} (h0:0<m) (hm:m<2^32):bQ pw O0 im [.int m]=some (.str (S (fq lK ((jh m).map λi=>Lx (cJ i))))):=by
 have hrun:aJ O0 60 jm [(eV,.sh (.int m))] mj=some (.rt (.str (S (fq lK ((jh m).map λi=>Lx (cJ i)))))):=by
  refine aT (tL (by decide) (xe bC rfl)) ?_;show aJ O0 59 jm [(eV,.sh (.int m)),(je,.own [])] (mj.drop 1)=_;refine ah (II (O:=O0) rfl 32 0 m [] [(eV,.sh (.int m)),(je,.own [])] rfl h0 hm (Nat.mod_one m) ⟨rfl,rfl⟩ (iE _)) λσ' e1 e2=>?_;refine aT (FA (σ':=σ') (xs:=(fm 0 32).map λi=>.int ((i:Nat):Int)) rfl e1) ?_;rw[uX] at e2;have e3:((fm 0 32).filter λi=>m.testBit i).map (λi=>PV.str (cJ i))=bp ((jh m).map λi=>Lx (cJ i)):=by unfold bp jh;refine aa fj ?_;apply so;intro i _;show PV.str (cJ i)=PV.str (S (Lx (cJ i)));rw[wF]
  replace e2:=e3▸e2;have hb:∀i∈jh m,i<32:=λi hi=>by have:=(lp.mp hi).1;have:=mT.mp this;exact MR this
  have hlen:(jh m).length<=32:=al (vo _ _) (by simp);have hsum:(((jh m).map λi=>Lx (cJ i)).map iB).sum<=20*(jh m).length:=by
   have key:∀l:List Nat,(∀i∈l,i<32)->((l.map λi=>Lx (cJ i)).map iB).sum<=20*l.length:=by
    intro l
    induction l with
    |nil=>intro _;simp
    |cons a r ih=>intro h;have h1:=Ab a (h a (.head _));have h2:=ih λi hi=>h i (.tail _ hi);rw[Cf] at h1;simp only[cS,iI,pZ] at h2 ⊢;exact Ih h1 h2
   exact key _ hb
  refine iw (oG (h0:=rfl) (hp:=rfl) (hl:=rfl) (h1:=fU (by decide)) (h2:=aN (aD (by decide) (qG e2)) bC) (h:=?_));have hj:=un (sep:=lK) (R:=(jh m).map λi=>Lx (cJ i)) (by (rewrite[bx];refine aa (show lK.length=2 from rfl) ?_);exact JR hlen hsum);have e:cY (.str (ag ", ")) (ag "join") [.list (bp ((jh m).map λi=>Lx (cJ i)))]=_:=hj;refine aa e ?_;unfold dZ
  split<;>rfl
 refine lX (d:=bD im) rfl rfl ?_;exact hrun
end
open PySem.StrLaws
section
variable {a0:Nat} {s0:List Nat}
noncomputable def jg (a0:Nat) (s0:List Nat):List (List Nat)->List Nat
 |[]=>[]
 |[w]=>w
 |w::ws=>w++(a0::s0)++jg a0 s0 ws
theorem Sw {a b}:jg a b []=[]:=rfl
theorem Ss {a b w}:jg a b [w]=w:=rfl
theorem Su {a b w v ws}:jg a b (w::v::ws)=w++(a::b)++jg a b (v::ws):=rfl
end
section
variable {O:Orc} {n:Nat} {sc sc':Scope} {σ σ':Sg} {α:Type}
theorem gp {elt:ab} {g:c8} {gs:List c8} {p:Pos} {xs ys:List PV} (hs:kh sc sc'=true) (hi:cr O n sc σ (dM g.target) g.iter=some xs) (hg:bT O n sc' (cj sc' σ) elt g gs xs=some ys) (hl:bt ys.length=true):pe O (n+1) sc σ (.ListComp elt (g::gs) sc' p)=some (.list ys):=by refine aa uz (aa (if_pos hs) (aa hi ?_));show kR (bT O n sc' (cj sc' σ) elt g gs xs) PV.list=_;refine aa hg ?_;show (if bt ys.length=true then some (PV.list ys) else none)=_;exact aa (if_pos hl) rfl
set_option tactic.hygienic true in
theorem xC:∀(names:List (Str×fK)) (x:Str),gg names=true->(names.filterMap λy=>match y.2 with|.free=>(match σ.lookup y.1 with|some (.sh d)=>some (y.1,Ent.sh d)|_=>none)|_=>none).lookup x=(if names.lookup x=some .free then (match σ.lookup x with|some (.sh d)=>some (.sh d)|_=>none) else none)
 |[],x,_=>rfl
 |(y,k)::r,x,h=>by
  rw[B3] at h;simp only[bF,kz,DK,beq_iff_eq] at h;have ih:=xC r x h.2
  by_cases hxy:x=y
  ·subst hxy;have hr:r.lookup x=none:=by
    cases e:r.lookup x with
    |none=>rfl
    |some k'=>exact absurd rfl (h.1 (x,k') (cm e))
   replace ih:=hr▸ih;simp only[reduceCtorEq,if_false] at ih;refine aa cM ?_;simp only[beq_self_eq_true];refine aa kv ?_;cases k with
   |free=>
    simp only[if_true];cases e:σ.lookup x with
    |none=>exact ih
    |some d=>
     induction d using Ent.casesOn with
     |sh d=>simp[d9]
     |own xs=>exact ih
   |_=>simp only[QX,reduceCtorEq,if_false];exact ih
  ·have hb:(x==y)=false:=beq_eq_false_iff_ne.mpr hxy;refine aa cM (aa hb ?_);simp only;refine aH ih (aa kv ?_)
   split
   ·rfl
   ·rename_i p hp;have:p.1=y:=by
     cases k<;>simp only[reduceCtorEq] at hp
     split at hp
     ·have h_:=aj hp;clear hp;subst h_;rfl
     ·exact ac hp
    obtain ⟨p1,p2⟩:=p;simp only at this;subst this;exact aa cM (aa hb rfl)
theorem eT {x:Str} {d:PV} (hn:gg sc'.names=true) (hx:sc'.names.lookup x=some .free) (h:σ.lookup x=some (.sh d)):(cj sc' σ).lookup x=some (.sh d):=by have:=xC (σ:=σ) sc'.names x hn;rw[if_pos hx,h] at this;exact this
theorem eE {x:Str} (hn:gg sc'.names=true) (hx:sc'.names.lookup x≠some .free):(cj sc' σ).lookup x=none:=by have:=xC (σ:=σ) sc'.names x hn;replace this:=(if_neg hx)▸this;exact this
theorem gJ {n:Nat} {x:Str} {q:Pos} {d:PV} (hx:bb sc x=true) (h:σ.lookup x=none):bu true sc (n+1) σ (.Name x q) d=some (put σ x (.sh d)):=Cd hx (congrArg Option.isNone h)
theorem sR {x y:Str} {q r s:Pos} {k:Nat} {d e:PV} (hx:bb sc x=true) (hy:bb sc y=true) (hxy:y≠x) (h:σ.lookup x=none) (h2:σ.lookup y=none):bu true sc 4 σ (.Tuple [.Name x q,.Name y r] k s) (.tup [d,e])=some (put (put σ x (.sh d)) y (.sh e)):=
 jC (gJ hx h) (jC (gJ hy (by (rewrite[dp];refine aa (if_neg hxy) ?_);exact h2)) rfl)
theorem CF {asg:Sg->PV->Option Sg} {tst:Sg->Option Bool} {body:Sg->Option (List PV)} {F:α->PV} {c:α->Bool} {G:α->List PV}:∀{xs:List α},(∀x∈xs,∃σ1,asg σ (F x)=some σ1/\tst σ1=some (c x)/\(c x=true->body σ1=some (G x)))->ie asg tst body (xs.map F) σ=some ((xs.filter c).flatMap G)
 |[],_=>rfl
 |x::xs,h=>by
  refine bB (h x (.head _)) λσ1 h1 h2 h3=>?_;have ih:=CF (xs:=xs) λy hy=>h y (.tail _ hy);refine aa cS ?_;refine aa CZ ?_;simp only[h1,h2];refine aa pH ?_;cases hc:c x with
  |true=>simp only[h3 hc,ih,if_true,RW]
  |false=>simp only[ih,ey,if_false]
theorem CD (G:α->PV):∀l:List α,l.flatMap (λx=>[G x])=l.map G
 |[]=>rfl
 |a::r=>by refine aa RW (aa cS (aa (CD G r) ?_));rfl
theorem vy {elt t it:ab} {ifs:List ab} {xs:List α} {F G:α->PV} {c:α->Bool} (h:∀x∈xs,∃σ1,bu true sc' 4 σ' t (F x)=some σ1/\j9 (pT O n sc' σ1) ifs=some (c x)/\(c x=true->pe O n sc' σ1 elt=some (G x))):bT O (n+1) sc' σ' elt {target:=t,iter:=it,ifs:=ifs,is_async:=0} [] (xs.map F)=some ((xs.filter c).map G):=by
 refine (?_:ie (λσ d=>bu true sc' 4 σ t d) (λσ=>j9 (pT O n sc' σ) ifs) (λσ=>match pe O n sc' σ elt with|some d=>some [d]|none=>none) (xs.map F) σ'=_)
 have:=CF (σ:=σ') (asg:=λσ d=>bu true sc' 4 σ t d) (tst:=λσ=>j9 (pT O n sc' σ) ifs) (body:=λσ=>match pe O n sc' σ elt with|some d=>some [d]|none=>none) (F:=F) (c:=c) (G:=λx=>[G x]) (xs:=xs) (λx hx=>by
  refine bB (h x hx) λσ1 h1 h2 h3=>?_
  exact io σ1 h1 h2 (λhc=>aa (h3 hc) rfl))
 rw[CD] at this;exact this
theorem ik {elt t it:ab} {xs:List α} {F G:α->PV} (h:∀x∈xs,∃σ1,bu true sc' 4 σ' t (F x)=some σ1/\pe O n sc' σ1 elt=some (G x)):bT O (n+1) sc' σ' elt {target:=t,iter:=it,ifs:=[],is_async:=0} [] (xs.map F)=some (xs.map G):=
 (vy (c:=λζ=>true) λx hx=>ah (h x hx) λσ1 h1 h2=>io σ1 h1 rfl λζ=>h2).trans (congrArg (λl=>some (Ee G l)) (List.filter_eq_self.mpr λζ ζ=>rfl))
noncomputable def vG (xs:List PV) (b:Int×Int×Int):List PV:=(mF b.1 b.2.1 b.2.2).filterMap (xs[·]?)
theorem GX {xs:List PV} {lo hi st:Option Int} (h:(st==some 0)=false):eG (.list xs) lo hi st=some (.list (vG xs (hJ lo hi st xs.length))):=by unfold eG;refine aa h ?_;rfl
theorem md {fp p:Pos} {e:ab} {b:Int} {tt:Bool} (hg:bS sc (ag "range")=true) (h:pe O n sc σ e=some (.int b)) (hb: -1000000<=b/\b<=1000000):cr O (n+1) sc σ tt (.Call (.Name (ag "range") fp) [e] [] p)=some (dU 0 b):=by refine aa mY (aa (if_pos hg) ?_);rw[aN h bC];dsimp only;rw[if_pos (show (ag "range" ==ag "range")=true by decide),if_pos (by simp[hb.1,hb.2])]
theorem xg {fp p:Pos} {e:ab} {xs:List PV} (hg:bS sc (ag "enumerate")=true) (h:pe O n sc σ e=some (.list xs)):cr O (n+1) sc σ true (.Call (.Name (ag "enumerate") fp) [e] [] p)=some (du 0 xs):=by refine aa mY (aa (if_pos hg) ?_);rw[aN h bC];dsimp only;rw[if_pos (show (ag "enumerate" ==ag "enumerate" &&true)=true by decide)]
theorem B1 {fp p:Pos} {e1 e2:ab} {xs ys:List PV} (hg:bS sc (ag "zip")=true) (h1:pe O n sc σ e1=some (.list xs)) (h2:pe O n sc σ e2=some (.list ys)):cr O (n+1) sc σ true (.Call (.Name (ag "zip") fp) [e1,e2] [] p)=some (fT xs ys):=by refine aa mY (aa (if_pos hg) ?_);rw[aN h1 (aN h2 bC)];dsimp only;rw[if_pos (show (ag "zip" ==ag "zip" &&true)=true by decide)]
noncomputable def Ib:ab->Bool
 |.Call .. =>false
 |.Set .. =>false
 |_=>true
theorem g8 {e:ab} {d:PV} {xs:List PV} {tt:Bool} (hn:Ib e=true) (h:pe O n sc σ e=some d) (hx:oO d=some xs):cr O (n+1) sc σ tt e=some xs:=by rw[ql (by induction e using bE<;>first|rfl|exact aZ hn|exact dz hn),h];exact hx
end
noncomputable def stp (c:List (List Nat)) (l p:Nat):Nat:=(c.getD l []).getD p 0
noncomputable def led (c:List (List Nat)):List Nat->Nat->Nat
 |[],p=>p
 |l::u,p=>led c u (stp c l p)
noncomputable def kn (k:Nat) (c:List (List Nat)) (l:Nat):Prop:=∀p,p<k->p<=stp c l p/\stp c l p<k/\∀q,p<=q->q<k->stp c l p<=stp c l q
section
variable {k:Nat} {c:List (List Nat)}
theorem oJ:∀{u:List Nat} {p:Nat},(∀l∈u,kn k c l)->p<k->p<=led c u p/\led c u p<k
 |[],p,_,hp=>⟨bf p,hp⟩
 |l::u,p,h,hp=>aI (h l (.head _) p hp) λh1 h2 ζ=>be (oJ (λl hl=>h l (.tail _ hl)) h2) λh3 h4=>⟨al h1 h3,h4⟩
theorem zC:∀{u:List Nat} {p q:Nat},(∀l∈u,kn k c l)->p<=q->q<k->led c u p<=led c u q
 |[],p,q,_,hp,_=>hp
 |l::u,p,q,h,hp,hq=>aI (h l (.head _) p (eN hp hq)) λh1 h2 h3=>zC (u:=u) (λl hl=>h l (.tail _ hl)) (h3 q hp hq) (h l (.head _) q hq).2.1
theorem BU {w u:List Nat} (hs:w.Sublist u):∀{p:Nat},(∀l∈u,kn k c l)->p<k->led c w p<=led c u p:=by
 induction hs with
 |slnil=>exact λ_ _=>bf _
 |cons a hs ih=>exact λh hp=>al (ih (λl hl=>h l (.tail _ hl)) hp) (aI (h a (.head _) _ hp) λh1 h2 ζ=>zC (λl hl=>h l (.tail _ hl)) h1 h2)
 |cons_cons a hs ih=>exact λh hp=>ih (λl hl=>h l (.tail _ hl)) (h a (.head _) _ hp).2.1
theorem sQ:∀{u:List Nat} {p:Nat},(∀l∈u,kn k c l)->p<k->∃w,w.Sublist u/\p+w.length<=led c u p/\led c w p=led c u p
 |[],p,_,hp=>io [] .slnil (bf p) rfl
 |l::u,p,h,hp=>by
  refine aI (h l (.head _) p hp) λh1 h2 ζ=>?_
  by_cases e:stp c l p=p
  ·refine bB (sQ (u:=u) (λl hl=>h l (.tail _ hl)) hp) λw a b d=>?_;refine (?_:∃w:List Nat,w.Sublist (l::u)/\p+w.length<=led c u (stp c l p)/\led c w p=led c u (stp c l p));refine aa e ?_;exact io w (.cons _ a) b d
  ·refine bB (sQ (u:=u) (λl hl=>h l (.tail _ hl)) h2) λw a b d=>?_;refine io (l::w) (.cons_cons _ a) (al ?_ b) d;exact (C8 p w.length)▸d7 (Nat.lt_of_le_of_ne h1 λq=>e q.symm) _
theorem CS {u v:List Nat} {p:Nat} (hu:∀l∈u,kn k c l) (hv:∀l∈v,kn k c l) (hp:p<k) (h:∀w:List Nat,w.Sublist u->w≠[]->w.length<k->w.Sublist v):led c u p<=led c v p:=by
 refine bB (sQ hu hp) λw a b d=>?_;refine aH d ?_
 by_cases e:w=[]
 ·subst e;exact (oJ hv hp).1
 ·exact BU (h w a e (eN (al (dv _ p) b) (oJ hu hp).2)) hv hp
end
noncomputable def gI (n k:Nat) (w:List Nat):List (List Nat):=(cL n).map λl=>(cL k).map λp=>p+if w[p]?=some l then 1 else 0
theorem OJ {n k l p:Nat} {w:List Nat} (hl:l<n) (hp:p<k):stp (gI n k w) l p=p+if w[p]?=some l then 1 else 0:=by unfold stp gI;simp[uJ,hl,hp]
theorem py {n k:Nat} {w:List Nat} (hw:w.length<k):∀{u:List Nat} {p:Nat},(∀l∈u,l<n)->p<=w.length->(led (gI n k w) u p=w.length↔(w.drop p).Sublist u)
 |[],p,_,hp=>by rw[List.sublist_nil,Rg];exact⟨λh=>iA h.symm,λh=>lH hp h⟩
 |l::u,p,h,hp=>by
  refine (?_:led (gI n k w) u (stp (gI n k w) l p)=_↔_);have hu:∀l∈u,l<n:=λl hl=>h l (.tail _ hl);refine aa (OJ (h l (.head _)) (eN hp hw)) ?_;rcases Ep p w.length with q|q
  ·have e:w[p]?=some w[p]:=el q;rw[lz q]
   by_cases a:w[p]=l
   ·rw[if_pos (by rw[e,a])];refine (py hw hu q).trans ?_;rw[a];exact List.cons_sublist_cons.symm
   ·rw[if_neg (λz=>a (aj (e.symm.trans z)))];refine (py hw hu hp).trans ?_;rw[lz q]
    exact⟨λz=>.cons _ z,λz=>by cases z with
     |cons _ z=>exact z
     |cons_cons _ z=>exact absurd rfl a⟩
  ·have e:w[p]?=none:=uK q;rw[if_neg (λz=>ac (e.symm.trans z))];refine (py hw hu hp).trans ?_;rw[RO q];exact⟨λζ=>Er _,λζ=>Er _⟩
noncomputable def m7 (n:Nat):Nat->List (List Nat)
 |0=>(cL n).map λl=>[l]
 |j+1=>(m7 n j).flatMap λw=>(cL n).map λl=>w++[l]
noncomputable def de (n:Nat):Nat->List (List Nat)
 |0=>m7 n 0
 |j+1=>de n j++m7 n (j+1)
theorem qh {n:Nat}:∀{j:Nat} {w:List Nat},w∈m7 n j↔w.length=j+1/\∀l∈w,l<n
 |0,w=>by
  refine dG.trans ⟨λh=>ah h λl hl e=>e▸⟨rfl,λx hx=>cN.mp hx▸hU.mp hl⟩,λh=>?_⟩
  induction w using aP with
  |nil=>exact absurd h.1 (by decide)
  |cons a w=>exact⟨a,hU.mpr (h.2 a (.head _)),congrArg (a:: ·) (xV.mp (kq h.1)).symm⟩
 |j+1,w=>by
  refine RX.trans ⟨λh=>ah h λv hv h=>ah (dG.mp h) λl hl e=>be (qh.mp hv) λh1 h2=>?_,λh=>?_⟩
  ·subst e;refine⟨by rw[ci,h1];rfl,λx hx=>(bo.mp hx).elim (h2 x) λq=>cN.mp q▸hU.mp hl⟩
  ·have hne:w≠[]:=λz=>by rw[z] at h;exact absurd h.1 (rH _).symm
   refine⟨w.dropLast,qh.mpr ⟨by rw[RY,h.1];rfl,λl hl=>h.2 l (RZ w hl)⟩,dG.mpr ⟨w.getLast hne,hU.mpr (h.2 _ (R3 hne)),R4 hne⟩⟩
theorem nc {n:Nat}:∀{j:Nat} {w:List Nat},w∈de n j↔(w≠[]/\w.length<=j+1)/\∀l∈w,l<n
 |0,w=>qh.trans ⟨λh=>⟨⟨λz=>by rw[z] at h;exact absurd h.1 (by decide),iA h.1⟩,h.2⟩,λh=>⟨lH h.1.2 (vf.mpr h.1.1),h.2⟩⟩
 |j+1,w=>bo.trans ⟨λh=>h.elim (λh=>be (nc.mp h) λh1 h2=>⟨⟨h1.1,uZ h1.2⟩,h2⟩) (λh=>be (qh.mp h) λh1 h2=>⟨⟨λz=>by rw[z] at h1;exact absurd h1 (rH _).symm,iA h1⟩,h2⟩),
   λh=>(Ep w.length (j+2)).elim (λq=>.inl (nc.mpr ⟨⟨h.1.1,jS q⟩,h.2⟩)) λq=>.inr (qh.mpr ⟨lH h.1.2 q,h.2⟩)⟩
noncomputable def cz (T:List (List Nat)):Nat->List (List (List Nat))
 |0=>[[]]
 |j+1=>(cz T j).flatMap λc=>T.map λs=>c++[s]
theorem qC {T:List (List Nat)}:∀{j:Nat} {c:List (List Nat)},c∈cz T j↔c.length=j/\∀s∈c,s∈T
 |0,c=>by refine cN.trans ⟨λh=>h▸⟨rfl,λζ q=>nomatch q⟩,λh=>xV.mp h.1⟩
 |j+1,c=>by
  refine RX.trans ⟨λh=>ah h λv hv h=>ah (dG.mp h) λs hs e=>be (qC.mp hv) λh1 h2=>?_,λh=>?_⟩
  ·subst e;refine⟨by rw[ci,h1];rfl,λx hx=>(bo.mp hx).elim (h2 x) λq=>cN.mp q▸hs⟩
  ·have hne:c≠[]:=λz=>by rw[z] at h;exact absurd h.1 (rH _).symm
   refine⟨c.dropLast,qC.mpr ⟨by rw[RY,h.1];rfl,λs hs=>h.2 s (RZ c hs)⟩,dG.mpr ⟨c.getLast hne,h.2 _ (R3 hne),R4 hne⟩⟩
noncomputable def tB (k:Nat) (s:List Nat):Bool:=s.length==k&&(cL k).all λp=>my p (s.getD p 0)&&iY (s.getD p 0) k&&(cL k).all λq=> !(my p q)||my (s.getD p 0) (s.getD q 0)
theorem nE {k n:Nat} {T:List (List Nat)} (hT:T.all (tB k)=true) {c:List (List Nat)} (hc:c∈cz T n) {l:Nat} (hl:l<n):kn k c l:=λp hp=>by
 refine be (qC.mp hc) λh1 h2=>?_;have hl:l<c.length:=h1▸hl;have e:c.getD l []=c[l]:=by rw[ju,el hl];rfl
 have hs:=c9.mp hT _ (h2 _ (rR hl));unfold stp;rw[e];refine dm hs λζ hs=>?_;refine mh (c9.mp hs p (hU.mpr hp)) λa b d=>?_;refine⟨jt a,jt b,λq hpq hq=>?_⟩;have:=c9.mp d q (hU.mpr hq);rw[dg hpq] at this;exact jt this
noncomputable def oB (n k:Nat) (T:List (List Nat)):Prop:=T.all (tB k)=true/\∀f:Nat->Bool,f (k - 1)=false->((cL k).map λp=>p+if f p=true then 1 else 0)∈T
theorem BJ {n k:Nat} {T:List (List Nat)} (G:oB n k T) {w:List Nat} (hw:w.length<k):gI n k w∈cz T n:=by refine qC.mpr ⟨by unfold gI;rw[bx,i4],λs hs=>?_⟩;refine ah (dG.mp hs) λl ζ e=>?_;subst e;have:=G.2 (λp=>decide (w[p]?=some l)) (decide_eq_false (by rw[uK (R5 hw)];exact λh=>ac h));simp only[decide_eq_true_eq] at this;exact this
theorem PI {n k:Nat} {T:List (List Nat)} (G:oB n k T) (hk:2<=k) {u v:List Nat} (hu:∀l∈u,l<n) (hv:∀l∈v,l<n):(∀w∈de n (k - 2),(w.Sublist u↔w.Sublist v))↔(∀c∈cz T n,led c u 0=led c v 0):=by
 have hk1:k - 2+1=k - 1:=by omega
 constructor
 ·intro h c hc;have key:∀{a b:List Nat},(∀l∈a,l<n)->(∀l∈b,l<n)->(∀w∈de n (k - 2),w.Sublist a->w.Sublist b)->led c a 0<=led c b 0:=λha hb h=>
   CS (λl hl=>nE G.1 hc (ha l hl)) (λl hl=>nE G.1 hc (hb l hl)) (b9 (by decide) hk) λw hw hne hlt=>h w (nc.mpr ⟨⟨hne,hk1▸R5 hlt⟩,λl hl=>ha l (hw.subset hl)⟩) hw
  exact lH (key hu hv λw hw=>(h w hw).mp) (key hv hu λw hw=>(h w hw).mpr)
 ·intro h w hw;have hlt:w.length<k:=eN (nc.mp hw).1.2 (by omega);have a:=py hlt (n:=n) hu (iE w.length);have b:=py hlt (n:=n) hv (iE w.length);exact a.symm.trans ((h _ (BJ G hlt))▸b)
noncomputable def ba (b:List aL) (i:Nat):ab:=match b[i]? with
 |some (.Assign _ e _)=>e
 |some (.If t _ _ _)=>t
 |_=>.Constant .none 0 ⟨0,0,0,0⟩
noncomputable def zF (b:List aL) (i j:Nat):ab:=match b[i]? with
 |some (.Assign _ (.Tuple vs _ _) _)=>vs.getD j (.Constant .none 0 ⟨0,0,0,0⟩)
 |_=>.Constant .none 0 ⟨0,0,0,0⟩
noncomputable def ar (l:List Nat):List PV:=l.map λx=>.int ((x:Nat):Int)
section
variable {O:Orc} {n:Nat} {sc sc1:Scope} {σ σ1:Sg} {o:Option Out} {r:List aL}
theorem oM {xs:List PV} {i:Nat} (h:i<xs.length):fN (.list xs) (.int i)=xs[i]?:=by unfold fN;simp only;rw[yK (i:=(i:Int)) (c7 _) (oh.mpr (by assumption))];rfl
theorem BF {u:List Nat} {i a:Nat} (h:u[i]?=some a):fN (.list (ar u)) (.int i)=some (.int (a:Nat)):=by
 refine (oM (xs:=ar u) ?_).trans ?_
 ·unfold ar;rw[bx];exact (pU.mp h).1
 ·unfold ar;rw[iG,h];rfl
end
noncomputable def tI:Scope:=(bD ef).scope
noncomputable def pB:List aL:=(bD ef).body
noncomputable abbrev Aw:Str:=ag "word"
noncomputable abbrev eI:Str:=ag "choice"
noncomputable abbrev gX:Str:=ag "place"
noncomputable abbrev sP:Str:=ag "letter"
noncomputable def dQ (c:List (List Nat)):PV:=.list (c.map λs=>.list (ar s))
section
variable {O:Orc} {k n:Nat} {c:List (List Nat)}
theorem H3 {σ:Sg} {l p q:Nat} {s:List Nat} (hc:c[l]?=some s) (hs:s[p]?=some q) (h1:σ.lookup eI=some (.sh (dQ c))) (h2:σ.lookup gX=some (.sh (.int p))):b8 O 58 tI (aU pB 0).1 (aU pB 0).2 σ (.int l)=some (.nx (put (put σ sP (.sh (.int l))) gX (.sh (.int q)))):=by
 refine (?_:aJ O 58 tI (put σ sP (.sh (.int l))) (aU pB 0).2=_);have g1:(put σ sP (.sh (.int l))).lookup eI=some (.sh (dQ c)):=au (by decide) h1;refine aT (bM (d:=.int q) (by decide) (h:=?_) (hs:=λxs z=>nomatch z)) a9;refine gM (a:=.list (ar s)) (h1:=aB (h:=gM (a:=dQ c) (k:=.int l) (h1:=aD (by decide) (aF g1)) (h2:=aC (by decide) aM) (ho:=dX g1) (h:=?_))) (h2:=aC (by decide) (au (by decide) h2)) (ho:=rfl) (h:=BF hs);refine (oM (xs:=c.map λs=>PV.list (ar s)) ?_).trans ?_
 ·rw[bx];exact (pU.mp hc).1
 ·rw[iG,hc];rfl
noncomputable def sZ (n k:Nat) (c:List (List Nat)):Prop:=c.length=n/\∀s∈c,s.length=k
theorem Hq (R:sZ n k c) {l p:Nat} (hl:l<n) (hp:p<k):∃s,c[l]?=some s/\s[p]?=some (stp c l p):=by have hl:l<c.length:=R.1.symm▸hl;have hp:p<c[l].length:=(R.2 _ (rR hl)).symm▸hp;refine⟨c[l],el hl,?_⟩;unfold stp;rw[ju,ju,el hl,Option.getD_some,el hp];rfl
theorem AS (R:sZ n k c):∀(u:List Nat) (p:Nat) (σ:Sg),(∀l∈u,l<n/\kn k c l)->p<k->σ.lookup eI=some (.sh (dQ c))->σ.lookup gX=some (.sh (.int p))->∃σ',bU (b8 O 58 tI (aU pB 0).1 (aU pB 0).2) (ar u) σ=some (.nx σ')/\σ'.lookup gX=some (.sh (.int (led c u p:Nat)))
 |[],p,σ,_,_,_,h2=>az σ rfl h2
 |l::u,p,σ,hu,hp,h1,h2=>by refine be (hu l (.head _)) λhl hst=>?_;refine ah (Hq R hl hp) λs e1 e2=>?_;refine ah (AS R u (stp c l p) (put (put σ sP (.sh (.int l))) gX (.sh (.int (stp c l p:Nat)))) (λl hl=>hu l (.tail _ hl)) (hst p hp).2.1 (au (by decide) (au (by decide) h1)) aM) λσ' e h=>?_;exact az σ' (gR (H3 e1 e2 h1 h2) e) h
theorem HP (R:sZ n k c) {u:List Nat} {p:Nat} (hu:∀l∈u,l<n/\kn k c l) (hp:p<k):bQ pw O ef [.list (ar u),dQ c,.int p]=some (.int (led c u p:Nat)):=by refine lX (d:=bD ef) rfl rfl ?_;refine (?_:aJ O 60 tI [(Aw,.sh (.list (ar u))),(eI,.sh (dQ c)),(gX,.sh (.int p))] pB=_);refine ah (AS (O:=O) R u p [(Aw,.sh (.list (ar u))),(eI,.sh (dQ c)),(gX,.sh (.int p))] hu hp rfl rfl) λσ' e h=>?_;exact aT (lO (g8 rfl (aC (by decide) rfl) rfl) e a9) (iw (aC (by decide) h))
end
theorem tY (c:Nat):∀u:List Nat,(c∉u->after [c] u=none)/\(c∈u->∃a b,u=a++c::b/\c∉a/\after [c] u=some (a.length,b))
 |[]=>⟨λζ=>rfl,λh=>nomatch h⟩
 |d::u=>by
  refine be (tY c u) λh1 h2=>?_
  by_cases hd:c=d
  ·subst hd;refine⟨λh=>absurd (.head _) h,λζ=>⟨[],u,rfl,by simp,?_⟩⟩;simp[zI,qm,R6]
  ·have hp:[c].isPrefixOf (d::u)=false:=by simp[R6,hd]
   refine⟨λh=>?_,λh=>?_⟩
   ·have hu:c∉u:=λx=>h (.tail _ x);refine aa qm ?_;refine aa hp (aa (h1 hu) ?_);rfl
   ·have hu:c∈u:=by
     cases h with
     |head=>exact absurd rfl hd
     |tail _ h=>exact h
    refine bJ (h2 hu) λa b e ha hs=>?_;refine gF (d::a) b (by refine aa e ?_;rfl) ?_ ?_
    ·intro hh;cases hh with
     |head=>exact hd rfl
     |tail _ hh=>exact ha hh
    ·refine aa qm ?_;refine aa hp (aa hs ?_);rfl
theorem sG (u:List Nat):after [] u=some (0,u):=by
 induction u using aP with
 |nil=>rfl
 |cons c u=>rfl
noncomputable def kH:List Nat->List Nat->Bool:=λl u=>ia (l.map λc=>[c]) u
theorem zJ:∀(l u:List Nat),kH l u=true↔l.Sublist u
 |[],u=>⟨λζ=>Er _,λζ=>rfl⟩
 |c::l,u=>by
  refine be (tY c u) λh1 h2=>?_;unfold kH;refine aa cS ?_;refine aa nq ?_
  by_cases hc:c∈u
  ·refine bJ (h2 hc) λa b e ha hs=>?_;refine aa hs ?_;show kH l b=true↔_;rewrite[zJ l b];refine aa e ?_;constructor
   ·intro h;exact (Tn c h).trans (List.sublist_append_right a _)
   ·intro h;have:∀a:List Nat,c∉a->(c::l).Sublist (a++c::b)->(c::l).Sublist (c::b):=by
     intro a
     induction a with
     |nil=>intro _ h;exact h
     |cons x a ih=>
      intro hx h;apply ih (λz=>hx (.tail _ z));cases h with
      |cons _ h=>exact h
      |cons_cons _ h=>exact absurd (.head _) hx
    have h3:=this a ha h;cases h3 with
    |cons _ h=>exact (List.sublist_cons_self c l).trans h
    |cons_cons _ h=>exact h
  ·refine aa (h1 hc) ?_;constructor
   ·intro h;exact aZ h
   ·intro h;exact absurd (h.subset (.head _)) hc
theorem rp:∀(P:List (List Nat)) (u:List Nat),(∀w∈P,w=[])->ia P u=true
 |[],_,_=>rfl
 |w::P,u,h=>by have hw:=h w (.head _);subst hw;refine aa nq ?_;rw[sG];exact rp P u λw hw=>h w (.tail _ hw)
theorem wb (w:List Nat) (r:List (List Nat)) (T:List Nat):nP (w::r) T=if w=[] then kO T 0 (w::r) ((w::r).getLastD []) else if w.isPrefixOf T=true then kO T w.length r (r.getLastD []) else false:=rfl
theorem Bs:∀(l:List Nat) (u:List Nat),ia (l.map (λc=>[c])++[[]]) u=kH l u
 |[],u=>rp [[]] u (by decide)
 |c::l,u=>by
  unfold kH;refine aa cS (aa vd ?_);unfold ia;cases after [c] u with
  |none=>rfl
  |some p=>exact Bs l p.2
theorem Go (T:List Nat):o0 T []=some T.length:=by unfold o0;exact aa (if_pos rfl) rfl
theorem FB (l T:List Nat):nP ([]::(l.map (λc=>[c])++[[]])) T=kH l T:=by
 rw[wb];refine aa (if_pos rfl) ?_;have e:([]::(l.map (λc=>[c])++[[]])).getLastD []=([]:List Nat):=by rw[vX (sm _ _),List.getLast_cons (by simp),List.getLast_append_right (sm _ _)];rfl
 refine aa e ?_;unfold kO;rw[Go];simp only;rw[if_neg (Nj),if_pos trivial,uT,D5,n0];refine aa nq ?_;rw[sG];exact Bs l T
theorem H4 (T l:List Nat):o0 T l=if l.isSuffixOf T=true then some (T.length - l.length) else none:=by
 unfold o0
 by_cases h:l=[]
 ·subst h;rw[if_pos rfl,if_pos (sk.mpr (List.nil_suffix))];rfl
 ·rw[if_neg h]
theorem sY {x:Nat} {P:List (List Nat)} (hP:∀w∈P,w=[]) (u:List Nat):ia ([x]::P) u=decide (x∈u):=by
 rw[nq]
 by_cases h:x∈u
 ·refine bJ ((tY x u).2 h) λa b e ζ hs=>?_;rw[hs,decide_eq_true h];exact rp P b hP
 ·rw[(tY x u).1 h,decide_eq_false h]
theorem tZ {T:List Nat} {s:Nat} {P:List (List Nat)} {b:List Nat} {Q:List (List Nat)} {v:List Nat->Bool} (hQ:(if b=[] then P else P.dropLast)=Q) (hv:∀u,ia Q u=v u):kO T s P b=(b.isSuffixOf T&&decide (s+b.length<=T.length)&&v ((T.drop s).take (T.length - b.length - s))):=by
 unfold kO;rw[H4,hQ];cases hb:b.isSuffixOf T with
 |false=>rfl
 |true=>
  have hl:=(sk.mp hb).length_le;rw[if_pos rfl];dsimp only
  by_cases h:s+b.length<=T.length
  ·rw[if_neg (uH.mpr (PU h)),decide_eq_true h,hv];rfl
  ·rw[if_pos (Nat.sub_lt_right_of_lt_add hl (PS h)),decide_eq_false h];rfl
theorem PE (a b T:List Nat):nP [a,b] T=(a.isPrefixOf T&&b.isSuffixOf T&&decide (a.length+b.length<=T.length)):=by
 rw[wb]
 by_cases ha:a=[]
 ·subst ha;rw[if_pos rfl];refine (tZ (Q:=if b=[] then [[],b] else [[]]) (v:=λζ=>true) rfl λu=>?_).trans ?_
  ·refine rp _ u ?_
   by_cases hb:b=[]
   ·subst hb;decide
   ·rw[if_neg hb];decide
  ·show (b.isSuffixOf T&&decide (0+b.length<=T.length)&&true)=_;rw[sn];rfl
 ·rw[if_neg ha];cases hp:a.isPrefixOf T with
  |false=>rfl
  |true=>
   rw[if_pos rfl];refine (tZ (Q:=if b=[] then [b] else []) (v:=λζ=>true) rfl λu=>?_).trans ?_
   ·refine rp _ u ?_
    by_cases hb:b=[]
    ·subst hb;decide
    ·rw[if_neg hb];decide
   ·show (b.isSuffixOf T&&decide (a.length+b.length<=T.length)&&true)=_;rw[sn];rfl
theorem Pw (a b T:List Nat) (x:Nat):nP [a,[x],b] T=(a.isPrefixOf T&&b.isSuffixOf T&&decide (a.length+b.length<=T.length)&&decide (x∈(T.drop a.length).take (T.length - b.length - a.length))):=by
 rw[wb]
 by_cases ha:a=[]
 ·subst ha;rw[if_pos rfl];refine (tZ (Q:=if b=[] then [[],[x],b] else [[],[x]]) (v:=λu=>decide (x∈u)) rfl λu=>?_).trans ?_
  ·by_cases hb:b=[]
   ·subst hb;rw[if_pos rfl,nq,sG];exact sY (by decide) u
   ·rw[if_neg hb,nq,sG];exact sY (by decide) u
  ·rfl
 ·rw[if_neg ha];cases hp:a.isPrefixOf T with
  |false=>rfl
  |true=>
   rw[if_pos rfl];refine (tZ (Q:=if b=[] then [[x],b] else [[x]]) (v:=λu=>decide (x∈u)) rfl λu=>?_).trans ?_
   ·by_cases hb:b=[]
    ·subst hb;exact sY (by decide) u
    ·rw[if_neg hb];exact sY (by decide) u
   ·rfl
open PySem.StrLaws
section
variable {O:Orc} {n:Nat} {sc sc':Scope} {σ σ':Sg} {o:Option Out} {r:List aL} {L:List (Str×Option Ent)}
noncomputable def tabW:List Str:=["OPTIMIZED", "NEWLOCALS", "VARARGS", "VARKEYWORDS", "NESTED", "GENERATOR", "NOFREE", "COROUTINE", "ITERABLE_COROUTINE", "ASYNC_GENERATOR"]
noncomputable def tabP:PV:=.list (tabW.map .str)
theorem J2:ky (ag "OPTIMIZED NEWLOCALS VARARGS VARKEYWORDS NESTED GENERATOR NOFREE COROUTINE ITERABLE_COROUTINE ASYNC_GENERATOR")=tabW:=by decide+kernel
theorem NH:(let x:=ag "OPTIMIZED NEWLOCALS VARARGS VARKEYWORDS NESTED GENERATOR NOFREE COROUTINE ITERABLE_COROUTINE ASYNC_GENERATOR";bt (uF x (x.length+1)).length)=true:=by decide+kernel
theorem LW:cY (.str (ag "OPTIMIZED NEWLOCALS VARARGS VARKEYWORDS NESTED GENERATOR NOFREE COROUTINE ITERABLE_COROUTINE ASYNC_GENERATOR")) (ag "split") []=some tabP:=by
 unfold cY;simp only;refine aa J2 ?_;rw[if_pos]
 ·rfl
 ·have:=NH;simp only at this;refine aa this ?_;decide+kernel
theorem Mj:∀i,i<32->10<=i->cJ i=mw i:=by decide+kernel
theorem Ov:∀i,i<10->tabW[i]?=some (cJ i):=by decide+kernel
theorem tA {i:Nat} (h:i<=1000000):bV .Pow (.int 2) (.int i)=some (.int ((2^i:Nat):Int)):=by
 unfold bV;simp only;rw[if_pos]
 ·congr 2
 ·simp only[bF,decide_eq_true_eq];refine⟨c7 _,?_⟩;have e1:((bX 2:Nat):Int)=2:=by decide
  have e2:(2:Int)^27=134217728:=by decide
  refine aa e1 (aa e2 ?_);exact IU h
theorem uy:∀l:List Int,ji (l.map .int)=some l
 |[]=>rfl
 |x::l=>by show (ji (l.map .int)).map (x:: ·)=_;refine aa (uy l) ?_;rfl
theorem yU (n:Nat):∀ds:List Nat,(∀d∈ds,d<2^n)->eP n ds.length (bl n ds)=lb ds
 |[],_=>rfl
 |d::ds,h=>by
  have hd:=h d (.head _);show (((d+bl n ds*2^n)%2^n:Nat):Int)::eP n ds.length ((d+bl n ds*2^n)/2^n)=_;have e1:(d+bl n ds*2^n)%2^n=d:=by (rewrite[Nat.add_mul_mod_self_right];exact aa (D1 hd) rfl)
  have e2:(d+bl n ds*2^n)/2^n=bl n ds:=by (refine aa (Nat.add_mul_div_right _ _ (u9 n)) (aa (yz hd) ?_);rw[e9])
  refine aa e1 (aa e2 ?_);rw[yU n ds λx hx=>h x (.tail _ hx)];rfl
noncomputable def Dg (n:Nat) (ds:List Nat):Prop:=(∀d∈ds,d<2^n)/\(ds=[]\/∃i x,ds=i++[x]/\x≠0)
theorem KC {n:Nat} (hn:1<=n) {ds:List Nat} (h:Dg n ds):cD (bl n ds) n=ds.length:=by
 have hlt:=qY n ds h.1;have hb:bX ((bl n ds:Nat):Int)<=ds.length*n:=hF hlt;unfold cD;rcases h.2 with rfl|⟨i,x,rfl,hx⟩
 ·have:bX ((bl n []:Nat):Int)=0:=rfl;refine aa this ?_;rw[e9];exact yz (HJ hn)
 ·have hge:2^(i.length*n)<=bl n (i++[x]):=by
   rw[sJ];have:1<=bl n [x]:=by show 1<=x+0*2^n;exact LF hx
   calc 2^(i.length*n)=1*2^(i.length*n):=(og _).symm
    _<=bl n [x]*2^(i.length*n):=rJ _ this
    _<=_:=dv _ _
  have hb2:¬ bX ((bl n (i++[x]):Nat):Int)<=i.length*n:=by rw[u7];simp only[RA];exact uH.mpr (by assumption)
  rw[ci,pZ,vj] at hb ⊢;rw[kD] at hb;have e:(bX ((bl n (i++[x]):Nat):Int)+n - 1)/n=i.length+1:=by
   generalize bX ((bl n (i++[x]):Nat):Int)=B at *;generalize i.length=L at *;apply Nat.div_eq_of_lt_le
   ·rw[kD];exact Jr hn hb2
   ·rw[kD,kD];omega
  exact e
theorem H5 {n:Nat} (hn:1<=n/\n<=512) {ds:List Nat} (h:Dg n ds) (hl:ds.length<=128):kT [.int (bl n ds:Nat),.int n]=some (.list (ar ds)):=by
 have hlt:=qY n ds h.1;have hk:=KC hn.1 h
 have h2:bl n ds<2^65536:=b9 hlt (yB (ve _) (by
  calc ds.length*n<=128*512:=kE hl hn.2
   _=65536:=by decide))
 unfold kT;simp only[gb];rewrite[if_pos];refine aa hk ?_;rw[yU n ds h.1]
 ·unfold lb ar;refine aa fj ?_;rfl
 ·have hl':cD (bl n ds) n<=128:=al (iA (by assumption)) (by assumption);generalize bl n ds=A at *;revert h2;refine cn ((2:Nat)^65536) λX hX=>?_;intro h2;simp only[bF,decide_eq_true_eq,gb];exact⟨⟨⟨⟨c7 _,Kj hn⟩,Nc hn⟩,hl'⟩,h2⟩
theorem NT {n:Nat} (hn:n<=512) {ds:List Nat} (h:∀d∈ds,d<2^n) (hl:ds.length<=128):kI [.list (ar ds),.int n]=some (.int (bl n ds:Nat)):=by
 have e:ar ds=(ds.map λd=>((d:Nat):Int)).map PV.int:=by unfold ar;refine aa fj ?_;rfl
 unfold kI;simp only;refine aa e ?_;rw[uy];simp only;rw[if_pos]
 ·congr 3;refine aa fj ?_;rw[gb];congr 1;exact (so (λx ζ=>rfl)).trans (R7 ds)
 ·simp only[bF,decide_eq_true_eq,c9,bx,gb];refine⟨⟨⟨λx hx=>?_,hl⟩,c7 _⟩,fL (ej.mpr (by assumption)) (by decide)⟩;refine ah (dG.mp hx) λd hd e2_=>?_;subst e2_;exact⟨c7 _,by simpa using h d hd⟩
noncomputable def bg:Scope:=(bD iT).scope
noncomputable def aW:List aL:=(bD iT).body
theorem ja {a b:List Nat} (h:a.length+b.length<=100000):bV .Add (.str (S a)) (.str (S b))=some (.str (S (a++b))):=by rw[<- xt];unfold bV;simp only;rw[if_pos];refine R8.mpr ?_;rw[dA,dA];exact al (by assumption) (dv _ _)
noncomputable def GI:List (List Sg2):=[[],[.qt [.ch 41]],[.pl (.es 40)],[.pl (.es 92)],[.qt [.ch 40]],[.qt [.es 34,.ch 41]],[.pl (.ch 97),.pl (.es 34)],[.pl (.es 41)]]
noncomputable def qA (i:Nat):List Sg2:=GI.getD i []
noncomputable def ca (i:Nat):List Nat:=a8 (cu (qA i))
noncomputable def menuP:PV:=.tup ((cL 8).map λi=>.str (S (ca i)))
theorem Be {xs:List PV} {i:Nat} (h:i<xs.length):fN (.tup xs) (.int i)=xs[i]?:=oM (xs:=xs) h
theorem ij {x m:Nat} (hm:m≠0):bV .Mod (.int (x:Nat)) (.int (m:Nat))=some (.int ((x%m:Nat):Int)):=by show (if ((m:Int) != 0)=true then some (PV.int (jq (x:Nat) m)) else none)=_;rw[if_pos (by rw[bne_iff_ne];exact CJ hm),Int.fmod_eq_emod_of_nonneg _ (c7 _)];rfl
theorem mi {x m:Nat} (hm:m≠0) (hx:x<1000000000):bV .FloorDiv (.int (x:Nat)) (.int (m:Nat))=some (.int ((x/m:Nat):Int)):=by
 show (if ((m:Int) != 0&&decide ((x:Int).natAbs<2^60))=true then some (PV.int (PK (x:Nat) m)) else none)=_;rw[if_pos,Rr _ (c7 _)]
 ·rfl
 ·rewrite[bF];refine aa decide_eq_true_eq ?_;rw[bne_iff_ne];exact⟨CJ hm,by omega⟩
theorem Jj {e:ab} (hn:qc e=true:=by rfl) (h:pe O n sc σ e=none):pa O (n+1) sc σ e=none:=by
 induction e using bE<;>first|exact h|exact aZ hn
theorem Cc {x:Str} {xp q:Pos} {e:ab} (hl:ou e=true:=by rfl) (h:pe O n sc σ e=none):px O (n+1) sc σ (.Assign [.Name x xp] e q)=none:=by
 refine aa qN (aa (qU hl) (aa h ?_))
 split<;>rfl
theorem Nf {st:aL} (h0:px O n sc σ st=none) (hu:unown1 σ (lZ st)=σ) (h:px O n sc (unown σ) st=some (.nx σ')) (hr:aJ O n sc σ' r=o):aJ O (n+1) sc σ (st::r)=o:=by refine aa oH (aa h0 (aa hu (aa h0 (aa h ?_))));exact hr
theorem Ge (a b:List Sg2):cu (a++b)=cu a++cu b:=by unfold cu;exact aa El rfl
theorem we (a b:List Sg2):dn (a++b)=dn a++dn b:=by unfold dn;exact aa El rfl
noncomputable def tx (l:List Sg2):List Nat:=a8 (cu l)
theorem vV (a b:List Sg2):tx (a++b)=tx a++tx b:=by unfold tx;rw[Ge,kG]
noncomputable def nn (l:List Sg2):Bool:=l.all Sg2.ok
theorem vP (a b:List Sg2):nn (a++b)=(nn a&&nn b):=by unfold nn;exact aa vm rfl
theorem AZ:∀m,m<8->nn (qA m)=true:=by decide+kernel
theorem mr:∀(a b:List It0) (k:Int),dx k (a++b)=(dx k a).bind λk'=>dx k' b
 |[],b,k=>rfl
 |.ch c::a,b,k=>by
  show (if c=40 then dx (k+1) (a++b) else if c=41 then (if k - 1<0 then none else dx (k - 1) (a++b)) else dx k (a++b))=Option.bind (if c=40 then dx (k+1) a else if c=41 then (if k - 1<0 then none else dx (k - 1) a) else dx k a) _;rw[mr a b,mr a b,mr a b]
  split
  ·rfl
  ·split
   ·split<;>rfl
   ·rfl
 |.es c::a,b,k=>mr a b k
theorem yQ {k:Int}:∀m,m<8->dx k (dn (qA m))=some k:=by
 intro m hm;have:m=0\/m=1\/m=2\/m=3\/m=4\/m=5\/m=6\/m=7:=EZ hm;rcases this with rfl|rfl|rfl|rfl|rfl|rfl|rfl|rfl<;>rfl
theorem Bd {α:Type} (f g:α->PV):∀l:List α,fT (l.map f) (l.map g)=l.map λx=>.tup [f x,g x]
 |[]=>rfl
 |a::l=>by refine aa cS (aa cS (aa cS (aH (Bd f g l) ?_)));rfl
theorem rn {n:Nat} {x:Str} {q:Pos} {d:PV} (hx:bb sc x=true):bu false sc (n+1) σ (.Name x q) d=some (put σ x (.sh d)):=Cd hx rfl
theorem HK {x y:Str} {q r s:Pos} {k:Nat} {d e:PV} (hx:bb sc x=true) (hy:bb sc y=true):bu false sc 4 σ (.Tuple [.Name x q,.Name y r] k s) (.tup [d,e])=some (put (put σ x (.sh d)) y (.sh e)):=
 jC (rn hx) (jC (rn hy) rfl)
theorem rc {x y:Bool}:fE .IsNot (.bool x) (.bool y)=some (!(x==y)):=rfl
noncomputable def Kp (xs:List Str) (σ σ':Sg):Prop:=∀x,x∉xs->σ'.lookup x=σ.lookup x
theorem Kp.refl {xs:List Str}:Kp xs σ σ:=λζ ζ=>rfl
theorem Kp.trans {xs:List Str} {σ'':Sg} (h1:Kp xs σ σ') (h2:Kp xs σ' σ''):Kp xs σ σ'':=λx hx=>(h2 x hx).trans (h1 x hx)
theorem Kp.put {xs:List Str} {y:Str} {e:Ent} (h:Kp xs σ σ') (hy:y∈xs):Kp xs σ (put σ' y e):=λx hx=>by rw[dp,if_neg (λhh:x=y=>hx (hh▸hy))];exact h x hx
noncomputable def cW (σ:Sg) (L:List (Str×Option Ent)):Prop:=∀x o,L.lookup x=some o->σ.lookup x=o
noncomputable def tw:Option Ent->Option Ent
 |some (.own xs)=>some (.sh (.list xs))
 |r=>r
theorem cW.put {x:Str} {e:Ent} (h:cW σ L):cW (put σ x e) ((x,some e)::L):=λy o ho=>by
 rw[dp];rw[cM] at ho
 by_cases hy:y=x
 ·subst hy;rw[beq_self_eq_true] at ho;refine aa (if_pos rfl) ?_;exact kr ho
 ·replace ho:=(beq_eq_false_iff_ne.mpr hy)▸ho;refine aa (if_neg hy) ?_;exact h y o ho
theorem cW.unown (h:cW σ L):cW (unown σ) (L.map λp=>(p.1,tw p.2)):=λy o ho=>by
 rw[rx];have:∀(L:List (Str×Option Ent)) o,(L.map λp=>(p.1,tw p.2)).lookup y=some o->∃q,L.lookup y=some q/\tw q=o:=by
  intro L
  induction L with
  |nil=>intro o h;exact ac h
  |cons p L ih=>
   intro o h;rw[cS,cM] at h;refine aa cM ?_;cases hb:y==p.1 with
   |true=>replace h:=hb▸h;exact az _ rfl (kr h)
   |false=>replace h:=hb▸h;exact ih o h
 refine ah (this L o ho) λq h1 h2=>?_;rewrite[h y q h1];refine aH h2 ?_;unfold tw
 induction q using bW with
 |none=>rfl
 |some e=>induction e using Ent.casesOn<;>rfl
theorem cW.keep {xs:List Str} (h:cW σ L) (k:Kp xs σ σ') (hd:(L.all λp=> !xs.contains p.1)=true):cW σ' L:=λy o ho=>by
 have hd:∀p∈L,p.1∉xs:=λp hp hx=>by have h1:=c9.mp hd p hp;have h2:xs.contains p.1=true:=List.contains_iff_mem.mpr hx;replace h1:=h2▸h1;exact aZ h1
 rw[k y ?_]
 ·exact h y o ho
 ·intro hy;have:∀(L:List (Str×Option Ent)),L.lookup y=some o->(∀p∈L,p.1∉xs)->False:=by
   intro L
   induction L with
   |nil=>intro h;exact ac h
   |cons p L ih=>
    intro h hd;rw[cM] at h;cases hb:y==p.1 with
    |true=>exact hd p (.head _) (by refine aH (bh hb) ?_;exact hy)
    |false=>replace h:=hb▸h;exact ih h λq hq=>hd q (.tail _ hq)
  exact this L ho hd
theorem FQ {x:Str} (h:σ.lookup x=none):unown1 σ x=σ:=by unfold unown1;exact aa h rfl
theorem Ho {x:Str} {xs:List PV} (h:σ.lookup x=some (.own xs)):unown1 σ x=Mine.put σ x (.sh (.list xs)):=by unfold unown1;exact aa h rfl
end
open PySem.StrLaws
section
variable {O:Orc} {n:Nat} {sc sc':Scope} {σ σ':Sg} {o:Option Out} {r:List aL} {L:List (Str×Option Ent)}
theorem BA {n:Nat} {sc:Scope} {e1 e2:ab} {p:Pos} {a b:Bool} (h1:pT O n sc σ e1=some a) (h2:pT O n sc σ e2=some b):pT O (n+1) sc σ (.BoolOp .And [e1,e2] p)=some (a&&b):=by
 refine (?_:(match yN,pT O n sc σ e1 with|.And,some false=>some false|.Or,some true=>some true|_,some _=>(match yN,pT O n sc σ e2 with|.And,some false=>some false|.Or,some true=>some true|_,some _=>some true|_,none=>none)|_,none=>none)=_);refine aa h1 (aa h2 ?_)
 induction a using d8<;>induction b using d8<;>rfl
theorem sH {l:List Int}:dr O (ag "sum") [.list (l.map .int)]=some (.int l.sum):=by have:dr O (ag "sum") [.list (l.map .int)]=(ji (l.map .int)).map λl=>.int l.sum:=rfl;refine aa this ?_;rw[uy];rfl
theorem w8 (n:Nat) (F:Nat->Nat):∀k a:Nat,bl n ((fm a k).map F)=((fm a k).map λi=>F i*2^(n*(i - a))).sum
 |0,a=>rfl
 |k+1,a=>by
  refine aa Eo (aa cS (aa cS (aa iI ?_)));show F a+bl n ((fm (a+1) k).map F)*2^n=_;refine aa (w8 n F k (a+1)) ?_;rw[D6,Nat.mul_zero,Nat.pow_zero,En];congr 1;have:∀l:List Nat,(∀i∈l,a+1<=i)->(l.map λi=>F i*2^(n*(i - (a+1)))).sum*2^n=(l.map λi=>F i*2^(n*(i - a))).sum:=by
   intro l
   induction l with
   |nil=>intro _;simp
   |cons x l ih=>intro h;refine aa cS (aa cS (aa iI (aa iI ?_)));rw[kD,ih λi hi=>h i (.tail _ hi)];congr 1;have hx:=h x (.head _);rw[D7,<- u8];congr 2;have:x - a=(x - (a+1))+1:=OT hx;refine aa this ?_;rw[RQ,En]
  exact this _ λi hi=>(mT.mp hi).1
theorem xb {e1 e2:ab} {p:Pos} {a b:Bool} (h1:pT O n sc σ e1=some a) (h2:a=false->pT O n sc σ e2=some b):pT O (n+1) sc σ (.BoolOp .Or [e1,e2] p)=some (a||b):=by
 refine (?_:(match R9,pT O n sc σ e1 with|.And,some false=>some false|.Or,some true=>some true|_,some _=>(match R9,pT O n sc σ e2 with|.And,some false=>some false|.Or,some true=>some true|_,some _=>some false|_,none=>none)|_,none=>none)=_);refine aa h1 ?_
 induction a using d8 with
 |false=>refine aa (h2 rfl) ?_;induction b using d8<;>rfl
 |true=>rfl
noncomputable def brk (k:Int):List Nat:=fH k.toNat 41++fH (-k).toNat 40
theorem Pj {l:List Nat} {b:Nat} (hb:b<=l.length):eG (.str (S l)) none (some (b:Int)) none=some (.str (S (l.take b))):=by refine aH (BB hb) ?_;rfl
theorem AO {l:List Nat} {a:Nat} (ha:a<=l.length):eG (.str (S l)) (some (a:Int)) none none=some (.str (S (l.drop a))):=by refine aH (B7 ha) ?_;rfl
theorem KP {b:Int} {n:Nat} (h:(n:Int)<=b):Es none (some b) 1 n=Es none (some (n:Int)) 1 n:=by
 have e1:fg b (n:Int)=n:=Hm h;have e2:fg (n:Int) (n:Int)=n:=MG;have e3:¬ b<0:=FO h;have e4:¬ (n:Int)<0:=mB.mpr (c7 _);have e5:(1:Int)>0:=by decide
 simp only[Es,if_neg e3,if_neg e4,if_pos e5,e1,e2]
theorem zO {l:List Nat} {b:Nat}:eG (.str (S l)) none (some (b:Int)) none=some (.str (S (l.take b))):=by
 by_cases h:b<=l.length
 ·exact Pj h
 ·have e:ll (S l) none (some (b:Int))=ll (S l) none (some (l.length:Int)):=by unfold ll;rw[dA,KP (Jl h)]
  show some (PV.str (ll (S l) none (some (b:Int))))=_;rw[e,BB (bf _),n0,uU (Nat.le_of_not_le (by assumption))]
end
noncomputable def kW:Nat->List (List Nat)
 |0=>[[40]]
 |j+1=>(kW j).flatMap λr=>[r++[40],r++[41]]
noncomputable def cH (k:Nat):List (List Nat):=((kW (2*k - 2)).filter λr=>r.count 40==k).map (·++[41])
noncomputable def dB (r:List Nat):List Nat:=((cL r.length).filter λp=>r.getD p 0==41).map λp=>(r.take p).count 40 - 1
noncomputable def fF (k:Nat) (r:List Nat):Bool:=(cL k).all λp=>my p ((dB r).getD p 0)
noncomputable def aQ (k:Nat):List (List Nat):=((cH k).filter (fF k)).map dB
noncomputable def qQ (r:List Nat):List Sg2:=r.map λc=>.pl (.ch c)
noncomputable def xq (k:Nat) (r:List Nat):Bool:=r.length==2*k&&r.all (λc=>c==40||c==41)&&(jk (r.map .ch)==fF k r)&&(jk ((40::r).map .ch)==false)&&(dB r).length==k&&(dB r).all (λx=>iY x k)&&((cL r.length).all λp=> !(r.getD p 0==41)||iY 0 ((r.take p).count 40))
theorem PF:(cH 3).all (xq 3)=true:=by decide+kernel
theorem H1:(cH 4).all (xq 4)=true:=by decide+kernel
theorem y4 {k:Nat} (h:(aQ k).all (tB k)=true) (hl:∀f:Nat->Bool,f (k - 1)=false->((cL k).map λp=>p+if f p=true then 1 else 0)∈aQ k) {n:Nat}:oB n k (aQ k):=⟨h,hl⟩
theorem BC {n:Nat}:oB n 3 (aQ 3):=y4 (by decide+kernel) λf h=>by have e:((cL 3).map λp=>p+if f p=true then 1 else 0)=[0+if f 0=true then 1 else 0,1+if f 1=true then 1 else 0,2+if f 2=true then 1 else 0]:=rfl;rw[e,show f 2=false from h];exact (by decide+kernel:∀a b:Bool,[0+if a=true then 1 else 0,1+if b=true then 1 else 0,2+if false=true then 1 else 0]∈aQ 3) (f 0) (f 1)
theorem Iz {n:Nat}:oB n 4 (aQ 4):=y4 (by decide+kernel) λf h=>by have e:((cL 4).map λp=>p+if f p=true then 1 else 0)=[0+if f 0=true then 1 else 0,1+if f 1=true then 1 else 0,2+if f 2=true then 1 else 0,3+if f 3=true then 1 else 0]:=rfl;rw[e,show f 3=false from h];exact (by decide+kernel:∀a b c:Bool,[0+if a=true then 1 else 0,1+if b=true then 1 else 0,2+if c=true then 1 else 0,3+if false=true then 1 else 0]∈aQ 4) (f 0) (f 1) (f 2)
theorem wO:∀r:List Nat,dn (qQ r)=r.map .ch
 |[]=>rfl
 |c::r=>congrArg (It0.ch c:: ·) (wO r)
theorem w9:∀r:List Nat,tx (qQ r)=r
 |[]=>rfl
 |c::r=>congrArg (c:: ·) (w9 r)
noncomputable def i6 (m1 m2 at_:Nat) (r:List Nat):List Sg2:=qA m1++(qQ (r.take at_)++(qA m2++qQ (r.drop at_)))
theorem Bc {m1 m2 at_:Nat} (h1:m1<8) (h2:m2<8) (r:List Nat) (k:Int):dx k (dn (i6 m1 m2 at_ r))=dx k (r.map .ch):=by
 unfold i6;rw[we,we,we,mr,yQ m1 h1,Option.bind_some,mr,wO,wO];have e:r.map It0.ch=(r.take at_).map .ch++(r.drop at_).map .ch:=by rw[<- on,Sa]
 rw[e,mr];congr 1;funext q;rw[mr,yQ m2 h2];rfl
theorem KS {m1 m2 at_:Nat} (h1:m1<8) (h2:m2<8) (r:List Nat):jk (dn (.pl (.ch 40)::i6 m1 m2 at_ r))=jk ((40::r).map .ch):=by refine (?_:(match dx 1 (dn (i6 m1 m2 at_ r)) with|some k=>k==0|none=>false)=(match dx 1 (r.map .ch) with|some k=>k==0|none=>false));rw[Bc h1 h2]
noncomputable def gD (m1 m2 at_:Nat) (r:List Nat):List Nat:=ca m1++(r.take at_++(ca m2++r.drop at_))
theorem Fl (m1 m2 at_:Nat) (r:List Nat):tx (i6 m1 m2 at_ r)=gD m1 m2 at_ r:=by unfold i6 gD;rw[vV,vV,vV,w9,w9];rfl
theorem Am {w k:Nat}:∀T:List (List Nat),(∀s∈T,s.length=k)->bl w T.flatten=bl (k*w) (T.map (bl w))
 |[],_=>rfl
 |s::T,h=>by rw[nV,cS,sJ,Am T λs hs=>h s (.tail _ hs),h s (.head _)];rfl
noncomputable def fR:Scope:=(bD iq).scope
noncomputable def d6:List aL:=(bD iq).body
noncomputable abbrev cA:Str:=ag "size"
noncomputable abbrev rg:Str:=ag "hidden"
noncomputable abbrev ft:Str:=ag "at"
noncomputable abbrev ki:Str:=ag "width"
noncomputable abbrev qK:Str:=ag "rows"
noncomputable abbrev dh:Str:=ag "stairs"
noncomputable abbrev iN:Str:=ag "codes"
noncomputable abbrev fO:Str:=ag "turn"
noncomputable def uk (k:Nat) (hd at_ w:PV):Sg:=[(cA,.sh (.int k)),(rg,.sh hd),(ft,.sh at_),(ki,.sh w)]
noncomputable def sC (L:List (List Nat)):PV:=.list (L.map λr=>.str (S r))
noncomputable def oQ (i:Nat):aL:=d6.getD i (.Pass ⟨0,0,0,0⟩)
noncomputable def uj (k:Nat) (hd at_ w:PV):Sg:=uk k hd at_ w++[(qK,.own [.str (S [40])]),(dh,.own []),(iN,.own [])]
noncomputable def m6 (k:Nat) (hd at_ w:PV):Sg:=uk k hd at_ w++[(qK,.sh (sC (kW (2*k - 2)))),(dh,.own []),(iN,.own []),(fO,.sh (.int (2*k - 3:Nat)))]
section
variable {O:Orc} {hd at_ w:PV}
theorem GQ {k:Nat}:px O 59 fR (uk k hd at_ w) (oQ 0)=some (.nx (uj k hd at_ w)):=by kernel_rfl
theorem M4:px O 58 fR (uj 3 hd at_ w) (oQ 1)=some (.nx (m6 3 hd at_ w)):=by kernel_rfl
theorem Fx:px O 58 fR (uj 4 hd at_ w) (oQ 1)=some (.nx (m6 4 hd at_ w)):=by kernel_rfl
end
noncomputable def AW (sc:Scope):List Str:=(sc.names.filter λy=>y.2==.free).map (·.1)
noncomputable def bH:ab->Scope
 |.ListComp _ _ s _=>s
 |_=>fR
noncomputable def dq:ab->ab
 |.ListComp e _ _ _=>e
 |e=>e
noncomputable def cV:ab->c8
 |.ListComp _ (g::_) _ _=>g
 |e=>⟨e,e,[],0⟩
noncomputable def dk:ab->List c8
 |.ListComp _ (_::r) _ _=>r
 |_=>[]
noncomputable def JA:ab->Bool
 |.ListComp _ (_::_) _ _=>true
 |_=>false
theorem B9 {α β:Type} {f g:α->Option β}:∀{l:List α},(∀y∈l,f y=g y)->l.filterMap f=l.filterMap g
 |[],_=>rfl
 |a::l,h=>by rw[kv,kv,h a (.head _),B9 λy hy=>h y (.tail _ hy)]
section
variable {O:Orc} {n:Nat} {sc sc':Scope} {σ H:Sg}
theorem MF {fs:List Str} (hf:AW sc'=fs) (h:∀x∈fs,σ.lookup x=H.lookup x):cj sc' σ=cj sc' H:=by
 subst hf;unfold cj;refine B9 λy hy=>?_;obtain ⟨x,k⟩:=y;cases k with
 |free=>have:=h x (dG.mpr ⟨(x,.free),lp.mpr ⟨hy,rfl⟩,rfl⟩);dsimp only;rw[this]
 |_=>rfl
theorem mx {e:ab} {xs ys:List PV} (he:JA e=true) (hs:kh sc (bH e)=true) (hi:cr O n sc σ (dM (cV e).target) (cV e).iter=some xs) {fs:List Str} (hf:AW (bH e)=fs) (h:∀x∈fs,σ.lookup x=H.lookup x) (hg:bT O n (bH e) (cj (bH e) H) (dq e) (cV e) (dk e) xs=some ys) (hl:bt ys.length=true):pe O (n+1) sc σ e=some (.list ys):=by
 induction e using bE with
 |ListComp elt gens s p=>induction gens using aP with
  |nil=>exact aZ he
  |cons g gs=>exact gp hs hi ((MF hf h)▸hg) hl
 |_=>exact aZ he
theorem Hd {fp p:Pos} {e:ab} {x:Str} (hg:bS sc (ag "enumerate")=true) (h:pe O n sc σ e=some (.str x)):cr O (n+1) sc σ true (.Call (.Name (ag "enumerate") fp) [e] [] p)=some (du 0 (eK x)):=by refine aa mY (aa (if_pos hg) ?_);rw[aN h bC];dsimp only;rw[if_pos (show (ag "enumerate" ==ag "enumerate" &&true)=true by decide)]
theorem kL {α β:Type} {f g:α->β} {l:List α} (h:l.map f=l.map g):∀a∈l,f a=g a:=List.map_inj_left.mp h
noncomputable def cF:List aL:=(aU d6 2).2
noncomputable abbrev jI:Str:=ag "row"
noncomputable abbrev pA:Str:=ag "steps"
noncomputable abbrev oY:Str:=ag "good"
noncomputable abbrev po:Str:=ag "text"
theorem HT:(cH 3).map (λr=>bT O 53 (bH (ba cF 0)) (cj (bH (ba cF 0)) [(jI,.sh (.str (S r)))]) (dq (ba cF 0)) (cV (ba cF 0)) (dk (ba cF 0)) (du 0 (eK (S r))))=(cH 3).map λr=>some (ar (dB r)):=by kernel_rfl
theorem Ld:(cH 4).map (λr=>bT O 53 (bH (ba cF 0)) (cj (bH (ba cF 0)) [(jI,.sh (.str (S r)))]) (dq (ba cF 0)) (cV (ba cF 0)) (dk (ba cF 0)) (du 0 (eK (S r))))=(cH 4).map λr=>some (ar (dB r)):=by kernel_rfl
noncomputable def iV:ab->ab
 |.Compare l _ _ _=>l
 |e=>e
noncomputable def eQ (b:List aL) (i:Nat):ab:=match b[i]? with
 |some (.For _ e _ _ _)=>e
 |_=>.Constant .none 0 ⟨0,0,0,0⟩
noncomputable def lI (k:Nat) (r:List Nat):List PV:=((cL k).filter λp=>iY ((dB r).getD p 0) p).map λp=>.int ((dB r).getD p 0:Nat)
theorem Kc:(cH 3).map (λr=>bT O 50 (bH (iV (ba cF 1))) [] (dq (iV (ba cF 1))) (cV (iV (ba cF 1))) (dk (iV (ba cF 1))) (du 0 (ar (dB r))))=(cH 3).map λr=>some (lI 3 r):=by kernel_rfl
theorem KU:(cH 4).map (λr=>bT O 50 (bH (iV (ba cF 1))) [] (dq (iV (ba cF 1))) (cV (iV (ba cF 1))) (dk (iV (ba cF 1))) (du 0 (ar (dB r))))=(cH 4).map λr=>some (lI 4 r):=by kernel_rfl
theorem Jn:(cH 3).map (λr=>fE .Eq (.list (lI 3 r)) (.list []))=(cH 3).map λr=>some (fF 3 r):=by kernel_rfl
theorem Pb:(cH 4).map (λr=>fE .Eq (.list (lI 4 r)) (.list []))=(cH 4).map λr=>some (fF 4 r):=by kernel_rfl
theorem Js:bT O 54 (bH (eQ d6 2)) (cj (bH (eQ d6 2)) [(cA,.sh (.int 3))]) (dq (eQ d6 2)) (cV (eQ d6 2)) (dk (eQ d6 2)) ((kW 4).map λr=>.str (S r))=some ((cH 3).map λr=>.str (S r)):=by kernel_rfl
theorem J6:bT O 54 (bH (eQ d6 2)) (cj (bH (eQ d6 2)) [(cA,.sh (.int 4))]) (dq (eQ d6 2)) (cV (eQ d6 2)) (dk (eQ d6 2)) ((kW 6).map λr=>.str (S r))=some ((cH 4).map λr=>.str (S r)):=by kernel_rfl
structure Sz (k:Nat):Prop where
 ok:∀r∈cH k,xq k r=true
 st:∀O:Orc,∀r∈cH k,bT O 53 (bH (ba cF 0)) (cj (bH (ba cF 0)) [(jI,.sh (.str (S r)))]) (dq (ba cF 0)) (cV (ba cF 0)) (dk (ba cF 0)) (du 0 (eK (S r)))=some (ar (dB r))
 gd:∀O:Orc,∀r∈cH k,bT O 50 (bH (iV (ba cF 1))) [] (dq (iV (ba cF 1))) (cV (iV (ba cF 1))) (dk (iV (ba cF 1))) (du 0 (ar (dB r)))=some (lI k r)
 bd:∀r∈cH k,fE .Eq (.list (lI k r)) (.list [])=some (fF k r)
 pre:∀(O:Orc) (hd at_ w:PV),px O 58 fR (uj k hd at_ w) (oQ 1)=some (.nx (m6 k hd at_ w))
 fo:∀O:Orc,bT O 54 (bH (eQ d6 2)) (cj (bH (eQ d6 2)) [(cA,.sh (.int k))]) (dq (eQ d6 2)) (cV (eQ d6 2)) (dk (eQ d6 2)) ((kW (2*k - 2)).map λr=>.str (S r))=some ((cH k).map λr=>.str (S r))
 le:k<=4
 gt:3<=k
theorem Lw:Sz 3:=⟨c9.mp PF,λζ=>kL HT,λζ=>kL Kc,kL Jn,λζ ζ ζ ζ=>M4,λζ=>Js,by decide,by decide⟩
theorem Gs:Sz 4:=⟨c9.mp H1,λζ=>kL Ld,λζ=>kL KU,kL Pb,λζ ζ ζ ζ=>Fx,λζ=>J6,by decide,by decide⟩
theorem M5 {k:Nat} (Z:Sz k) {r:List Nat} (hr:r∈cH k) (h:σ.lookup jI=some (.sh (.str (S r)))):pe O 54 fR σ (ba cF 0)=some (.list (ar (dB r))):=
 mx (H:=[(jI,.sh (.str (S r)))]) rfl (by decide) (Hd (by decide) (aC (by decide) h)) (fs:=[jI]) (by decide) (λx hx=>by rw[cN.mp hx];exact h) (Z.st O r hr) (by
  refine dm (dm (dm (Z.ok r hr) λa _=>a) λa _=>a) λa b=>?_
  unfold ar;rw[bx,bh b]
  exact dg (al Z.le (by decide)))
theorem Pt {k:Nat} (Z:Sz k) {r:List Nat} (hr:r∈cH k) (h:σ.lookup pA=some (.sh (.list (ar (dB r))))):pe O 53 fR σ (ba cF 1)=some (.bool (fF k r)):=by refine br (n:=52) (a:=.list (lI k r)) (b:=.list []) (aB (h:=?_)) (aB (h:=rfl)) (Z.bd r hr);refine mx (H:=[]) rfl (by decide) (xg (by decide) (aC (by decide) h)) (fs:=[]) (by decide) (λx hx=>nomatch hx) (Z.gd O r hr) ?_;unfold lI;rw[bx];exact dg (al (vo _ _) (by rw[i4];exact al Z.le (by decide)))
theorem E2 {k:Nat} (Z:Sz k) (h1:σ.lookup qK=some (.sh (sC (kW (2*k - 2))))) (h2:σ.lookup cA=some (.sh (.int k))) {tt:Bool}:cr O 56 fR σ tt (eQ d6 2)=some ((cH k).map λr=>.str (S r)):=by
 refine g8 (d:=.list ((cH k).map λr=>.str (S r))) rfl ?_ rfl;refine mx (H:=[(cA,.sh (.int k))]) rfl (by decide) (g8 rfl (aC (by decide) h1) rfl) (fs:=[cA]) (by decide) (λx hx=>by rw[cN.mp hx];exact h2) (Z.fo O) ?_;rw[bx];rcases Ep k 4 with q|q
 ·have:k=3:=lH (jS q) Z.gt;subst this;decide+kernel
 ·have:k=4:=lH Z.le q;subst this;decide+kernel
end
theorem Cg:∀i,i<8->(ca i).length<=6:=by decide+kernel
noncomputable abbrev nB:Str:=ag "whole"
noncomputable def cc (s:List (List Nat)):List PV:=s.map λx=>.list (ar x)
noncomputable def bL (k a w m1 m2:Nat) (s:List (List Nat)):List (Str×Option Ent):=
 [(cA,some (.sh (.int k))),(rg,some (.sh (.tup [.str (S (ca m1)),.str (S (ca m2))]))),(ft,some (.sh (.int a))),(ki,some (.sh (.int w))),(dh,some (.own (cc s))),(iN,some (.own (ar (s.map (bl w))))),(nB,none)]
theorem cW.tail {σ:Sg} {x:Str} {e:Option Ent} {L:List (Str×Option Ent)} (h:cW σ ((x,e)::L)) (hx:L.lookup x=none):cW σ L:=λy q hq=>h y q (by
 rw[cM];cases hb:y==x with
 |true=>rw[bh hb] at hq;exact ac (hx.symm.trans hq)
 |false=>exact hq)
structure Ro (k:Nat) (r:List Nat):Prop where
 len:r.length=2*k
 ck:jk (r.map .ch)=fF k r
 ck1:jk ((40::r).map .ch)=false
 sl:(dB r).length=k
 sx:∀x∈dB r,x<k
theorem tH {k:Nat} (Z:Sz k) {r:List Nat} (hr:r∈cH k):Ro k r:=by refine dm (Z.ok r hr) λh _=>dm h λh h6=>dm h λh h5=>dm h λh h4=>dm h λh h3=>dm h λh1 ζ=>?_;exact⟨bh h1,bh h3,bh h4,bh h5,λx hx=>jt (c9.mp h6 x hx)⟩
theorem xM {k:Nat} (Z:Sz k) {r:List Nat} (hr:r∈cH k):r.length<=8:=(tH Z hr).len▸pE 2 Z.le
theorem wH (m1 m2 a:Nat) (r:List Nat):((ca m1++r.take a)++ca m2)++r.drop a=gD m1 m2 a r:=by unfold gD;rw[gP,gP]
theorem wP {m1 m2 a:Nat} {r:List Nat} (h1:m1<8) (h2:m2<8) (hr:r.length<=8):(ca m1).length+(r.take a).length<=14/\(ca m1++r.take a).length+(ca m2).length<=20/\((ca m1++r.take a)++ca m2).length+(r.drop a).length<=28:=by
 have a1:=Cg m1 h1;have a2:=Cg m2 h2;have a3:(r.take a).length<=8:=by rw[pV];exact al (Nat.min_le_right _ _) hr
 have a4:(r.drop a).length<=8:=by rw[fM];exact al (kt _ _) hr
 have b1:=gN a1 a3;have b2:(ca m1++r.take a).length+(ca m2).length<=20:=by rw[ci];exact gN b1 a2
 exact⟨b1,b2,by rw[ci];exact gN b2 a4⟩
section
variable {O:Orc} {n:Nat} {σ:Sg}
theorem GT {k a w m1 m2:Nat} {s:List (List Nat)} (Z:Sz k) (h1:m1<8) (h2:m2<8) (ha:a<=2*k) {r:List Nat} (hr:r∈cH k) (A:cW σ (bL k a w m1 m2 s)) (h:σ.lookup jI=some (.sh (.str (S r)))):pe O 52 fR σ (ba cF 2)=some (.str (S (gD m1 m2 a r))):=by
 have hl:=wP (a:=a) h1 h2 (xM Z hr);have hh:=A rg _ rfl;have hb: -2^62<(a:Int)/\(a:Int)<2^62:=⟨xY (by decide) (c7 a),lj (ej.mpr (al ha (pE 2 Z.le))) (by decide)⟩
 rw[<- wH];refine aR (a:=.str (S ((ca m1++r.take a)++ca m2))) (b:=.str (S (r.drop a)))
  (aR (a:=.str (S (ca m1++r.take a))) (b:=.str (S (ca m2)))
   (aR (a:=.str (S (ca m1))) (b:=.str (S (r.take a))) (gM (a:=.tup [.str (S (ca m1)),.str (S (ca m2))]) (k:=.int 0) (h1:=aD (by decide) (aF hh)) (h2:=bc) (ho:=dX hh) (h:=rfl))
    (jF (a:=.str (S r)) (l:=none) (h:=some ((a:Nat):Int)) (s:=none) (aC (by decide) h) ny (gY (aC (by decide) (A ft _ rfl)) hb) ny zO) (ja (al hl.1 (by decide))))
   (gM (a:=.tup [.str (S (ca m1)),.str (S (ca m2))]) (k:=.int 1) (h1:=aD (by decide) (aF hh)) (h2:=bc) (ho:=dX hh) (h:=rfl)) (ja (al hl.2.1 (by decide))))
  (jF (a:=.str (S r)) (l:=some ((a:Nat):Int)) (h:=none) (s:=none) (aC (by decide) h) (gY (aC (by decide) (A ft _ rfl)) hb) ny ny ?_) (ja (al hl.2.2 (by decide)))
 exact AO ((tH Z hr).len.symm▸ha)
theorem E0 {m1 m2 a k:Nat} (h1:m1<8) (h2:m2<8) (Z:Sz k) {r:List Nat} (hr:r∈cH k):bQ pw (O2 pw) eA [.str (S (gD m1 m2 a r))]=some (.bool (fF k r))/\bQ pw (O2 pw) eA [.str (S (40::gD m1 m2 a r))]=some (.bool false):=by
 have hl:(gD m1 m2 a r).length<=28:=by rw[<- wH,ci];exact (wP h1 h2 (xM Z hr)).2.2
 have hok:nn (i6 m1 m2 a r)=true:=by
  unfold i6;have hc:∀l:List Nat,l.all (λc=>c==40||c==41)=true->nn (qQ l)=true:=by
   intro l
   induction l with
   |nil=>exact λζ=>rfl
   |cons c l ih=>
    intro h;refine dm h λq h=>?_;refine jT.mpr ⟨?_,ih h⟩;rcases (vh _ _).mp q with q|q
    ·rw[bh q];rfl
    ·rw[bh q];rfl
  have hr2:r.all (λc=>c==40||c==41)=true:=dm (Z.ok r hr) λh _=>dm h λh _=>dm h λh _=>dm h λh _=>dm h λh _=>dm h λ_ h=>h;have hr3:=hr2;rw[<- Sa a r,vm] at hr3;refine dm hr3 λa1 a2=>?_;rw[vP,AZ m1 h1,vP,hc _ a1,vP,AZ m2 h2,hc _ a2];rfl
 have R:=tH Z hr;have e:=Fl m1 m2 a r;unfold tx at e;have v1:=CU (l:=i6 m1 m2 a r) hok (by rw[e];exact al hl (by decide));have e2:a8 (cu (.pl (.ch 40)::i6 m1 m2 a r))=40::gD m1 m2 a r:=congrArg (40:: ·) e;have v2:=CU (l:=.pl (.ch 40)::i6 m1 m2 a r) (by exact hok) (by rw[e2];exact al (yu hl) (by decide));rw[e] at v1;rw[e2,KS h1 h2,R.ck1] at v2;refine⟨v1.trans ?_,v2⟩;have:jk (dn (i6 m1 m2 a r))=jk (r.map .ch):=by unfold jk;rw[Bc h1 h2]
 rw[this,R.ck]
end
theorem Nu (l:List Nat):(ar l).all (cU 2)=true:=by unfold ar;rw[Sb];exact c9.mpr λζ ζ=>rfl
theorem B6 (s:List (List Nat)):fE .Eq (.list (cc s)) (.list [])=some s.isEmpty:=by
 have h1:(cc s).all (cU 3)=true:=by unfold cc;rw[Sb];exact c9.mpr λx ζ=>Nu x
 refine (?_:(if ((cc s).all (cU 3)&&([]:List PV).all (cU 3))=true then some (jN (cc s) []) else none)=_);rw[h1];cases s<;>rfl
theorem xD (F:List Nat):∀(l:List Nat) (k:Nat),(∀i,i<l.length->l.getD i 0=F.getD (k+i) 0)->du k (ar l)=(fm k l.length).map λp=>.tup [.int p,.int (F.getD p 0:Nat)]
 |[],_,_=>rfl
 |x::l,k,h=>by
  have h0:=h 0 (ve _);have ih:=xD F l (k+1) λi hi=>by have:=h (i+1) (Nat.succ_lt_succ hi);rw[show k+1+i=k+(i+1) by omega];exact this
  refine (?_:PV.tup [.int k,.int (x:Nat)]::du (k+1) (ar l)=_);rw[ih,pZ,Eo,cS];refine congrArg (·::_) ?_;have h0:x=F.getD k 0:=h0;rw[h0]
theorem A7 (l:List Nat):(fm 0 l.length).map (λi=>l.getD i 0)=l:=by rw[<- List.range_eq_range'];refine List.ext_getElem (by rw[bx,i4]) λi h1 h2=>?_;rw[List.getElem_map,List.getElem_range,ju,el h2];rfl
section
variable {O:Orc} {n:Nat} {σ:Sg}
noncomputable def JG (b:List aL):ab:=match b[0]? with
 |some (To (Tp _ (e::_) _ _) _)=>e
 |_=>.Constant .none 0 ⟨0,0,0,0⟩
noncomputable def IA (b:List aL) (i:Nat):List aL:=match b[i]? with
 |some (.If _ b _ _)=>b
 |_=>[]
theorem N4 {k w:Nat} {l:List Nat} (hw:w<=61) (hl:l.length<=4) (hx:∀x∈l,x<4) (h1:σ.lookup pA=some (.sh (.list (ar l)))) (h2:σ.lookup ki=some (.sh (.int w))):pe O 48 fR σ (JG (IA cF 4))=some (.int (bl w l:Nat)):=by
 have e:=w8 w (λi:Nat=>l.getD i 0) l.length 0;rw[A7] at e;refine gv (ds:=[.list ((((fm 0 l.length).map λi:Nat=>l.getD i 0*2^(w*(i - 0))).map λx:Nat=>(x:Int)).map .int)]) (by decide) (aN (aB (h:=?_)) bC) ((sH).trans ?_) (.inr rfl)
 ·rw[fj,fj];refine gp (xs:=(fm 0 l.length).map λp:Nat=>.tup [.int p,.int (l.getD p 0:Nat)]) (by decide) ?_ (ik (α:=Nat) (F:=λp:Nat=>.tup [.int p,.int (l.getD p 0:Nat)]) (G:=λi:Nat=>PV.int ((l.getD i 0*2^(w*(i - 0)):Nat):Int)) λp hp=>?_) ?_
  ·rw[<- xD l l 0 λi ζ=>by rw[e9]];exact xg (by decide) (aC (by decide) h1)
  ·have hp4:p<4:=b9 (by have:=(mT.mp hp).2;rwa [e9] at this) hl;refine az _ (sR (by decide) (by decide) (by decide) (eE (by decide) (by decide)) (eE (by decide) (by decide))) ?_;have hx4:l.getD p 0<4:=by
    rw[ju];cases q:l[p]? with
    |none=>decide
    |some x=>exact hx x (lG q)
   refine (aR (a:=.int (l.getD p 0:Nat)) (b:=.int ((2^(w*p):Nat):Int)) (aC (by decide) aM) (aR (a:=.int 2) (b:=.int ((w*p:Nat):Int)) bc (aR (a:=.int w) (b:=.int p) (aC (by decide) (au (by decide) (au (by decide) (eT (by decide) (by decide) h2)))) (aC (by decide) (au (by decide) aM)) ?_) (tA ?_)) ?_)
   ·rw[kK (.inl (al (hF (k:=6) (eN hw (by decide))) (by decide)))];rfl
   ·exact al (kE hw (dE hp4)) (by decide)
   ·rw[kK (.inl (al (hF (k:=2) hx4) (by decide)))];rfl
  ·rw[bx,Sc];exact dg (al hl (by decide))
 ·refine congrArg (λz=>some (PV.int z)) ?_;rw[e]
  induction (fm 0 l.length).map λi:Nat=>l.getD i 0*2^(w*(i - 0)) with
  |nil=>rfl
  |cons a r ih=>rw[cS,iI,iI,ih];rfl
end
section
variable {O:Orc} {n:Nat} {sc:Scope} {σ σ1:Sg} {P:Sg->Prop} {st:aL} {r:List aL}
theorem wI (h:px O n sc σ st=some (.nx σ1)) (hr:∃σ',aJ O n sc σ1 r=some (.nx σ')/\P σ'):∃σ',aJ O (n+1) sc σ (st::r)=some (.nx σ')/\P σ':=ah hr λσ' e p=>az σ' (aT h e) p
theorem JC {t:ab} {b:List aL} {p:Pos} (h:pT O (n+1) sc σ t=some false) (hr:∃σ',aJ O (n+2) sc σ r=some (.nx σ')/\P σ'):∃σ',aJ O (n+3) sc σ (.If t b [] p::r)=some (.nx σ')/\P σ':=ah hr λσ' e p=>az σ' (dW h a9 e) p
end
section
variable {O:Orc} {σ:Sg}
theorem Gr {k:Nat} {s:List (List Nat)} {x:List Nat} {g:Bool} (hO:∀as,O.fn eA as=bQ pw (O2 pw) eA as) (hx:x.length<=28) (e:bQ pw (O2 pw) eA [.str (S x)]=some (.bool g)/\bQ pw (O2 pw) eA [.str (S (40::x))]=some (.bool false)) (h1:σ.lookup po=some (.sh (.str (S x)))) (h2:σ.lookup oY=some (.sh (.bool g))) (h3:σ.lookup dh=some (.own (cc s))):pT O 51 fR σ (ba cF 3)=some false:=by have e1:=(hO _).trans e.1;have e2:=(hO _).trans e.2;refine xb (n:=50) (a:=false) (b:=false) (bA (d:=.bool false) (h:=aB (h:=br (a:=.bool g) (b:=.bool g) (aB (h:=gv (ds:=[.str (S x)]) (by decide) (aN (aD (by decide) (aF h1)) bC) e1 (.inr rfl))) (aD (by decide) (aF h2)) (by cases g<;>rfl))) (ht:=rfl)) λζ=>?_;refine (BA (n:=49) (a:=s.isEmpty) (b:=false) (bA (d:=.bool s.isEmpty) (h:=aB (h:=br (a:=.list (cc s)) (b:=.list []) (aD (by decide) (qG h3)) (aB (h:=rfl)) (B6 s))) (ht:=rfl)) ?_).trans (congrArg some (Sd _));refine bA (d:=.bool false) (h:=aB (h:=br (a:=.bool false) (b:=.bool false) (aB (h:=gv (ds:=[.str (S (40::x))]) (by decide) (aN (aB (h:=aR (a:=.str (S [40])) (b:=.str (S x)) (fU rfl) (aC (by decide) h1) (ja (al (fh hx 1) (by decide))))) bC) e2 (.inr rfl))) (aB (h:=kS)) rfl)) (ht:=rfl)
theorem Oy {k a w m1 m2:Nat} {s:List (List Nat)} (Z:Sz k) (h1:m1<8) (h2:m2<8) (ha:a<=2*k) (hw:w<=61) (hO:∀as,O.fn eA as=bQ pw (O2 pw) eA as) (hs:s.length<=64) {r:List Nat} (hr:r∈cH k) (A:cW σ (bL k a w m1 m2 s)):∃σ',b8 O 56 fR (aU d6 2).1 cF σ (.str (S r))=some (.nx σ')/\cW σ' (bL k a w m1 m2 (if fF k r=true then s++[dB r] else s)):=by
 have R:=tH Z hr;refine (?_:∃σ',aJ O 56 fR (put σ jI (.sh (.str (S r)))) cF=some (.nx σ')/\_);replace A:=(A.put (x:=jI) (e:=.sh (.str (S r)))).tail rfl;have g:=aM (σ:=σ) (x:=jI) (e:=.sh (.str (S r)));revert A g;refine aX (put σ jI (.sh (.str (S r)))) λσ A g=>?_;refine wI (bM (d:=.list (ar (dB r))) (by decide) (h:=M5 Z hr g) (hs:=λζ ζ=>rfl)) ?_;replace A:=(A.put (x:=pA) (e:=.sh (.list (ar (dB r))))).tail rfl;replace g:=au (x:=pA) (e:=.sh (.list (ar (dB r)))) (by decide) g;have g1:=aM (σ:=σ) (x:=pA) (e:=.sh (.list (ar (dB r))));revert A g g1;refine aX (put σ pA (.sh (.list (ar (dB r))))) λσ A g g1=>?_;refine wI (bM (d:=.bool (fF k r)) (by decide) (h:=Pt Z hr g1) (hs:=λζ z=>nomatch z)) ?_;replace A:=(A.put (x:=oY) (e:=.sh (.bool (fF k r)))).tail rfl;replace g:=au (x:=oY) (e:=.sh (.bool (fF k r))) (by decide) g;replace g1:=au (x:=oY) (e:=.sh (.bool (fF k r))) (by decide) g1;have g2:=aM (σ:=σ) (x:=oY) (e:=.sh (.bool (fF k r)));revert A g g1 g2;refine aX (put σ oY (.sh (.bool (fF k r)))) λσ A g g1 g2=>?_;refine wI (bM (d:=.str (S (gD m1 m2 a r))) (by decide) (h:=GT Z h1 h2 ha hr A g) (hs:=λζ z=>nomatch z)) ?_;replace A:=(A.put (x:=po) (e:=.sh (.str (S (gD m1 m2 a r))))).tail rfl;replace g1:=au (x:=po) (e:=.sh (.str (S (gD m1 m2 a r)))) (by decide) g1;replace g2:=au (x:=po) (e:=.sh (.str (S (gD m1 m2 a r)))) (by decide) g2;have g3:=aM (σ:=σ) (x:=po) (e:=.sh (.str (S (gD m1 m2 a r))));clear g;revert A g1 g2 g3;refine aX (put σ po (.sh (.str (S (gD m1 m2 a r))))) λσ A g1 g2 g3=>?_;have hl:(gD m1 m2 a r).length<=28:=by rw[<- wH,ci];exact (wP h1 h2 (xM Z hr)).2.2
 refine JC (n:=50) (Gr (k:=k) hO hl (E0 h1 h2 Z hr) g3 g2 (A dh _ rfl)) ?_;cases hg:fF k r with
 |false=>rw[hg] at g2;exact az σ (dW (bA (d:=.bool false) (h:=aD (by decide) (aF g2)) (ht:=rfl)) a9 a9) A
 |true=>
  rw[hg] at g2;have hc:=N4 (O:=O) (k:=k) hw (R.sl.symm▸Z.le) (λx hx=>b9 (R.sx x hx) Z.le) g1 (A ki _ rfl);have A1:=A.put (x:=iN) (e:=.own (ar (s.map (bl w))++[.int (bl w (dB r):Nat)]));have A2:=A1.put (x:=dh) (e:=.own (cc s++[.list (ar (dB r))]));refine az _ (ig (bA (d:=.bool true) (h:=aD (by decide) (aF g2)) (ht:=rfl)) (aT (qJ (by decide) rfl (oU (A iN _ rfl)) hc ?_) (aT (qJ (by decide) rfl (oU (A1 dh _ rfl)) (aC (by decide) (au (by decide) g1)) ?_) a9)) a9) ?_
  ·unfold ar;rw[bx,bx];exact dg (al (yu hs) (by decide))
  ·unfold cc;rw[bx];exact dg (al (yu hs) (by decide))
  ·rw[if_pos rfl];intro y q hq;have e1:cc (s++[dB r])=cc s++[.list (ar (dB r))]:=by unfold cc;rw[on];rfl
   have e2:ar ((s++[dB r]).map (bl w))=ar (s.map (bl w))++[.int (bl w (dB r):Nat)]:=by unfold ar;rw[on,on];rfl
   refine A2 y q ?_;unfold bL at hq ⊢;rw[e1,e2] at hq;simp only[cM] at hq ⊢;cases b1:y==dh with
   |true=>rw[bh b1] at hq;exact hq
   |false=>
    rw[b1] at hq;cases b2:y==iN with
    |true=>rw[bh b2] at hq;exact hq
    |false=>rw[b2] at hq;exact hq
end
open PySem.StrLaws
section
variable {O:Orc} {n:Nat} {sc sc':Scope} {σ σ':Sg} {o:Option Out} {r:List aL} {L:List (Str×Option Ent)}
theorem Cn:∀l m:List Nat,jN (ar l) (ar m)=(l==m)
 |[],[]=>rfl
 |[],b::m=>rfl
 |a::l,[]=>rfl
 |a::l,b::m=>by
  have ih:=Cn l m;show (((a:Int)==(b:Int))&&jN (ar l) (ar m))=_;refine aa ih ?_;show _=(a==b&&l==m)
  congr 1
  by_cases h:a=b
  ·subst h;simp
  ·have h2:¬ (a:Int)=(b:Int):=vx h;exact aa (beq_eq_false_iff_ne.mpr h) (aa (beq_eq_false_iff_ne.mpr h2) rfl)
theorem BY (l:List Nat):(ar l).all (cU 3)=true:=by rw[c9];intro x hx;refine ah (dG.mp hx) λk ζ e2_=>?_;subst e2_;rfl
theorem Bx {l m:List Nat}:fE .NotEq (.list (ar l)) (.list (ar m))=some (!(l==m)):=by show (if (ar l).all (cU 3)&&(ar m).all (cU 3) then some (jN (ar l) (ar m)) else none).map (λb:Bool=> !b)=_;rw[BY,BY,Cn];rfl
theorem xj {a b:Nat}:fE .NotEq (.int (a:Nat)) (.int (b:Nat))=some (!(a==b)):=by
 show (some ((a:Int)==(b:Int))).map (λb:Bool=> !b)=_
 by_cases h:a=b
 ·subst h;simp
 ·have h2:¬ (a:Int)=(b:Int):=vx h;refine aa (beq_eq_false_iff_ne.mpr h) (aa (beq_eq_false_iff_ne.mpr h2) ?_);rfl
end
section
variable {O:Orc} {n:Nat} {sc:Scope} {σ:Sg}
theorem zA {k a w m1 m2:Nat} (Z:Sz k) (h1:m1<8) (h2:m2<8) (ha:a<=2*k) (hw:w<=61) (hO:∀as,O.fn eA as=bQ pw (O2 pw) eA as):∀(L s:List (List Nat)) (σ:Sg),(∀r∈L,r∈cH k)->s.length+L.length<=64->cW σ (bL k a w m1 m2 s)->∃σ',bU (b8 O 56 fR (aU d6 2).1 cF) (L.map λr=>.str (S r)) σ=some (.nx σ')/\cW σ' (bL k a w m1 m2 (s++(L.filter (fF k)).map dB))
 |[],s,σ,_,_,A=>az σ rfl ((jw s).symm▸A)
 |r::L,s,σ,hL,hl,A=>by
  have hl2:s.length+(L.length+1)<=64:=hl;refine ah (Oy Z h1 h2 ha hw hO (al (fI _ _) hl) (hL r (.head _)) A) λσ1 e1 A1=>?_;refine ah (zA Z h1 h2 ha hw hO L _ σ1 (λr hr=>hL r (.tail _ hr)) ?_ A1) λσ' e2 A2=>?_
  ·cases fF k r with
   |true=>rw[if_pos rfl,ci];exact (mA s.length 1 L.length).symm▸(iW 1 L.length).symm▸hl2
   |false=>exact al (fh (mD _) _) hl2
  ·refine az σ' (gR e1 e2) ?_;rw[pH];cases hg:fF k r with
   |true=>rw[hg,if_pos rfl,gP] at A2;rw[if_pos rfl];exact A2
   |false=>rw[hg] at A2;exact A2
theorem KQ {f:Str} {fp p:Pos} {e:ab} (h:pa O n sc σ e=none):pe O (n+1) sc σ (.Call (.Name f fp) [e] [] p)=none:=by
 refine aa wi ?_;have:aY (pa O n sc σ) [e]=none:=by rw[xd,h]
 rw[this];cases bS sc f<;>rfl
theorem Ao {elt:ab} {g:c8} {gs:List c8} {s:Scope} {p:Pos} (h:cr O n sc σ (dM g.target) g.iter=none):pe O (n+1) sc σ (.ListComp elt (g::gs) s p)=none:=by refine aa uz (aa h ?_);cases kh sc s<;>rfl
theorem GR {f:Str} {fp p:Pos} {e:ab} {tt:Bool} (h:pe O n sc σ e=none):cr O (n+1) sc σ tt (.Call (.Name f fp) [e] [] p)=none:=by
 refine aa mY ?_;have:aY (pe O n sc σ) [e]=none:=by rw[xd,h]
 rw[this];cases bS sc f<;>rfl
theorem zP {x:Str} {q:Pos} {xs:List PV} (hv:bj sc x=true) (h:σ.lookup x=some (.own xs)):pe O (n+1) sc σ (.Name x q)=none:=by refine aa rA (aa (if_pos hv) ?_);unfold gS;rw[h]
theorem OF {k a w m1 m2:Nat} {s:List (List Nat)} (A:cW σ (bL k a w m1 m2 s)):pe O 55 fR σ (ba d6 3)=none:=
 KQ (Jj (h:=Ao (GR (zP (by decide) (A iN _ rfl)))))
theorem FS {k w:Nat} {l:List Nat} (hk:k<=4) (hw:w<=61) (hl:l.length<=14) (hx:∀x∈l,x<2^244) (h0:σ.lookup cA=some (.sh (.int k))) (h1:σ.lookup iN=some (.sh (.list (ar l)))) (h2:σ.lookup ki=some (.sh (.int w))):pe O 55 fR σ (ba d6 3)=some (.int (bl (k*w) l:Nat)):=by
 have e:=w8 (k*w) (λi=>l.getD i 0) l.length 0;rw[A7] at e;have hkw:k*w<=244:=kE hk hw;refine gv (ds:=[.list ((((fm 0 l.length).map λi:Nat=>l.getD i 0*2^(k*w*(i - 0))).map λx:Nat=>(x:Int)).map .int)]) (by decide) (aN (aB (h:=?_)) bC) ((sH).trans ?_) (.inr rfl)
 ·rw[fj,fj];refine gp (xs:=(fm 0 l.length).map λp:Nat=>.tup [.int p,.int (l.getD p 0:Nat)]) (by decide) ?_ (ik (α:=Nat) (F:=λp:Nat=>.tup [.int p,.int (l.getD p 0:Nat)]) (G:=λi:Nat=>PV.int ((l.getD i 0*2^(k*w*(i - 0)):Nat):Int)) λp hp=>?_) ?_
  ·rw[<- xD l l 0 λi ζ=>by rw[e9]];exact xg (by decide) (aC (by decide) h1)
  ·have hp4:p<14:=b9 (by have:=(mT.mp hp).2;rwa [e9] at this) hl;have hq:k*w*p<=3416:=kE hkw (dE hp4);refine az _ (sR (by decide) (by decide) (by decide) (eE (by decide) (by decide)) (eE (by decide) (by decide))) ?_;have hx4:l.getD p 0<2^244:=by
    rw[ju];cases q:l[p]? with
    |none=>decide
    |some x=>exact hx x (lG q)
   refine (aR (a:=.int (l.getD p 0:Nat)) (b:=.int ((2^(k*w*p):Nat):Int)) (aC (by decide) aM) (aR (a:=.int 2) (b:=.int ((k*w*p:Nat):Int)) bc (aR (a:=.int (k*w:Nat)) (b:=.int p) (aR (a:=.int k) (b:=.int w) (aC (by decide) (au (by decide) (au (by decide) (eT (by decide) (by decide) h0)))) (aC (by decide) (au (by decide) (au (by decide) (eT (by decide) (by decide) h2)))) ?_) (aC (by decide) (au (by decide) aM)) ?_) (tA ?_)) ?_)
   ·rw[kK (.inl (al (hF (k:=3) (eN hk (by decide))) (by decide)))];rfl
   ·rw[kK (.inl (al (hF (k:=8) (eN hkw (by decide))) (by decide)))];rfl
   ·exact al hq (by decide)
   ·rw[kK (.inr (al (gN (hF (k:=244) hx4) (hF (k:=3417) (Se (by decide) (Nat.lt_succ_of_le hq)))) (by decide)))];rfl
  ·rw[bx,Sc];exact dg (al hl (by decide))
 ·refine congrArg (λz=>some (PV.int z)) ?_;rw[e]
  induction (fm 0 l.length).map λi:Nat=>l.getD i 0*2^(k*w*(i - 0)) with
  |nil=>rfl
  |cons a r ih=>rw[cS,iI,iI,ih];rfl
end
noncomputable def Ph (e:ab) (i:Nat):ab:=match e with
 |.BoolOp _ es _=>es.getD i e
 |e=>e
noncomputable def Ff (e:ab) (i:Nat):ab:=match e with
 |.Call _ as _ _=>as.getD i e
 |e=>e
noncomputable def jd:ab:=Ff (iV (Ph (ba d6 4) 0)) 0
theorem JO {O:Orc}:bT O 46 (bH jd) [] (dq jd) (cV jd) (dk jd) (cc (aQ 3))=some (ar (aQ 3).flatten):=by kernel_rfl
theorem Lr {O:Orc}:bT O 46 (bH jd) [] (dq jd) (cV jd) (dk jd) (cc (aQ 4))=some (ar (aQ 4).flatten):=by kernel_rfl
structure Sf (k:Nat):Prop where
 z:Sz k
 fl:∀O:Orc,bT O 46 (bH jd) [] (dq jd) (cV jd) (dk jd) (cc (aQ k))=some (ar (aQ k).flatten)
 ln:(aQ k).length<=14
 fn:(aQ k).flatten.length<=56
 last:∃i s,aQ k=i++[s]/\s.any (λx=>iY 0 x)=true
 ok:(aQ k).all (tB k)=true
 rl:(cH k).length<=64
theorem AD:Sf 3:=⟨Lw,λζ=>JO,by decide+kernel,by decide+kernel,⟨(aQ 3).dropLast,(aQ 3).getLastD [],by decide+kernel,by decide+kernel⟩,by decide+kernel,by decide+kernel⟩
theorem Kd:Sf 4:=⟨Gs,λζ=>Lr,by decide+kernel,by decide+kernel,⟨(aQ 4).dropLast,(aQ 4).getLastD [],by decide+kernel,by decide+kernel⟩,by decide+kernel,by decide+kernel⟩
theorem zS {w:Nat}:∀{l:List Nat},l.any (λx=>iY 0 x)=true->bl w l≠0
 |[],h=>λζ=>aZ h
 |x::l,h=>λe=>by
  have e:x+bl w l*2^w=0:=e;rcases (vh _ _).mp h with q|q
  ·exact absurd (Nat.eq_zero_of_add_eq_zero_right e) (kA (jt q))
  ·exact zS q ((Nat.mul_eq_zero.mp (Nat.eq_zero_of_add_eq_zero_left e)).resolve_right (kA (u9 w)))
section
variable {k w:Nat}
theorem sT (Z:Sf k) (hw:2<=w):∀s∈aQ k,s.length=k/\∀x∈s,x<2^w:=λs hs=>by
 refine dm (c9.mp Z.ok s hs) λh1 h2=>?_;have h1:=bh h1;refine⟨h1,λx hx=>?_⟩;obtain ⟨i,hi,e⟩:=Sh hx;refine mh (c9.mp h2 i (hU.mpr (h1▸hi))) λζ b ζ=>?_;have e2:s.getD i 0=x:=by rw[ju,el hi,e];rfl
 rw[e2] at b;exact b9 (jt b) (al Z.z.le (yB (n:=2) (by decide) hw))
theorem zb (Z:Sf k) (hw:2<=w):Dg (k*w) ((aQ k).map (bl w)):=by
 refine⟨λd hd=>?_,.inr ?_⟩
 ·refine ah (dG.mp hd) λs hs e=>?_;have:=sT Z hw s hs;rw[<- e,<- this.1];exact qY w s this.2
 ·obtain ⟨i,s,e,h⟩:=Z.last;exact⟨i.map (bl w),bl w s,by rw[e,on];rfl,zS h⟩
variable {O:Orc} {σ:Sg}
theorem GZ (Z:Sf k) (hw:2<=w/\w<=61) (hO1:∀as,O.fn cX as=kT as) (hO2:∀as,O.fn cZ as=kI as) (h0:σ.lookup cA=some (.sh (.int k))) (h1:σ.lookup iN=some (.sh (.list (ar ((aQ k).map (bl w)))))) (h2:σ.lookup ki=some (.sh (.int w))) (h3:σ.lookup dh=some (.sh (.list (cc (aQ k))))) (h4:σ.lookup nB=some (.sh (.int (bl (k*w) ((aQ k).map (bl w)):Nat)))):pT O 54 fR σ (ba d6 4)=some false:=by
 have hkw:k*w<=244:=kE Z.z.le hw.2;have hk1:1<=k*w:=Nat.mul_pos (b9 (by decide:0<3) Z.z.gt) (b9 (by decide:0<2) hw.1);have hf:=Am (w:=w) (aQ k) λs hs=>(sT Z hw.1 s hs).1;have hd:∀d∈(aQ k).flatten,d<2^w:=λd hd=>by obtain ⟨s,hs,hd⟩:=List.mem_flatten.mp hd;exact (sT Z hw.1 s hs).2 d hd
 have e1:=(hO1 [.int (bl (k*w) ((aQ k).map (bl w)):Nat),.int (k*w:Nat)]).trans (H5 ⟨hk1,al hkw (by decide)⟩ (zb Z hw.1) (by rw[bx];exact al Z.ln (by decide)));have e2:=(hO2 [.list (ar (aQ k).flatten),.int (w:Nat)]).trans (NT (al hw.2 (by decide)) hd (al Z.fn (by decide)));rw[hf] at e2;have hfl:=Z.fl O;have hln:=Z.fn;have hle:=Z.z.le;clear hf hd Z;revert h1 h4 e1 e2;refine aX (bl (k*w) ((aQ k).map (bl w))) λN=>aX ((aQ k).map (bl w)) λC h1 h4 e1 e2=>?_;refine xb (n:=53) (a:=false) (b:=false) (bA (d:=.bool false) (h:=aB (h:=br (a:=.int (N:Nat)) (b:=.int (N:Nat)) (aB (h:=gv (ds:=[.list (ar (aQ k).flatten),.int (w:Nat)]) (by decide) (aN (aB (h:=?_)) (aN (aD (by decide) (aF h2)) bC)) e2 (.inr rfl))) (aD (by decide) (aF h4)) (xj.trans (by rw[beq_self_eq_true];rfl)))) (ht:=rfl)) λζ=>?_
 ·exact mx (H:=[]) rfl (by decide) (g8 rfl (aC (by decide) h3) rfl) (fs:=[]) (by decide) (λx hx=>nomatch hx) hfl (by unfold ar;rw[bx];exact dg (al hln (by decide)))
 ·refine bA (d:=.bool false) (h:=aB (h:=br (a:=.list (ar C)) (b:=.list (ar C)) (aB (h:=gv (ds:=[.int (N:Nat),.int (k*w:Nat)]) (by decide) (aN (aD (by decide) (aF h4)) (aN (aB (h:=aR (a:=.int k) (b:=.int w) (aC (by decide) h0) (aC (by decide) h2) ?_)) bC)) e1 (.inl ?_))) (aD (by decide) (aF h1)) (Bx.trans (by rw[beq_self_eq_true];rfl)))) (ht:=rfl)
  ·rw[kK (.inl (al (hF (k:=3) (eN hle (by decide))) (by decide)))];rfl
  ·refine aa pO (aa pO (aa (dX h4) ?_));rfl
theorem JT {p:Program} {a m1 m2:Nat} (Z:Sf k) (h1:m1<8) (h2:m2<8) (ha:a<=2*k) (hw:2<=w/\w<=61) (hO:∀as,O.fn eA as=bQ pw (O2 pw) eA as) (hO1:∀as,O.fn cX as=kT as) (hO2:∀as,O.fn cZ as=kI as):bQ pw O iq [.int k,.tup [.str (S (ca m1)),.str (S (ca m2))],.int a,.int w]=some (.list (cc (aQ k))):=by
 refine lX (d:=bD iq) rfl rfl ?_;refine (?_:aJ O 60 fR (uk k (.tup [.str (S (ca m1)),.str (S (ca m2))]) (.int a) (.int w)) d6=_);refine aT (st:=oQ 0) GQ (aT (st:=oQ 1) (Z.z.pre O _ _ _) ?_);have A:cW (m6 k (.tup [.str (S (ca m1)),.str (S (ca m2))]) (.int a) (.int w)) (bL k a w m1 m2 []):=by
  intro y q hq;have e:m6 k (.tup [.str (S (ca m1)),.str (S (ca m2))]) (.int a) (.int w)=[(cA,.sh (.int k)),(rg,.sh (.tup [.str (S (ca m1)),.str (S (ca m2))])),(ft,.sh (.int a)),(ki,.sh (.int w)),(qK,.sh (sC (kW (2*k - 2)))),(dh,.own []),(iN,.own []),(fO,.sh (.int (2*k - 3:Nat)))]:=rfl;rw[e];unfold bL at hq;simp only[cM,List.lookup_nil] at hq ⊢;cases b1:y==cA with
  |true=>rw[b1] at hq;exact aj hq
  |false=>
  cases b2:y==rg with
  |true=>rw[b1,b2] at hq;exact aj hq
  |false=>
  cases b3:y==ft with
  |true=>rw[b1,b2,b3] at hq;exact aj hq
  |false=>
  cases b4:y==ki with
  |true=>rw[b1,b2,b3,b4] at hq;exact aj hq
  |false=>
  cases b5:y==dh with
  |true=>rw[b1,b2,b3,b4,b5] at hq;have z:=bh b5;subst z;exact aj hq
  |false=>
  cases b6:y==iN with
  |true=>rw[b1,b2,b3,b4,b5,b6] at hq;have z:=bh b6;subst z;exact aj hq
  |false=>
  cases b7:y==nB with
  |true=>rw[b1,b2,b3,b4,b5,b6,b7] at hq;have z:=bh b7;subst z;exact aj hq
  |false=>rw[b1,b2,b3,b4,b5,b6,b7] at hq;exact ac hq
 have hr:(m6 k (.tup [.str (S (ca m1)),.str (S (ca m2))]) (.int a) (.int w)).lookup qK=some (.sh (sC (kW (2*k - 2)))):=rfl;revert A hr;refine aX (m6 k (.tup [.str (S (ca m1)),.str (S (ca m2))]) (.int a) (.int w)) λσ A hr=>?_;refine ah (zA Z.z h1 h2 ha hw.2 hO (cH k) [] σ (λr hr=>hr) (by rw[vj,e9];exact Z.rl) A) λσ1 e1 A1=>?_;refine aT (lO (E2 Z.z hr (A cA _ rfl)) e1 a9) ?_;replace A1:cW σ1 (bL k a w m1 m2 (aQ k)):=A1;have U:=A1.unown;have hw1:=FS (O:=O) (l:=(aQ k).map (bl w)) Z.z.le hw.2 (by rw[bx];exact Z.ln) (λx hx=>b9 ((zb Z hw.1).1 x hx) (yB (by decide) (kE Z.z.le hw.2))) (U cA _ rfl) (U iN _ rfl) (U ki _ rfl);refine Nf (Cc (h:=OF A1)) (FQ (x:=nB) (A1 nB _ rfl)) (bM (d:=.int (bl (k*w) ((aQ k).map (bl w)):Nat)) (by decide) (h:=hw1) (hs:=λζ z=>nomatch z)) ?_;have B:=U.put (x:=nB) (e:=.sh (.int (bl (k*w) ((aQ k).map (bl w)):Nat)));refine dW (GZ Z hw hO1 hO2 (B cA _ rfl) (B iN _ rfl) (B ki _ rfl) (B dh _ rfl) (B nB _ rfl)) a9 ?_;exact iw (aC (by decide) (B dh _ rfl))
end
noncomputable abbrev qV:Str:=ag "script"
noncomputable abbrev dy:Str:=ag "sums"
noncomputable def uB:List Nat:=[0,67,8,253,17,7,5,2]
noncomputable def fB (z:Nat->Nat):PV:=.list ((cL 8).map λi=>.int ((z i:Nat):Int))
section
variable {O:Orc} {σ σ':Sg}
theorem AC (x:Int):∃k:Nat,k<1000000000/\jq x 1000000000=(k:Int):=by have h1:=Int.fmod_nonneg_of_pos x (show (0:Int)<1000000000 by decide);have h2:=Int.fmod_lt_of_pos x (show (0:Int)<1000000000 by decide);exact az ((jq x 1000000000).toNat) (by lia) (JS h1)
theorem Hr (ns:List Int) (b:Int×Int×Int):vG (ns.map .int) b=((mF b.1 b.2.1 b.2.2).filterMap (ns[·]?)).map .int:=by unfold vG;refine aa List.map_filterMap ?_;congr 1;funext k;exact aa iG rfl
theorem NE {ns:List Int} (h1:σ.lookup qV=some (.sh (.list (ns.map .int)))) (hn:ns.length<=63):∃z:Nat->Nat,(∀i,z i<1000000000)/\pe O 58 bg σ (ba aW 0)=some (fB z):=by
 let ms:Nat->List Int:=λi=>(mF (hJ (some (i:Int)) (some 60) (some 8) ns.length).1 (hJ (some (i:Int)) (some 60) (some 8) ns.length).2.1 (hJ (some (i:Int)) (some 60) (some 8) ns.length).2.2).filterMap (ns[·]?)
 let su:Nat->Int:=λi=>((uB.getD i 0:Nat):Int)+((ms i).map λm=>jq m 1000000000).sum
 refine az (λi=>(jq (su i) 1000000000).toNat) (λi=>?_) ?_
 ·refine ah (AC (su i)) λk hk e=>?_;show (jq (su i) 1000000000).toNat<_;refine aa e ?_;rw[gb];exact hk
 ·refine gp (xs:=(cL 8).map λi=>.tup [.int (i:Nat),.int ((uB.getD i 0:Nat):Int)]) (by decide) (by rfl)
   (ik (F:=λi=>.tup [.int (i:Nat),.int ((uB.getD i 0:Nat):Int)]) (G:=λi=>.int ((((jq (su i) 1000000000).toNat:Nat)):Int)) λi hi=>?_) rfl
  have hi:=hU.mp hi;refine az _ (sR (by decide) (by decide) (by decide) (eE (by decide) (by decide)) (eE (by decide) (by decide))) ?_;refine aR (a:=.int (su i)) (b:=.int 1000000000) (aR (a:=.int ((uB.getD i 0:Nat):Int)) (b:=.int ((ms i).map λm=>jq m 1000000000).sum) (aC (by decide) (aM)) ?_ rfl) (by rfl) ?_
  ·refine gv (ds:=[.list ((ms i).map λm=>.int (jq m 1000000000))]) (by decide) (aN (aB (h:=?_)) bC) (by
    have:=sH (O:=O) (l:=(ms i).map λm=>jq m 1000000000);replace this:=fj▸this
    exact this) (.inl rfl)
   refine gp (xs:=(ms i).map .int) (by decide) (g8 (d:=.list ((ms i).map .int)) rfl (jF (a:=.list (ns.map .int)) (l:=some (i:Int)) (aC (by decide) ?_) (gY (aC (by decide) ?_) ?_) (gY bc (by decide)) (gY bc (by decide)) ((GX rfl).trans ?_)) rfl)
    (ik (F:=.int) (G:=λm=>.int (jq m 1000000000)) λm hm=>?_) ?_
   ·refine au (by decide) ?_;refine au (by decide) ?_;exact eT (by decide) (by decide) h1
   ·refine au (by decide) ?_;exact aM
   ·lia
   ·rw[Hr,bx]
   ·refine az _ (gJ (by decide) (eE (by decide) (by decide))) ?_;exact aR (a:=.int m) (b:=.int 1000000000) (aC (by decide) (aM)) (by rfl) rfl
   ·rw[bx];refine R8.mpr ?_;have h1:(ms i).length<=(mF (hJ (some (i:Int)) (some 60) (some 8) ns.length).1 (hJ (some (i:Int)) (some 60) (some 8) ns.length).2.1 (hJ (some (i:Int)) (some 60) (some 8) ns.length).2.2).length:=List.length_filterMap_le _ _;have h2:(mF (hJ (some (i:Int)) (some 60) (some 8) ns.length).1 (hJ (some (i:Int)) (some 60) (some 8) ns.length).2.1 (hJ (some (i:Int)) (some 60) (some 8) ns.length).2.2).length<=100:=by refine al (sliceRange_length_le _ _ _ ns.length (λζ=>?_) λh=>absurd (show (8:Int)>0 by decide) h) (al hn (by decide));exact⟨Qh _ _,Int.max_le.mpr ⟨c7 _,Int.min_le_right _ _⟩⟩
    exact al (al (by assumption) (by assumption)) (by decide)
  ·refine ah (AC (su i)) λk hk e=>?_;have:bV .Mod (.int (su i)) (.int 1000000000)=some (.int (jq (su i) 1000000000)):=rfl;refine aa this (aa e ?_);rw[gb]
theorem JV:pe O 56 bg σ (ba aW 2)=some menuP:=by rfl
end
noncomputable abbrev db:Str:=ag "kinds"
noncomputable abbrev mf:Str:=ag "menu"
noncomputable abbrev eB:Str:=ag "one"
noncomputable def km (z:Nat->Nat):Nat:=if z 0/1000%4=1 then 2 else z 0%2
noncomputable def kZ (z:Nat->Nat):Nat:=[2,3,2].getD (km z) 0
noncomputable def kP (z:Nat->Nat):Nat:=[3,3,4].getD (km z) 0
theorem tS (z:Nat->Nat):km z<3:=by
 unfold km
 by_cases h:z 0/1000%4=1
 ·rw[if_pos h];decide
 ·rw[if_neg h];exact b9 (gf _ (by decide)) (by decide)
section
variable {O:Orc} {n:Nat} {sc:Scope} {σ:Sg}
theorem Mv {x y:Str} {q r s u p:Pos} {k:Nat} {v i:ab} {a b:PV} (hx:bb sc x=true) (hy:bb sc y=true) (h:pe O n sc σ (.Subscript v i u)=some (.tup [a,b])):px O (n+1) sc σ (.Assign [.Tuple [.Name x q,.Name y r] k s] (.Subscript v i u) p)=some (.nx (put (put σ x (.sh a)) y (.sh b))):=by refine (?_:(match pe O n sc σ (.Subscript v i u) with|some d=>(match bu false sc 4 σ (.Tuple [.Name x q,.Name y r] k s) d with|some σ'=>some (Out.nx σ')|none=>none)|none=>none)=_);refine aa h ?_;refine (?_:(match bu false sc 4 σ (.Tuple [.Name x q,.Name y r] k s) (.tup [a,b]) with|some σ'=>some (Out.nx σ')|none=>none)=_);exact aa (HK hx hy) rfl
theorem jo {z:Nat->Nat} {i:Nat} {q r p:Pos} {k:Nat} {j:Int} (hj:j=(i:Int)) (hi:i<8) (hv:bj sc dy=true) (h:σ.lookup dy=some (.sh (fB z))):pe O (n+2) sc σ (.Subscript (.Name dy q) (.Constant (.int j) k r) p)=some (.int (z i:Nat)):=by refine gM (a:=fB z) (k:=.int (i:Nat)) (h1:=aD hv (aF h)) (h2:=hj▸bc) (ho:=dX h) (h:=?_);unfold fB;rw[oM (by rw[bx,i4];exact hi),iG,Dt hi];rfl
theorem MQ {z:Nat->Nat} (hz:∀i,z i<1000000000) (h:σ.lookup dy=some (.sh (fB z))):pe O 57 bg σ (ba aW 1)=some (.tup [.int (kZ z:Nat),.int (kP z:Nat)]):=by
 have s0:∀{m:Nat} {q r p:Pos} {k:Nat},pe O (m+2) bg σ (.Subscript (.Name dy q) (.Constant (.int 0) k r) p)=some (.int (z 0:Nat)):=λ{m q r p k}=>jo (i:=0) rfl (by decide) (by decide) h;refine gM (n:=56) (a:=.tup [.tup [.int 2,.int 3],.tup [.int 3,.int 3],.tup [.int 2,.int 4]]) (k:=.int (km z:Nat)) (h1:=aB (h:=rfl)) (h2:=?_) (ho:=rfl) (h:=?_)
 ·refine wE (n:=55) (c:=decide (z 0/1000%4=1)) (bA (d:=.bool (decide (z 0/1000%4=1))) (h:=aB (h:=br (a:=.int (z 0/1000%4:Nat)) (b:=.int (1:Nat)) (aB (h:=aR (a:=.int (z 0/1000:Nat)) (b:=.int (4:Nat)) (aR (a:=.int (z 0:Nat)) (b:=.int (1000:Nat)) s0 bc (mi (by decide) (hz 0))) bc (ij (by decide)))) (aB (h:=bc)) tV)) (ht:=rfl)) (λhc=>?_) λhc=>?_
  ·refine bc.trans ?_;unfold km;rw[if_pos (of_decide_eq_true hc)];rfl
  ·refine (aR (a:=.int (z 0:Nat)) (b:=.int (2:Nat)) s0 bc (ij (by decide))).trans ?_;unfold km;rw[if_neg (of_decide_eq_false hc)]
 ·refine (Be (xs:=[.tup [.int 2,.int 3],.tup [.int 3,.int 3],.tup [.int 2,.int 4]]) (tS z)).trans ?_;unfold kZ kP;have:=tS z;revert this;refine aX (km z) λi hi=>?_
  match i,hi with
  |0,_=>rfl
  |1,_=>rfl
  |2,_=>rfl
theorem rh {es:List ab} {kd:Nat} {p:Pos} {ds:List PV} (h:aY (pe O n sc σ) es=some ds) (hl:bt ds.length=true):pe O (n+1) sc σ (.Tuple es kd p)=some (.tup ds):=by refine (?_:kR (aY (pe O n sc σ) es) PV.tup=_);rw[h];exact if_pos hl
theorem BL {i:Nat} {q r:Pos} {e:ab} (hn:m0 e=true:=by rfl) (hi:i<8) (hv:bj sc mf=true) (h:σ.lookup mf=some (.sh menuP)) (he:pe O (n+1) sc σ e=some (.int (i:Nat))):
  pe O (n+2) sc σ (.Subscript (.Name mf q) e r)=some (.str (S (ca i))):=by
 refine gM hn (a:=menuP) (k:=.int (i:Int)) (h1:=aD hv (aF h)) (h2:=he) (ho:=dX h) (h:=?_);unfold menuP;rw[Be (by rw[bx,i4];exact hi),iG,Dt hi];rfl
noncomputable def BP (z:Nat->Nat) (k:Nat):Nat:=z 3/64%(2*k+1)
noncomputable def yY (z:Nat->Nat):Nat:=2+z 4%60
theorem ER {z:Nat->Nat} {k:Nat} (Z:Sf k) (hz:∀i,z i<1000000000) (hO:∀as,O.fn iq as=bQ pw (O5 pw) iq as) (h:σ.lookup dy=some (.sh (fB z))) (h1:σ.lookup mf=some (.sh menuP)) (h2:σ.lookup cA=some (.sh (.int k))):pe O 55 bg σ (ba aW 3)=some (.list (cc (aQ k))):=by
 have s3:∀{m:Nat} {q r p:Pos} {k:Nat},pe O (m+2) bg σ (.Subscript (.Name dy q) (.Constant (.int 3) k r) p)=some (.int (z 3:Nat)):=λ{m q r p k}=>jo (i:=3) rfl (by decide) (by decide) h;have s4:∀{m:Nat} {q r p:Pos} {k:Nat},pe O (m+2) bg σ (.Subscript (.Name dy q) (.Constant (.int 4) k r) p)=some (.int (z 4:Nat)):=λ{m q r p k}=>jo (i:=4) rfl (by decide) (by decide) h;have hv:=JT (O:=O5 pw) (p:=pw) (w:=yY z) (a:=BP z k) (m1:=z 3%8) (m2:=z 3/8%8) Z (gf _ (by decide)) (gf _ (by decide)) (jS (gf _ (ve _))) ⟨fI _ _,fh (jS (gf _ (by decide))) 2⟩ (λζ=>rfl) (λζ=>rfl) (λζ=>rfl);have hle:=Z.z.le;refine gv (n:=54) (ds:=[.int k,.tup [.str (S (ca (z 3%8))),.str (S (ca (z 3/8%8)))],.int (BP z k:Nat),.int (yY z:Nat)]) (by decide) (aN (aD (by decide) (aF h2)) (aN (aB (h:=?_)) (aN (aB (h:=?_)) (aN (aB (h:=?_)) bC)))) ((hO _).trans hv) (.inl ?_)
 ·refine rh (aN (BL (i:=z 3%8) (hi:=gf _ (by decide)) (hv:=by decide) (h:=h1) (he:=aR (a:=.int (z 3:Nat)) (b:=.int (8:Nat)) s3 bc (ij (by decide)))) (aN (BL (i:=z 3/8%8) (hi:=gf _ (by decide)) (hv:=by decide) (h:=h1) (he:=aR (a:=.int (z 3/8:Nat)) (b:=.int (8:Nat)) (aR (a:=.int (z 3:Nat)) (b:=.int (8:Nat)) s3 bc (mi (by decide) (hz 3))) bc (ij (by decide)))) bC)) rfl
 ·refine aR (a:=.int (z 3/64:Nat)) (b:=.int (2*k+1:Nat)) (aR (a:=.int (z 3:Nat)) (b:=.int (64:Nat)) s3 bc (mi (by decide) (hz 3))) (aR (a:=.int (2*k:Nat)) (b:=.int (1:Nat)) (aR (a:=.int (2:Nat)) (b:=.int k) bc (aC (by decide) h2) ?_) bc rfl) (ij (rH _));rw[kK (.inl (by decide))];rfl
 ·exact aR (a:=.int (2:Nat)) (b:=.int (z 4%60:Nat)) bc (aR (a:=.int (z 4:Nat)) (b:=.int (60:Nat)) s4 bc (ij (by decide))) rfl
 ·refine aa pO (aa (dX h2) ?_);rfl
end
noncomputable abbrev qd:Str:=ag "own"
noncomputable abbrev gV:Str:=ag "other"
noncomputable def fV (x n l:Nat):List Nat:=(cL l).map λa=>x/n^a%n
section
variable {O:Orc} {m:Nat} {sc:Scope} {σ:Sg}
theorem J8 {a k:Nat}:dU (a:Int) ((a:Int)+(k:Int))=(cL k).map λj=>.int ((a+j:Nat):Int):=by unfold dU;have:((a:Int)+(k:Int) - (a:Int)).toNat=k:=E5;refine aa this ?_;apply so;intro j _;congr 1
theorem oq (k:Nat):dU 0 (k:Int)=(cL k).map λj=>.int ((j:Nat):Int):=by have:=J8 (a:=0) (k:=k);simp only[e9] at this;rw[<- this];congr 1;exact (Int.zero_add _).symm
theorem Gl {x y:Nat} (hx:x<=3) (hy:y<=6):bV .Pow (.int x) (.int y)=some (.int ((x^y:Nat):Int)):=by
 refine (?_:(if (decide ((0:Int)<=y)&&decide ((bX (x:Int):Int)*y<=2^27))=true then some (PV.int ((x:Int)^(y:Int).toNat)) else none)=_);rw[if_pos]
 ·rw[gb,Int.natCast_pow]
 ·refine jT.mpr ⟨decide_eq_true (c7 y),decide_eq_true ?_⟩;have h1:bX (x:Int)<=2:=hF (k:=2) (eN hx (by decide));have h2:bX (x:Int)*y<=2*6:=kE h1 hy;exact fL (ej.mpr h2) (by decide)
theorem zQ {v:Str} {e:ab} {p1 p2 p3 q1 q2 q3:Pos} {x n a:Nat} (hx:x<1000000000) (hn:2<=n/\n<=3) (ha:a<=6) (he:pe O (m+2) sc σ e=some (.int x)) (hk:bj sc db=true) (hv:bj sc v=true) (h1:σ.lookup db=some (.sh (.int n))) (h2:σ.lookup v=some (.sh (.int a))):pe O (m+4) sc σ (.BinOp (.BinOp e .FloorDiv (.BinOp (.Name db q1) .Pow (.Name v q2) p1) p2) .Mod (.Name db q3) p3)=some (.int (x/n^a%n:Nat)):=
 aR (a:=.int (x/n^a:Nat)) (b:=.int (n:Nat)) (aR (a:=.int (x:Nat)) (b:=.int (n^a:Nat)) he (aR (a:=.int (n:Nat)) (b:=.int (a:Nat)) (aC hk h1) (aC hv h2) (Gl hn.2 ha)) (mi (kA (Nat.pow_pos (b9 (by decide) hn.1))) hx)) (aC hk h1) (ij (kA (b9 (by decide) hn.1)))
theorem NJ {z:Nat->Nat} {n:Nat} (hz:∀i,z i<1000000000) (hn:2<=n/\n<=3) (h:σ.lookup dy=some (.sh (fB z))) (h1:σ.lookup db=some (.sh (.int n))):pe O 53 bg σ (ba aW 5)=some (.list (ar (fV (z 1/3) n (4+z 1%3)))):=by
 have hl:4+z 1%3<=6:=fh (jS (gf _ (by decide))) 4;unfold ar fV;rw[fj];refine gp (n:=52) (xs:=(cL (4+z 1%3)).map λa:Nat=>.int (a:Nat)) (by decide) ?_ (ik (α:=Nat) (F:=λa:Nat=>.int (a:Nat)) (G:=(λx:Nat=>PV.int (x:Nat))∘λa=>z 1/3/n^a%n) λa ha=>?_) ?_
 ·have e:((cL (4+z 1%3)).map λa:Nat=>PV.int (a:Nat))=dU 0 ((4+z 1%3:Nat):Int):=by exact (oq _).symm
  rw[e];exact md (by decide) (aR (a:=.int (4:Nat)) (b:=.int (z 1%3:Nat)) bc (aR (a:=.int (z 1:Nat)) (b:=.int (3:Nat)) (jo (i:=1) rfl (by decide) (by decide) h) bc (ij (by decide))) rfl) ⟨fL (by decide) (c7 _),fL (ej.mpr hl) (by decide)⟩
 ·have ha6:a<=6:=al (dE (hU.mp ha)) hl;refine az _ (gJ (by decide) (eE (by decide) (by decide))) ?_;exact zQ (x:=z 1/3) (eN (uD _ _) (hz 1)) hn ha6 (aR (a:=.int (z 1:Nat)) (b:=.int (3:Nat)) (jo (i:=1) rfl (by decide) (by decide) (au (by decide) (eT (by decide) (by decide) h))) bc (mi (by decide) (hz 1))) (by decide) (by decide) (au (by decide) (eT (by decide) (by decide) h1)) aM
 ·rw[bx,i4];exact dg (al hl (by decide))
end
theorem AA {α:Type} (xs:List α) (a:Nat):∀m,a+m<=xs.length->((cL m).map (a+ ·)).filterMap (xs[·]?)=(xs.drop a).take m
 |0,_=>rfl
 |m+1,h=>by rw[List.range_succ,on,List.filterMap_append,AA xs a m (nZ h),Si,yI];have hl:a+m<xs.length:=h;have e:xs[a+m]?=some xs[a+m]:=el hl;rw[e];show _++List.filterMap (xs[·]?) [a+m]=_;rw[kv,e];rfl
theorem zZ {xs:List PV} {lo hi:Option Int} {a b:Nat} (hb:hJ lo hi none xs.length=((a:Int),(b:Int),1)) (hl:b<=xs.length) (hab:a<=b):eG (.list xs) lo hi none=some (.list ((xs.drop a).take (b - a))):=by refine (?_:(match hJ lo hi none xs.length with|(x,y,z)=>some (PV.list ((mF x y z).filterMap (xs[·]?))))=_);rw[hb];refine (?_:some (PV.list ((mF a b 1).filterMap (xs[·]?)))=_);rw[sliceRange_one,AA xs a (b - a) (by rw[nT hab];exact hl)]
theorem NZ {xs:List PV} {b:Nat} (h:b<=xs.length):eG (.list xs) none (some (b:Int)) none=some (.list (xs.take b)):=by
 refine zZ (a:=0) (b:=b) ?_ h (iE b);rw[Sj];have:sq xs.length (b:Int)=b:=by unfold sq;omega
 show (((0:Nat):Int),((sq xs.length (b:Int):Nat):Int),(1:Int))=_;rw[this]
theorem Hx {xs:List PV} {a:Nat} (h:a<=xs.length):eG (.list xs) (some (a:Int)) none none=some (.list (xs.drop a)):=by
 refine (zZ (a:=a) (b:=xs.length) ?_ (bf _) h).trans ?_
 ·rw[Sj];have:sq xs.length (a:Int)=a:=by unfold sq;omega
  show (((sq xs.length (a:Int):Nat):Int),((xs.length:Nat):Int),(1:Int))=_;rw[this]
 ·rw[uU (by rw[fM];exact bf _)]
section
variable {O:Orc} {m:Nat} {sc:Scope} {σ:Sg}
theorem MT {z:Nat->Nat} {n:Nat} (hz:∀i,z i<1000000000) (hn:2<=n/\n<=3) (h:σ.lookup dy=some (.sh (fB z))) (h1:σ.lookup db=some (.sh (.int n))):pe O 51 bg σ (ba aW 7)=some (.list (ar (fV (z 2/4) n (4+z 2/4%3)))):=by
 have hl:4+z 2/4%3<=6:=fh (jS (gf _ (by decide))) 4;unfold ar fV;rw[fj];refine gp (n:=50) (xs:=(cL (4+z 2/4%3)).map λa:Nat=>.int (a:Nat)) (by decide) ?_ (ik (α:=Nat) (F:=λa:Nat=>.int (a:Nat)) (G:=(λx:Nat=>PV.int (x:Nat))∘λa=>z 2/4/n^a%n) λa ha=>?_) ?_
 ·rw[<- oq];exact md (by decide) (aR (a:=.int (4:Nat)) (b:=.int (z 2/4%3:Nat)) bc (aR (a:=.int (z 2/4:Nat)) (b:=.int (3:Nat)) (aR (a:=.int (z 2:Nat)) (b:=.int (4:Nat)) (jo (i:=2) rfl (by decide) (by decide) h) bc (mi (by decide) (hz 2))) bc (ij (by decide))) rfl) ⟨fL (by decide) (c7 _),fL (ej.mpr hl) (by decide)⟩
 ·have ha6:a<=6:=al (dE (hU.mp ha)) hl;refine az _ (gJ (by decide) (eE (by decide) (by decide))) ?_;exact zQ (x:=z 2/4) (eN (uD _ _) (hz 2)) hn ha6 (aR (a:=.int (z 2:Nat)) (b:=.int (4:Nat)) (jo (i:=2) rfl (by decide) (by decide) (au (by decide) (eT (by decide) (by decide) h))) bc (mi (by decide) (hz 2))) (by decide) (by decide) (au (by decide) (eT (by decide) (by decide) h1)) aM
 ·rw[bx,i4];exact dg (al hl (by decide))
theorem Jz {z:Nat->Nat} {u:List Nat} (hz:∀i,z i<1000000000) (hu:4<=u.length) (h:σ.lookup dy=some (.sh (fB z))) (h1:σ.lookup eB=some (.sh (.list (ar u)))):pe O 52 bg σ (ba aW 6)=some (.int (z 2/4%(u.length - 1):Nat)):=by
 have e:bV .Sub (.int (u.length:Nat)) (.int 1)=some (.int (u.length - 1:Nat)):=by rw[q0];exact congrArg (λx=>some (PV.int x)) (Et (al (by decide) hu)).symm
 refine aR (a:=.int (z 2/4:Nat)) (b:=.int (u.length - 1:Nat)) (aR (a:=.int (z 2:Nat)) (b:=.int (4:Nat)) (jo (i:=2) rfl (by decide) (by decide) h) bc (mi (by decide) (hz 2))) (aR (a:=.int (u.length:Nat)) (b:=.int 1) (oL (d:=.int (u.length:Nat)) (by decide) (aD (by decide) (aF h1)) (dX h1) (by refine aa nQ ?_;unfold ar;rw[bx])) bc e) (ij (kA (Nat.sub_pos_of_lt (b9 (by decide) hu))))
end
theorem oX (u:List Nat):(ar u).length=u.length:=by unfold ar;exact bx _
noncomputable def m5 (u w:List Nat) (a m:Nat):List Nat:=[u.take a++[u.getD (a+1) 0,u.getD a 0]++u.drop (a+2),u.take (a+1)++u.drop a,u.take a++u.drop (a+1),w].getD m []
section
variable {O:Orc} {m:Nat} {sc:Scope} {σ:Sg}
theorem rF {a b:List Nat} (h:a.length+b.length<=1000):bV .Add (.list (ar a)) (.list (ar b))=some (.list (ar (a++b))):=by refine (?_:(if bt ((ar a).length+(ar b).length) then some (PV.list (ar a++ar b)) else none)=_);rw[if_pos (by rw[oX,oX];exact dg (al h (by decide)))];unfold ar;rw[on]
theorem CV {es:List ab} {p:Pos} {ds:List PV} (h:aY (pe O m sc σ) es=some ds) (hl:bt ds.length=true):pe O (m+1) sc σ (.List es p)=some (.list ds):=by refine (?_:kR (aY (pe O m sc σ) es) PV.list=_);rw[h];exact if_pos hl
theorem pg {b:Nat} (h:b<=100): -2^62<(b:Int)/\(b:Int)<2^62:=⟨xY (by decide) (c7 b),lj (ej.mpr h) (by decide)⟩
theorem vq {x:Str} {q r p:Pos} {e:ab} {u:List Nat} {b:Nat} (hv:bj sc x=true) (h:σ.lookup x=some (.sh (.list (ar u)))) (he:pe O m sc σ e=some (.int b)) (hb:b<=u.length) (hu:u.length<=100):pe O (m+2) sc σ (.Subscript (.Name x q) (.Slice none (some e) none r) p)=some (.list (ar (u.take b))):=by refine jF (l:=none) (h:=some (b:Int)) (s:=none) (aC hv h) rfl (gY he (pg (al hb hu))) rfl ((NZ (by rw[oX];exact hb)).trans ?_);unfold ar;rw[List.map_take]
theorem xx {x:Str} {q r p:Pos} {e:ab} {u:List Nat} {b:Nat} (hv:bj sc x=true) (h:σ.lookup x=some (.sh (.list (ar u)))) (he:pe O m sc σ e=some (.int b)) (hb:b<=u.length) (hu:u.length<=100):pe O (m+2) sc σ (.Subscript (.Name x q) (.Slice (some e) none none r) p)=some (.list (ar (u.drop b))):=by refine jF (l:=some (b:Int)) (h:=none) (s:=none) (aC hv h) (gY he (pg (al hb hu))) rfl rfl ((Hx (by rw[oX];exact hb)).trans ?_);unfold ar;rw[List.map_drop]
theorem C0 {x:Str} {q p:Pos} {e:ab} {u:List Nat} {b:Nat} (hn:m0 e=true:=by rfl) (hv:bj sc x=true) (h:σ.lookup x=some (.sh (.list (ar u)))) (he:pe O (m+1) sc σ e=some (.int b)) (hb:b<u.length):pe O (m+2) sc σ (.Subscript (.Name x q) e p)=some (.int (u.getD b 0:Nat)):=
 gM hn (h1:=aD hv (aF h)) (h2:=he) (ho:=dX h) (h:=BF (by rw[el hb,ju,el hb];rfl))
theorem N1 {z:Nat->Nat} {u w:List Nat} {a:Nat} (ha:a+1<u.length) (hu:u.length<=6) (h:σ.lookup dy=some (.sh (fB z))) (h1:σ.lookup eB=some (.sh (.list (ar u)))) (h2:σ.lookup ft=some (.sh (.int a))) (h3:σ.lookup qd=some (.sh (.list (ar w)))):pe O 50 bg σ (ba aW 8)=some (.list (ar (m5 u w a (z 2%4)))):=by
 have hA:∀{m:Nat} {q:Pos},pe O (m+1) bg σ (.Name ft q)=some (.int a):=λ{m q}=>aC (by decide) h2;have hB:∀{m:Nat} {q p r:Pos} {k:Nat},pe O (m+2) bg σ (.BinOp (.Name ft q) .Add (.Constant (.int 1) k r) p)=some (.int (a+1:Nat)):=λ{m q p r k}=>aR hA bc rfl;have hC:∀{m:Nat} {q p r:Pos} {k:Nat},pe O (m+2) bg σ (.BinOp (.Name ft q) .Add (.Constant (.int 2) k r) p)=some (.int (a+2:Nat)):=λ{m q p r k}=>aR hA bc rfl;have u100:u.length<=100:=al hu (by decide);have l1:∀b,(u.take b).length<=6:=λb=>al (Eu _ _) hu;have l2:∀b,(u.drop b).length<=6:=λb=>al (by rw[fM];exact kt _ _) hu;have hs:∀b c,(u.take b).length+(u.drop c).length<=1000:=λb c=>al (gN (l1 b) (l2 c)) (by decide);have b1:a<=u.length:=dE (yO ha);have b2:a+1<=u.length:=dE ha;refine gM (n:=49) (a:=.tup [.list (ar (u.take a++[u.getD (a+1) 0,u.getD a 0]++u.drop (a+2))),.list (ar (u.take (a+1)++u.drop a)),.list (ar (u.take a++u.drop (a+1))),.list (ar w)]) (k:=.int (z 2%4:Nat))
  (h1:=aB (h:=rh (aN ?_ (aN ?_ (aN ?_ (aN ?_ bC)))) rfl)) (h2:=aR (a:=.int (z 2:Nat)) (b:=.int (4:Nat)) (jo (i:=2) rfl (by decide) (by decide) h) bc (ij (by decide))) (ho:=rfl) (h:=?_)
 ·refine aR (aR (vq (by decide) h1 hA b1 u100) (b:=.list (ar [u.getD (a+1) 0,u.getD a 0])) (CV (aN (C0 (by rfl) (by decide) h1 hB ha) (aN (C0 (by rfl) (by decide) h1 hA (yO ha)) bC)) rfl) (rF ?_)) (xx (by decide) h1 hC ha u100) (rF ?_)
  ·exact al (d7 (l1 a) 2) (by decide)
  ·rw[ci];exact al (gN (d7 (l1 a) 2) (l2 _)) (by decide)
 ·exact aR (vq (by decide) h1 hB b2 u100) (xx (by decide) h1 hA b1 u100) (rF (hs _ _))
 ·exact aR (vq (by decide) h1 hA b1 u100) (xx (by decide) h1 hB b2 u100) (rF (hs _ _))
 ·exact aC (by decide) h3
 ·have hm:z 2%4<4:=gf _ (by decide);revert hm;refine aX (z 2%4) λi hi=>?_
  match i,hi with
  |0,_=>rfl
  |1,_=>rfl
  |2,_=>rfl
  |3,_=>rfl
theorem Om {n:Nat} {u w:List Nat} {a k:Nat} (ha:a+1<u.length) (hu:u.length<=6) (hw:w.length<=6) (h1:∀l∈u,l<n) (h2:∀l∈w,l<n) (hk:k<4):(m5 u w a k).length<=12/\∀l∈m5 u w a k,l<n:=by
 have hd:∀i,i<u.length->u.getD i 0<n:=λi hi=>by rw[ju,el hi];exact h1 _ (rR hi)
 have t1:∀b,(u.take b).length<=6:=λb=>al (Eu _ _) hu;have t2:∀b,∀l∈u.take b,l<n:=λb l hl=>h1 l (yF hl);have d2:∀b,∀l∈u.drop b,l<n:=λb l hl=>h1 l (yE hl);have d1:∀b,(u.drop b).length<=6:=λb=>al (by rw[fM];exact kt _ _) hu;have ap:∀{s t:List Nat},(∀l∈s,l<n)->(∀l∈t,l<n)->∀l∈s++t,l<n:=λhs ht l hl=>(bo.mp hl).elim (hs l) (ht l);have la:∀{s t:List Nat},s.length<=6->t.length<=6->(s++t).length<=12:=λhs ht=>by rw[ci];exact gN hs ht
 match k,hk with
 |0,_=>
  refine⟨?_,ap (ap (t2 a) λl hl=>?_) (d2 (a+2))⟩
  ·show (u.take a++[u.getD (a+1) 0,u.getD a 0]++u.drop (a+2)).length<=12;rw[gP];refine la (t1 a) ?_;show (u.drop (a+2)).length+2<=6;rw[fM];omega
  ·cases hl with
   |head=>exact hd _ ha
   |tail _ hl=>rw[cN.mp hl];exact hd _ (yO ha)
 |1,_=>exact⟨la (t1 _) (d1 _),ap (t2 _) (d2 _)⟩
 |2,_=>exact⟨la (t1 _) (d1 _),ap (t2 _) (d2 _)⟩
 |3,_=>exact⟨al hw (by decide),h2⟩
end
noncomputable abbrev mW:Str:=ag "texts"
noncomputable abbrev jc:Str:=ag "level"
noncomputable abbrev ev:Str:=ag "wants"
noncomputable def cR (w:List Nat):List Nat:=w.map (120+ ·)
noncomputable def lW (w:List Nat):List (List Nat):=w.map λa=>[120+a]
theorem tj:∀w:List Nat,(lW w).flatten=cR w
 |[]=>rfl
 |a::w=>congrArg ((120+a):: ·) (tj w)
section
variable {O:Orc} {m:Nat} {sc sc':Scope} {σ:Sg}
theorem JD:∀a,a<3->fN (.str (ag "xyz")) (.int (a:Nat))=some (.str (S [120+a]))
 |0,_=>rfl
 |1,_=>rfl
 |2,_=>rfl
theorem ze {x l:Str} {k:Nat} {p1 p2 p3 p4 p5 p6:Pos} {w:List Nat} (hs:kh sc sc'=true) (hd:gg sc'.names=true) (hl:bb sc' l=true) (hv:bj sc' l=true) (hf:sc'.names.lookup l≠some .free) (hx:bj sc x=true) (h:σ.lookup x=some (.sh (.list (ar w)))) (hw:∀a∈w,a<3) (hn:w.length<=100):pe O (m+5) sc σ (.ListComp (.Subscript (.Constant (.str (ag "xyz")) k p1) (.Name l p2) p3) [⟨.Name l p4,.Name x p5,[],0⟩] sc' p6)=some (.list (bp (lW w))):=by
 refine gp hs (g8 (d:=.list (ar w)) rfl (aC hx h) rfl) (ys:=w.map λa=>.str (S [120+a])) ?_ ?_ |>.trans ?_
 ·unfold ar;refine ik (F:=λa:Nat=>.int (a:Nat)) (G:=λa:Nat=>.str (S [120+a])) λa ha=>?_;refine az _ (gJ hl (eE hd hf)) ?_;exact gM (k:=.int (a:Nat)) (a:=.str (ag "xyz")) (h1:=aB (h:=fU (x:=ag "xyz") (by decide))) (h2:=aC hv aM) (ho:=rfl) (h:=JD a (hw a ha))
 ·rw[bx];exact dg (al hn (by decide))
 ·unfold bp lW;rw[fj];rfl
noncomputable def nk (u v:List Nat):PV:=.list (bp [cR u,cR v])
theorem NF {u v:List Nat} (hu:u.length<=12) (hv:v.length<=12) (hu3:∀a∈u,a<3) (hv3:∀a∈v,a<3) (h:σ.lookup eB=some (.sh (.list (ar u)))) (h1:σ.lookup gV=some (.sh (.list (ar v)))):pe O 49 bg σ (ba aW 9)=some (nk u v):=by
 refine gp (n:=48) (xs:=[u,v].map λw=>.list (ar w)) (ys:=[u,v].map λw=>.str (S (cR w))) (by decide) (g8 (n:=47) (d:=.tup [.list (ar u),.list (ar v)]) rfl (rh (aN (aC (by decide) h) (aN (aC (by decide) h1) bC)) rfl) rfl)
  (ik (F:=λw:List Nat=>.list (ar w)) (G:=λw:List Nat=>.str (S (cR w))) λw hw=>?_) rfl
 refine az _ (gJ (by decide) (eE (by decide) (by decide))) ?_;have hw12:w.length<=12/\∀a∈w,a<3:=by
  cases hw with
  |head=>exact⟨hu,hu3⟩
  |tail _ hw=>rw[cN.mp hw];exact⟨hv,hv3⟩
 refine oG (r:=.str (S [])) (ds:=[.list (bp (lW w))]) (h0:=rfl) (hp:=rfl) (hl:=rfl) (h1:=by rfl) (h2:=aN (aB (h:=?_)) bC) (h:=?_)
 ·exact ze (by decide) (by decide) (by decide) (by decide) (by decide) (by decide) aM hw12.2 (al hw12.1 (by decide))
 ·rw[<- tj];exact A4 (by rw[tj];unfold cR;rw[bx];exact al hw12.1 (by decide))
end
noncomputable abbrev fb:Str:=ag "choices"
noncomputable def cB (n j:Nat):List PV:=cc (m7 n j)
noncomputable def cb (k j:Nat):List PV:=(cz (aQ k) j).map dQ
noncomputable def eR:ab:=ba (aU aW 12).2 0
noncomputable def dc:ab:=ba (aU aW 16).2 0
theorem AL {O:Orc}:bT O 47 (bH (ba aW 10)) [] (dq (ba aW 10)) (cV (ba aW 10)) (dk (ba aW 10)) (dU 0 2)=some (cB 2 0):=by kernel_rfl
theorem Oq {O:Orc}:bT O 47 (bH (ba aW 10)) [] (dq (ba aW 10)) (cV (ba aW 10)) (dk (ba aW 10)) (dU 0 3)=some (cB 3 0):=by kernel_rfl
theorem BE {O:Orc}:bT O 43 (bH eR) (cj (bH eR) [(db,.sh (.int 2))]) (dq eR) (cV eR) (dk eR) (cB 2 0)=some (cB 2 1):=by kernel_rfl
theorem LS {O:Orc}:bT O 43 (bH eR) (cj (bH eR) [(db,.sh (.int 2))]) (dq eR) (cV eR) (dk eR) (cB 2 1)=some (cB 2 2):=by kernel_rfl
theorem GU {O:Orc}:bT O 43 (bH eR) (cj (bH eR) [(db,.sh (.int 3))]) (dq eR) (cV eR) (dk eR) (cB 3 0)=some (cB 3 1):=by kernel_rfl
theorem yS {O:Orc}:bT O 39 (bH dc) (cj (bH dc) [(dh,.sh (.list (cc (aQ 3))))]) (dq dc) (cV dc) (dk dc) (cb 3 0)=some (cb 3 1):=by kernel_rfl
theorem Bm {O:Orc}:bT O 39 (bH dc) (cj (bH dc) [(dh,.sh (.list (cc (aQ 3))))]) (dq dc) (cV dc) (dk dc) (cb 3 1)=some (cb 3 2):=by kernel_rfl
theorem GE {O:Orc}:bT O 39 (bH dc) (cj (bH dc) [(dh,.sh (.list (cc (aQ 3))))]) (dq dc) (cV dc) (dk dc) (cb 3 2)=some (cb 3 3):=by kernel_rfl
theorem IS {O:Orc}:bT O 39 (bH dc) (cj (bH dc) [(dh,.sh (.list (cc (aQ 4))))]) (dq dc) (cV dc) (dk dc) (cb 4 0)=some (cb 4 1):=by kernel_rfl
theorem KY {O:Orc}:bT O 39 (bH dc) (cj (bH dc) [(dh,.sh (.list (cc (aQ 4))))]) (dq dc) (cV dc) (dk dc) (cb 4 1)=some (cb 4 2):=by kernel_rfl
structure Nk (n k:Nat):Prop where
 f:Sf k
 n2:2<=n
 n3:n<=3
 lw:∀j,j<=k - 2->(m7 n j).length+(de n j).length<=100
 l0:∀O:Orc,bT O 47 (bH (ba aW 10)) [] (dq (ba aW 10)) (cV (ba aW 10)) (dk (ba aW 10)) (dU 0 (n:Int))=some (cB n 0)
 lv:∀(O:Orc) j,j<k - 2->bT O 43 (bH eR) (cj (bH eR) [(db,.sh (.int n))]) (dq eR) (cV eR) (dk eR) (cB n j)=some (cB n (j+1))
 ch:∀(O:Orc) j,j<n->bT O 39 (bH dc) (cj (bH dc) [(dh,.sh (.list (cc (aQ k))))]) (dq dc) (cV dc) (dk dc) (cb k j)=some (cb k (j+1))
 cl:∀j,j<=n->(cz (aQ k) j).length<=1000/\0<(cz (aQ k) j).length
 gd:oB n k (aQ k)
theorem FC:Nk 2 3:=⟨AD,by decide,by decide,λj hj=>match j,hj with|0,_=>by decide+kernel|1,_=>by decide+kernel,λO=>AL,λO j hj=>match j,hj with|0,_=>BE,λO j hj=>match j,hj with|0,_=>yS|1,_=>Bm,
 λj hj=>match j,hj with|0,_=>by decide+kernel|1,_=>by decide+kernel|2,_=>by decide+kernel,BC⟩
theorem NB:Nk 3 3:=⟨AD,by decide,by decide,λj hj=>match j,hj with|0,_=>by decide+kernel|1,_=>by decide+kernel,λO=>Oq,λO j hj=>match j,hj with|0,_=>GU,λO j hj=>match j,hj with|0,_=>yS|1,_=>Bm|2,_=>GE,
 λj hj=>match j,hj with|0,_=>by decide+kernel|1,_=>by decide+kernel|2,_=>by decide+kernel|3,_=>by decide+kernel,BC⟩
theorem ET:Nk 2 4:=⟨Kd,by decide,by decide,λj hj=>match j,hj with|0,_=>by decide+kernel|1,_=>by decide+kernel|2,_=>by decide+kernel,λO=>AL,λO j hj=>match j,hj with|0,_=>BE|1,_=>LS,λO j hj=>match j,hj with|0,_=>IS|1,_=>KY,
 λj hj=>match j,hj with|0,_=>by decide+kernel|1,_=>by decide+kernel|2,_=>by decide+kernel,Iz⟩
section
variable {O:Orc} {m:Nat} {sc sc':Scope} {σ:Sg} {n k:Nat}
theorem oN {step:Sg->PV->Option Out} (P:Nat->Sg->Prop):∀(xs:List PV) (a:Nat) (σ:Sg),(∀i d σ,xs[i]?=some d->P (a+i) σ->∃σ',step σ d=some (.nx σ')/\P (a+i+1) σ')->P a σ->∃σ',bU step xs σ=some (.nx σ')/\P (a+xs.length) σ'
 |[],a,σ,_,hp=>az σ rfl hp
 |d::xs,a,σ,h,hp=>ah (h 0 d σ rfl hp) λσ1 e1 p1=>by
  refine ah (oN (step:=step) P xs (a+1) σ1 (λi d σ hd hp=>?_) p1) λσ2 e2 p2=>?_
  ·have:=h (i+1) d σ hd;have e:a+1+i=a+(i+1):=(Eg a 1 i).trans rfl;rw[e] at hp ⊢;exact this hp
  ·refine az σ2 (gR e1 e2) ?_;have e:a+1+xs.length=a+(xs.length+1):=(Eg a 1 _).trans rfl;rw[e] at p2;exact p2
theorem Md (a b:List (List Nat)):cc (a++b)=cc a++cc b:=on
theorem qL (a:List (List Nat)):(cc a).length=a.length:=bx _
theorem Nb (K:Nk n k) (h:σ.lookup db=some (.sh (.int n))):pe O 48 bg σ (ba aW 10)=some (.list (cB n 0)):=
 mx (H:=[]) rfl (by decide) (md (by decide) (aC (by decide) h) ⟨fL (by decide) (c7 _),fL (ej.mpr K.n3) (by decide)⟩) (fs:=[]) (by decide) (λx hx=>nomatch hx) (K.l0 O)
  (by unfold cB;rw[qL];exact dg (al (fI _ _) (al (K.lw 0 (iE _)) (by decide))))
theorem Hg {j:Nat} (K:Nk n k) (hj:j<k - 2) (h:σ.lookup db=some (.sh (.int n))) (h1:σ.lookup jc=some (.sh (.list (cB n j)))):pe O 44 bg σ eR=some (.list (cB n (j+1))):=
 mx (H:=[(db,.sh (.int n))]) rfl (by decide) (g8 rfl (aC (by decide) h1) rfl) (fs:=[db]) (by decide) (λx hx=>by rw[cN.mp hx];exact h) (K.lv O j hj)
  (by unfold cB;rw[qL];exact dg (al (fI _ _) (al (K.lw _ hj) (by decide))))
noncomputable def dY (n j:Nat):List PV:=cc (de n j)
theorem H9 (K:Nk n k) (h:σ.lookup db=some (.sh (.int n))) (h1:σ.lookup jc=some (.sh (.list (cB n 0)))) (h2:σ.lookup ev=some (.sh (.list (dY n 0)))):∃σ',bU (b8 O 46 bg (aU aW 12).1 (aU aW 12).2) (dU 0 ((k - 2:Nat):Int)) σ=some (.nx σ')/\Kp [fO,jc,ev] σ σ'/\σ'.lookup jc=some (.sh (.list (cB n (k - 2))))/\σ'.lookup ev=some (.sh (.list (dY n (k - 2)))):=by
 rw[oq];have hl:((cL (k - 2)).map λj:Nat=>PV.int (j:Nat)).length=k - 2:=by rw[bx,i4]
 have:=oN (step:=b8 O 46 bg (aU aW 12).1 (aU aW 12).2) (λj σ'=>Kp [fO,jc,ev] σ σ'/\σ'.lookup jc=some (.sh (.list (cB n j)))/\σ'.lookup ev=some (.sh (.list (dY n j)))) ((cL (k - 2)).map λj:Nat=>.int (j:Nat)) 0 σ (λi d σ1 hd P=>?_) ⟨Kp.refl,h1,h2⟩
 ·rw[hl,e9] at this;exact this
 ·rw[e9] at P ⊢;have hi:i<k - 2:=by have:=(pU.mp hd).1;rw[hl] at this;exact this
  refine aI P λa b c=>?_;have g0:(put σ1 fO (.sh d)).lookup db=some (.sh (.int n)):=au (by decide) ((a db (by decide)).trans h);have g1:(put σ1 fO (.sh d)).lookup jc=some (.sh (.list (cB n i))):=au (by decide) b;have g2:(put (put σ1 fO (.sh d)) jc (.sh (.list (cB n (i+1))))).lookup ev=some (.sh (.list (dY n i))):=au (by decide) (au (by decide) c);refine az (put (put (put σ1 fO (.sh d)) jc (.sh (.list (cB n (i+1))))) ev (.sh (.list (dY n (i+1))))) ?_ ⟨((a.put (by decide)).put (by decide)).put (by decide),au (by decide) aM,aM⟩;refine (?_:aJ O 46 bg (put σ1 fO (.sh d)) (aU aW 12).2=_);refine aT (bM (d:=.list (cB n (i+1))) (by decide) (h:=Hg K hi g0 g1) (hs:=λζ ζ=>rfl)) (aT (bM (d:=.list (dY n (i+1))) (by decide) (h:=?_) (hs:=λζ ζ=>rfl)) a9);refine aR (a:=.list (dY n i)) (b:=.list (cB n (i+1))) (aC (by decide) g2) (aC (by decide) aM) ?_;refine (?_:(if bt ((dY n i).length+(cB n (i+1)).length) then some (PV.list (dY n i++cB n (i+1))) else none)=_);have e:dY n i++cB n (i+1)=dY n (i+1):=(Md _ _).symm;have l:(dY n i).length+(cB n (i+1)).length<=100:=by rw[<- ci,e];unfold dY;rw[qL];exact al (dv _ _) (K.lw _ hi)
  rw[if_pos (show bt _=true from dg (al l (by decide))),e]
theorem Kw (K:Nk n k) (h:σ.lookup cA=some (.sh (.int k))) {tt:Bool}:cr O 46 bg σ tt (eQ aW 12)=some (dU 0 ((k - 2:Nat):Int)):=by have hk:=K.f.z.le;have h3:=K.f.z.gt;refine md (by decide) (aR (a:=.int (k:Nat)) (b:=.int 2) (aC (by decide) h) bc ?_) ⟨fL (by decide) (c7 _),fL (ej.mpr (al (kt _ _) hk)) (by decide)⟩;rw[q0];exact congrArg (λx=>some (PV.int x)) (Et (al (by decide) h3)).symm
end
theorem zo:∀(w:List Nat) (ws:List (List Nat)),jn (w::ws++[[]])=jn (w::ws)++dots
 |w,[]=>by rw[RV,ka,wo,wo,jw]
 |w,v::ws=>by refine aa vd (aa vd ?_);rewrite[ka];refine aH vd (aa (zo v ws) ?_);rw[ka,<- gP]
theorem y3 (l:List Nat):(fq dots (l.map λc=>[c])).length<=4*l.length:=by
 rw[<- v6]
 induction l with
 |nil=>exact bf _
 |cons a r ih=>
  induction r using aP with
  |nil=>show 1<=4;decide
  |cons b r=>refine aa cS (aa cS ?_);rw[ka];replace ih:=cS▸ih;rw[ci];show 4+_<=4*(r.length+1+1);rw[C9 4 (r.length+1),iW];exact d7 ih 4
theorem Ha {a:Nat} {r T:List Nat} (hf:∀c∈a::r,c≠46) (hl:(a::r).length<=1000):bQ pw O0 dL [.str (S (dots++fq dots ((a::r).map λc=>[c])++dots)),.str (S T)]=some (.bool (kH (a::r) T)):=by
 have hi:=y3 (a::r);have hj:jn ([]::[a]::(r.map (λc=>[c])++[[]]))=dots++fq dots ((a::r).map λc=>[c])++dots:=by refine (zo [] ([a]::r.map λc=>[c])).trans ?_;rw[ka,<- v6];rfl
 have hv:=w7 (w:=[]) (v:=[a]) (ws:=r.map (λc=>[c])++[[]]) (T:=T) (λu hu=>by
  cases hu with
  |head=>decide
  |tail _ hu=>cases hu with
   |head=>exact λh=>hf a (.head _) (cN.mp h).symm
   |tail _ hu=>exact (bo.mp hu).elim (λhu=>ah (dG.mp hu) λc hc e=>e▸λh=>hf c (.tail _ hc) (cN.mp h).symm) λhu=>by rw[cN.mp hu];decide) (by
  rw[hj,ci,ci]
  exact dg (al (d7 (d7 (fh (al hi (pE 4 hl)) _) _) _) (by decide)))
 rw[hj] at hv;refine hv.trans ?_;have e2:([]::[a]::(r.map (λc=>[c])++[[]]))=[]::((a::r).map (λc=>[c])++[[]]):=rfl;rw[e2,FB]
theorem rd {w u:List Nat}:kH (cR w) (cR u)=true↔w.Sublist u:=by
 rw[zJ];refine⟨λh=>?_,λh=>h.map _⟩;have back:∀l:List Nat,(cR l).map (λx=>x - 120)=l:=λl=>by unfold cR;rw[fj];exact (so λx _=>yG 120 x).trans (R7 l)
 have:=h.map λx=>x - 120;rw[back,back] at this;exact this
noncomputable def cx (w u:List Nat):Bool:=kH (cR w) (cR u)
noncomputable def eu (n k:Nat) (u:List Nat):PV:=.list ((de n (k - 2)).map λw=>.bool (cx w u))
noncomputable abbrev iK:Str:=ag "told"
section
variable {O:Orc} {n:Nat} {sc sc':Scope} {σ:Sg} {k:Nat}
theorem ua {e1 e2:ab} {fp p:Pos} {a b:List Nat} {c:Bool} (hf:bS sc dL=true) (hO:∀as,O.fn dL as=bQ pw O0 dL as) (h1:pa O n sc σ e1=some (.str (S a))) (h2:pa O n sc σ e2=some (.str (S b))) (h:bQ pw O0 dL [.str (S a),.str (S b)]=some (.bool c)):pe O (n+1) sc σ (.Call (.Name dL fp) [e1,e2] [] p)=some (.bool c):=
 gv (ds:=[.str (S a),.str (S b)]) hf (aN h1 (aN h2 bC)) ((hO _).trans h) (.inr rfl)
theorem w2 (K:Nk n k) {w:List Nat} (hw:w∈de n (k - 2)):w≠[]/\w.length<=3/\w.length<k/\(∀a∈w,a<n)/\∀a∈w,a<3:=by
 have h:=nc.mp hw;have h3:=K.f.z.gt;have hk:=K.f.z.le;have e:k - 2+1<k:=by omega
 exact⟨h.1.1,al h.1.2 (jS (b9 e hk)),eN h.1.2 e,h.2,λa ha=>b9 (h.2 a ha) K.n3⟩
theorem AJ {w:List Nat}:∀c∈cR w,c≠46:=λc hc=>ah (dG.mp hc) λa _ e=>e▸kA (b9 (by decide:46<120) (fI 120 a))
theorem zM (w:List Nat):lW w=(cR w).map λc=>[c]:=by unfold lW cR;rw[fj];rfl
theorem Nn {u v:List Nat} (K:Nk n k) (hO:∀as,O.fn dL as=bQ pw O0 dL as) (h:σ.lookup mW=some (.sh (nk u v))) (h1:σ.lookup ev=some (.sh (.list (dY n (k - 2))))):pe O 45 bg σ (ba aW 13)=some (.list [eu n k u,eu n k v]):=by
 refine gp (n:=44) (xs:=[u,v].map λw=>.str (S (cR w))) (ys:=[u,v].map (eu n k)) (by decide) (g8 (d:=nk u v) rfl (aC (by decide) h) rfl) (ik (F:=λw:List Nat=>.str (S (cR w))) (G:=eu n k) λx _=>?_) rfl;refine az _ (gJ (by decide) (eE (by decide) (by decide))) ?_;refine gp (n:=42) (xs:=dY n (k - 2)) (by decide) (g8 (d:=.list (dY n (k - 2))) rfl (aC (by decide) (au (by decide) (eT (by decide) (by decide) h1))) rfl) (ik (α:=List Nat) (F:=λw=>.list (ar w)) (G:=λw=>.bool (cx w x)) λw hw=>?_) ?_
 ·refine az _ (gJ (by decide) (eE (by decide) (by decide))) ?_;have hk:=w2 K hw;have hlen:(cR w).length<=3:=by unfold cR;rw[bx];exact hk.2.1
  have hne:cR w≠[]:=λh=>hk.1 (List.map_eq_nil_iff.mp h);have hp:(fq dots ((cR w).map λc=>[c])).length<=12:=al (y3 _) (pE 4 hlen);refine ua (a:=dots++fq dots ((cR w).map λc=>[c])++dots) (b:=cR x) (by decide) hO (aB (h:=aR (a:=.str (S (dots++fq dots ((cR w).map λc=>[c])))) (b:=.str (S dots)) (aR (a:=.str (S dots)) (b:=.str (S (fq dots ((cR w).map λc=>[c])))) (by rfl) ?_ (ja ?_)) (by rfl) (ja ?_))) (aD (by decide) (aF ?_)) ?_
  ·refine oG (r:=.str (S dots)) (ds:=[.list (bp (lW w))]) (h0:=rfl) (hp:=rfl) (hl:=rfl) (h1:=by rfl) (h2:=aN (aB (h:=?_)) bC) (h:=?_)
   ·exact ze (by decide) (by decide) (by decide) (by decide) (by decide) (by decide) aM hk.2.2.2.2 (al hk.2.1 (by decide))
   ·rw[zM];refine un ?_;rw[wD,<- zM,tj];unfold lW;rw[bx];exact al (gN hlen (rJ 3 hk.2.1)) (by decide)
  ·exact al (fh hp 3) (by decide)
  ·rw[ci];exact al (d7 (fh hp 3) 3) (by decide)
  ·exact au (by decide) (eT (by decide) (by decide) aM)
  ·unfold cx;revert hne hlen;have hf:=AJ (w:=w);revert hf;refine aX (cR w) λl hf hlen hne=>?_;cases l with
   |nil=>exact absurd rfl hne
   |cons a r=>exact Ha hf (al hlen (by decide))
 ·rw[bx];exact dg (al (al (dv _ _) (K.lw _ (bf _))) (by decide))
end
noncomputable abbrev mZ:Str:=ag "answer"
noncomputable abbrev tK:Str:=ag "lift"
noncomputable def eZ:ab:=ba (aU aW 14).2 0
noncomputable def um (n k:Nat) (w:List Nat):List PV:=(gI n k w).map λs=>.list (ar s)
theorem OB {O:Orc}:(de 2 1).map (λw=>bT O 41 (bH eZ) (cj (bH eZ) [(cA,.sh (.int 3)),(eW,.sh (.list (ar w)))]) (dq eZ) (cV eZ) (dk eZ) (dU 0 2))=(de 2 1).map λw=>some (um 2 3 w):=by kernel_rfl
theorem Lh {O:Orc}:(de 3 1).map (λw=>bT O 41 (bH eZ) (cj (bH eZ) [(cA,.sh (.int 3)),(eW,.sh (.list (ar w)))]) (dq eZ) (cV eZ) (dk eZ) (dU 0 3))=(de 3 1).map λw=>some (um 3 3 w):=by kernel_rfl
theorem EI {O:Orc}:(de 2 2).map (λw=>bT O 41 (bH eZ) (cj (bH eZ) [(cA,.sh (.int 4)),(eW,.sh (.list (ar w)))]) (dq eZ) (cV eZ) (dk eZ) (dU 0 2))=(de 2 2).map λw=>some (um 2 4 w):=by kernel_rfl
structure Nl (n k:Nat):Prop where
 K:Nk n k
 li:∀O:Orc,∀w∈de n (k - 2),bT O 41 (bH eZ) (cj (bH eZ) [(cA,.sh (.int k)),(eW,.sh (.list (ar w)))]) (dq eZ) (cV eZ) (dk eZ) (dU 0 (n:Int))=some (um n k w)
theorem HS (z:Nat->Nat):Nl (kZ z) (kP z):=by
 unfold kZ kP;have:=tS z;revert this;refine aX (km z) λi hi=>?_
 match i,hi with
 |0,_=>exact⟨FC,λO=>kL OB⟩
 |1,_=>exact⟨NB,λO=>kL Lh⟩
 |2,_=>exact⟨ET,λO=>kL EI⟩
section
variable {O:Orc} {m:Nat} {sc:Scope} {σ:Sg} {n k:Nat}
theorem NI (K:Nk n k) {c:List (List Nat)} (hc:c∈cz (aQ k) n):sZ n k c:=be (qC.mp hc) λh1 h2=>⟨h1,λs hs=>(sT K.f (bf 2) s (h2 s hs)).1⟩
theorem oD (K:Nk n k) {c:List (List Nat)} (hc:c∈cz (aQ k) n) {u:List Nat} (hu:∀l∈u,l<n) {p:Nat} (hp:p<k) (hO:∀as,O.fn ef as=bQ pw (O5 pw) ef as) {q fp:Pos} {e1 e2 e3:ab} (hg:bS sc ef=true) (h1:pa O m sc σ e1=some (.list (ar u))) (h2:pa O m sc σ e2=some (dQ c)) (h3:pa O m sc σ e3=some (.int p)):pe O (m+1) sc σ (.Call (.Name ef fp) [e1,e2,e3] [] q)=some (.int (led c u p:Nat)):=
 gv (ds:=[.list (ar u),dQ c,.int p]) hg (aN h1 (aN h2 (aN h3 bC))) ((hO _).trans (HP (NI K hc) (λl hl=>⟨hu l hl,nE K.gd.1 hc (hu l hl)⟩) hp)) (.inr rfl)
theorem Ms (L:Nl n k) {w:List Nat} (hw:w∈de n (k - 2)) (h:σ.lookup cA=some (.sh (.int k))) (h1:σ.lookup eW=some (.sh (.list (ar w)))) (h2:σ.lookup db=some (.sh (.int n))):pe O 42 bg σ eZ=some (dQ (gI n k w)):=
 mx (H:=[(cA,.sh (.int k)),(eW,.sh (.list (ar w)))]) rfl (by decide) (md (by decide) (aC (by decide) h2) ⟨fL (by decide) (c7 _),fL (ej.mpr L.K.n3) (by decide)⟩) (fs:=[cA,eW]) (by decide) (λx hx=>by
   cases hx with
   |head=>exact h
   |tail _ hx=>rw[cN.mp hx];exact h1) (L.li O w hw)
  (by unfold gI;rw[bx,bx,i4];exact dg (al L.K.n3 (by decide)))
theorem sL {u v:List Nat} {i:Nat} {q r p:Pos} {kd:Nat} {j:Int} (hj:j=(i:Int)) (hv:bj sc iK=true) (hi:i<2) (h:σ.lookup iK=some (.sh (.list [eu n k u,eu n k v]))):pe O (m+2) sc σ (.Subscript (.Name iK q) (.Constant (.int j) kd r) p)=some (eu n k ([u,v].getD i [])):=by
 refine gM (a:=.list [eu n k u,eu n k v]) (k:=.int (i:Nat)) (h1:=aD hv (aF h)) (h2:=hj▸bc) (ho:=dX h) (h:=?_)
 match i,hi with
 |0,_=>rfl
 |1,_=>rfl
theorem zG (n k:Nat) (u:List Nat):fT (dY n (k - 2)) ((de n (k - 2)).map λw=>.bool (cx w u))=(de n (k - 2)).map λw=>.tup [.list (ar w),.bool (cx w u)]:=Bd _ _ _
theorem Mg {u:List Nat} (L:Nl n k) (hu:∀l∈u,l<n) (hO:∀as,O.fn ef as=bQ pw (O5 pw) ef as) (h:σ.lookup cA=some (.sh (.int k))) (h2:σ.lookup db=some (.sh (.int n))) (h3:σ.lookup eB=some (.sh (.list (ar u)))):∃σ',bU (b8 O 44 bg (aU aW 14).1 (aU aW 14).2) ((de n (k - 2)).map λw=>.tup [.list (ar w),.bool (cx w u)]) σ=some (.nx σ')/\Kp [eW,mZ,tK] σ σ':=by
 refine oN (step:=b8 O 44 bg (aU aW 14).1 (aU aW 14).2) (λ_ σ'=>Kp [eW,mZ,tK] σ σ') ((de n (k - 2)).map λw=>.tup [.list (ar w),.bool (cx w u)]) 0 σ (λi d σ1 hd P=>?_) Kp.refl;rw[iG] at hd;refine ah (gy.mp hd) λw hw e=>?_;have hw:=lG hw;subst e;have hk:=w2 L.K hw;have hc:=BJ L.K.gd hk.2.2.1;have g0:∀{x y:Ent},(put (put σ1 eW x) mZ y).lookup cA=some (.sh (.int k)):=au (by decide) (au (by decide) ((P cA (by decide)).trans h));have g1:∀{x y:Ent},(put (put σ1 eW x) mZ y).lookup db=some (.sh (.int n)):=au (by decide) (au (by decide) ((P db (by decide)).trans h2));have g2:∀{x y:Ent},(put (put (put σ1 eW x) mZ y) tK (.sh (dQ (gI n k w)))).lookup eB=some (.sh (.list (ar u))):=au (by decide) (au (by decide) (au (by decide) ((P eB (by decide)).trans h3)));refine az (put (put (put σ1 eW (.sh (.list (ar w)))) mZ (.sh (.bool (cx w u)))) tK (.sh (dQ (gI n k w)))) ?_ (((P.put (by decide)).put (by decide)).put (by decide));refine (?_:aJ O 44 bg (put (put σ1 eW (.sh (.list (ar w)))) mZ (.sh (.bool (cx w u)))) (aU aW 14).2=_);refine aT (bM (d:=dQ (gI n k w)) (by decide) (h:=Ms L hw g0 (au (by decide) aM) g1) (hs:=λζ ζ=>rfl)) (dW (bA (d:=.bool false) (h:=aB (h:=br (a:=.bool (cx w u)) (b:=.bool (decide (led (gI n k w) u 0=w.length))) (aD (by decide) (aF (au (by decide) aM))) (aB (h:=br (a:=.int (led (gI n k w) u 0:Nat)) (b:=.int (w.length:Nat)) (aB (h:=oD (p:=0) L.K hc hu (b9 (by decide) L.K.f.z.gt) hO (hg:=by decide) (h1:=aD (by decide) (aF g2)) (h2:=aD (by decide) (aF aM)) (h3:=aB (h:=bc)))) (aB (h:=oL (d:=.int (w.length:Nat)) (by decide) (aD (by decide) (aF (au (by decide) (au (by decide) aM)))) (dX (au (by decide) (au (by decide) aM))) ?_)) tV)) (rc.trans ?_))) (ht:=rfl)) a9 a9)
 ·refine aa nQ ?_;rw[oX]
 ·have e:cx w u=decide (led (gI n k w) u 0=w.length):=nX.mpr (rd.trans ((py hk.2.2.1 hu (iE _)).symm.trans decide_eq_true_iff.symm));rw[<- e,beq_self_eq_true];rfl
end
noncomputable abbrev kj:Str:=ag "same"
noncomputable abbrev jp:Str:=ag "alike"
section
variable {O:Orc} {m:Nat} {sc:Scope} {σ:Sg} {n k:Nat}
theorem Jk {e1 e2 e3:ab} {p:Pos} {a b c:Bool} (h1:pT O m sc σ e1=some a) (h2:pT O m sc σ e2=some b) (h3:pT O m sc σ e3=some c):pT O (m+1) sc σ (.BoolOp .And [e1,e2,e3] p)=some (a&&(b&&c)):=by
 refine (?_:(match yN,pT O m sc σ e1 with|.And,some false=>some false|.Or,some true=>some true|_,some _=>m9 (pT O m sc σ) .And [e2,e3]|_,none=>none)=_);refine aa h1 ?_
 induction a using d8 with
 |false=>rfl
 |true=>exact (BA h2 h3:pT O (m+1) sc σ (.BoolOp .And [e2,e3] p)=some (b&&c))
theorem Nw {x y z:Str} {q r s v:Pos} {k:Nat} {d e f:PV} (hx:bb sc x=true) (hy:bb sc y=true) (hz:bb sc z=true) (hxy:y≠x) (hzx:z≠x) (hzy:z≠y) (h:σ.lookup x=none) (h2:σ.lookup y=none) (h3:σ.lookup z=none):bu true sc 4 σ (.Tuple [.Name x q,.Name y r,.Name z v] k s) (.tup [d,e,f])=some (put (put (put σ x (.sh d)) y (.sh e)) z (.sh f)):=
 jC (gJ hx h) (jC (gJ hy (by (rewrite[dp];refine aa (if_neg hxy) ?_);exact h2)) (jC (gJ hz (by rewrite[dp];refine aa (if_neg hzy) ?_;rewrite[dp];refine aa (if_neg hzx) ?_;exact h3)) rfl))
theorem Lv:fA O 43 bg σ (ba aW 15)=some (.own (cb k 0)):=xe (ds:=[.list []]) rfl rfl
theorem Ck {j:Nat} (K:Nk n k) (hj:j<n) (h:σ.lookup dh=some (.sh (.list (cc (aQ k))))) (h1:σ.lookup fb=some (.sh (.list (cb k j)))):pe O 40 bg σ dc=some (.list (cb k (j+1))):=
 mx (H:=[(dh,.sh (.list (cc (aQ k))))]) rfl (by decide) (g8 rfl (aC (by decide) h1) rfl) (fs:=[dh]) (by decide) (λx hx=>by rw[cN.mp hx];exact h) (K.ch O j hj)
  (by unfold cb;rw[bx];exact dg (al (K.cl _ hj).1 (by decide)))
theorem Ot {x:Str} {q:Pos} {xs:List PV} {tt:Bool} (hv:bj sc x=true) (h:σ.lookup x=some (.own xs)):cr O (m+2) sc σ tt (.Name x q)=none:=by rw[ql rfl,zP hv h]
theorem MV (K:Nk n k) (h:σ.lookup dh=some (.sh (.list (cc (aQ k))))) (h1:σ.lookup fb=some (.own (cb k 0))):∃σ',bU (b8 O 42 bg (aU aW 16).1 (aU aW 16).2) (dU 0 (n:Int)) σ=some (.nx σ')/\Kp [fO,fb] σ σ'/\σ'.lookup fb=some (.sh (.list (cb k n))):=by
 rw[oq];have hl:((cL n).map λj:Nat=>PV.int (j:Nat)).length=n:=by rw[bx,i4]
 have:=oN (step:=b8 O 42 bg (aU aW 16).1 (aU aW 16).2) (λj σ'=>Kp [fO,fb] σ σ'/\(σ'.lookup fb=some (.sh (.list (cb k j)))\/j=0/\σ'.lookup fb=some (.own (cb k 0)))) ((cL n).map λj:Nat=>.int (j:Nat)) 0 σ (λi d σ1 hd P=>?_) ⟨Kp.refl,.inr ⟨rfl,h1⟩⟩
 ·rw[hl,e9] at this;refine ah this λσ' e P=>io σ' e P.1 (P.2.elim id λq=>absurd q.1 (kA (b9 (by decide) K.n2)))
 ·rw[e9] at P ⊢;have hi:i<n:=by have:=(pU.mp hd).1;rw[hl] at this;exact this
  have g0:∀{x:Ent},(put σ1 fO x).lookup dh=some (.sh (.list (cc (aQ k)))):=au (by decide) ((P.1 dh (by decide)).trans h);refine P.2.elim (λc=>?_) λc=>?_
  ·refine az (put (put σ1 fO (.sh d)) fb (.sh (.list (cb k (i+1))))) ?_ ⟨(P.1.put (by decide)).put (by decide),.inl aM⟩;refine (?_:aJ O 42 bg (put σ1 fO (.sh d)) (aU aW 16).2=_);exact aT (bM (d:=.list (cb k (i+1))) (by decide) (h:=Ck K hi g0 (au (by decide) c)) (hs:=λζ ζ=>rfl)) a9
  ·refine be c λc0 c=>?_;have c':(put σ1 fO (.sh d)).lookup fb=some (.own (cb k i)):=by rw[c0];exact au (by decide) c
   refine az (put (put (put σ1 fO (.sh d)) fb (.sh (.list (cb k i)))) fb (.sh (.list (cb k (i+1))))) ?_ ⟨((P.1.put (by decide)).put (by decide)).put (by decide),.inl aM⟩;refine (?_:aJ O 42 bg (put σ1 fO (.sh d)) (aU aW 16).2=_);refine Ch (Cc (h:=Ao (Ot (by decide) c'))) ?_ a9;refine (?_:px O 41 bg (unown1 (put σ1 fO (.sh d)) fb) _=_);rw[Ho c'];exact bM (d:=.list (cb k (i+1))) (by decide) (h:=Ck K hi (au (by decide) g0) aM) (hs:=λζ ζ=>rfl)
theorem Fw (K:Nk n k) (h:σ.lookup db=some (.sh (.int n))) {tt:Bool}:cr O 42 bg σ tt (eQ aW 16)=some (dU 0 (n:Int)):=
 md (by decide) (aC (by decide) h) ⟨fL (by decide) (c7 _),fL (ej.mpr K.n3) (by decide)⟩
theorem Af {α:Type} (f g h:α->PV):∀l:List α,gn (l.map f) (l.map g) (l.map h)=l.map λx=>.tup [f x,g x,h x]
 |[]=>rfl
 |a::l=>congrArg (PV.tup [f a,g a,h a]:: ·) (Af f g h l)
theorem Ma {fp p:Pos} {e1 e2 e3:ab} {xs ys zs:List PV} (hg:bS sc (ag "zip")=true) (h1:pe O m sc σ e1=some (.list xs)) (h2:pe O m sc σ e2=some (.list ys)) (h3:pe O m sc σ e3=some (.list zs)) (hy:ys.length=xs.length) (hz:zs.length=xs.length):cr O (m+1) sc σ true (.Call (.Name (ag "zip") fp) [e1,e2,e3] [] p)=some (gn xs ys zs):=by refine aa mY (aa (if_pos hg) ?_);rw[aN h1 (aN h2 (aN h3 bC))];dsimp only;rw[hy,hz,beq_self_eq_true,beq_self_eq_true];rfl
noncomputable def vC (n k:Nat) (u v:List Nat):List (List Nat):=(de n (k - 2)).filter λw=> !(cx w v==cx w u)
noncomputable def eU (n k:Nat) (u v:List Nat):Bool:=(vC n k u v).isEmpty
theorem MC {u v:List Nat} (h1:σ.lookup ev=some (.sh (.list (dY n (k - 2))))) (h2:σ.lookup iK=some (.sh (.list [eu n k u,eu n k v]))) (K:Nk n k):pe O 41 bg σ (zF aW 17 0)=some (.bool (eU n k u v)):=by
 have hl:∀x,((de n (k - 2)).map λw=>PV.bool (cx w x)).length=(dY n (k - 2)).length:=λx=>by unfold dY;rw[bx,qL]
 refine br (n:=40) (a:=.list (cc (vC n k u v))) (b:=.list []) (aB (h:=?_)) (aB (h:=rfl)) (B6 _);refine gp (n:=38) (by decide) (Ma (m:=37) (by decide) (aC (by decide) h1) (sL (u:=u) (v:=v) (i:=1) rfl (by decide) (by decide) h2) (sL (u:=u) (v:=v) (i:=0) rfl (by decide) (by decide) h2) (hl _) (hl _)) ?_ ?_
 ·refine (congrArg (bT O 38 _ _ _ _ _) (Af (λw:List Nat=>.list (ar w)) (λw=>.bool (cx w v)) (λw=>.bool (cx w u)) (de n (k - 2)))).trans ?_;refine vy (F:=λw:List Nat=>.tup [.list (ar w),.bool (cx w v),.bool (cx w u)]) (G:=λw=>.list (ar w)) (c:=λw=> !(cx w v==cx w u)) λw _=>?_;refine io _ (Nw (by decide) (by decide) (by decide) (by decide) (by decide) (by decide) (eE (by decide) (by decide)) (eE (by decide) (by decide)) (eE (by decide) (by decide))) ?_ λ_=>?_
  ·refine (?_:(match pT O 37 _ _ _ with|some true=>some true|some false=>some false|none=>none)=_);rw[bA (d:=.bool (!(cx w v==cx w u))) (h:=aB (h:=br (a:=.bool (cx w v)) (b:=.bool (cx w u)) (aD (by decide) (aF (au (by decide) aM))) (aD (by decide) (aF aM)) rc)) (ht:=rfl)];cases !(cx w v==cx w u)<;>rfl
  ·exact aC (by decide) (au (by decide) (au (by decide) aM))
 ·rw[qL];exact dg (al (vo _ _) (al (dv _ _) (al (K.lw _ (bf _)) (by decide))))
end
noncomputable def kc (k n:Nat):List PV:=(cz (aQ k) n).reverse.map dQ
theorem M0:eG (.list (cb 3 2)) none none (some (-1))=some (.list (kc 3 2)):=by kernel_rfl
theorem EU:eG (.list (cb 3 3)) none none (some (-1))=some (.list (kc 3 3)):=by kernel_rfl
theorem EP:eG (.list (cb 4 2)) none none (some (-1))=some (.list (kc 4 2)):=by kernel_rfl
structure Nm (n k:Nat):Prop where
 L:Nl n k
 rv:eG (.list (cb k n)) none none (some (-1))=some (.list (kc k n))
theorem Pf (z:Nat->Nat):Nm (kZ z) (kP z):=by
 refine⟨HS z,?_⟩;unfold kZ kP;have:=tS z;revert this;refine aX (km z) λi hi=>?_
 match i,hi with
 |0,_=>exact M0
 |1,_=>exact EU
 |2,_=>exact EP
noncomputable def iJ (u v:List Nat) (cs:List (List (List Nat))):Bool:=(u==v)||cs.all λc=>led c u 0==led c v 0
section
variable {O:Orc} {m:Nat} {sc:Scope} {σ:Sg} {n k:Nat} {u v:List Nat}
theorem KH (M:Nm n k) (h:σ.lookup fb=some (.sh (.list (cb k n)))) {tt:Bool}:cr O 40 bg σ tt (eQ aW 18)=some (kc k n):=
 g8 (d:=.list (kc k n)) rfl (jF (a:=.list (cb k n)) (l:=none) (h:=none) (s:=some (-1)) (aC (by decide) h) rfl rfl (gY (s8 bc) (by decide)) M.rv) rfl
theorem J7 {a b c:Bool}:(if ((a||b)&&(!a&& !c))=true then false else (a||b))=(a||(b&&c)):=by revert a b c;decide
theorem IW (M:Nm n k) (hu:∀l∈u,l<n) (hv:∀l∈v,l<n) (hO:∀as,O.fn ef as=bQ pw (O5 pw) ef as) (h1:σ.lookup eB=some (.sh (.list (ar u)))) (h2:σ.lookup gV=some (.sh (.list (ar v)))) (h3:σ.lookup jp=some (.sh (.bool true))):∃σ',bU (b8 O 40 bg (aU aW 18).1 (aU aW 18).2) (kc k n) σ=some (.nx σ')/\Kp [eI,jp] σ σ'/\σ'.lookup jp=some (.sh (.bool (iJ u v (cz (aQ k) n).reverse))):=by
 have hl:(kc k n).length=(cz (aQ k) n).reverse.length:=bx _;have:=oN (step:=b8 O 40 bg (aU aW 18).1 (aU aW 18).2) (λi σ'=>Kp [eI,jp] σ σ'/\σ'.lookup jp=some (.sh (.bool (iJ u v ((cz (aQ k) n).reverse.take i))))) (kc k n) 0 σ (λi d σ1 hd P=>?_) ⟨Kp.refl,by rw[h3];unfold iJ;rw[yD,List.all_nil,Bool.or_true]⟩
 ·rw[hl,e9,n0] at this;exact this
 ·rw[e9] at P ⊢;unfold kc at hd;rw[iG] at hd;refine ah (gy.mp hd) λc hc e=>?_;subst e;have hm:c∈cz (aQ k) n:=oa.mp (lG hc);have g1:∀{x:Ent},(put σ1 eI x).lookup eB=some (.sh (.list (ar u))):=au (by decide) ((P.1 eB (by decide)).trans h1);have g2:∀{x:Ent},(put σ1 eI x).lookup gV=some (.sh (.list (ar v))):=au (by decide) ((P.1 gV (by decide)).trans h2);have hp:0<k:=b9 (by decide) M.L.K.f.z.gt;have ht:pT O 38 bg (put σ1 eI (.sh (dQ c))) (ba (aU aW 18).2 0)=some (iJ u v ((cz (aQ k) n).reverse.take i)&&(!(u==v)&& !(led c u 0==led c v 0))):=
   Jk (bA (d:=.bool (iJ u v ((cz (aQ k) n).reverse.take i))) (h:=aD (by decide) (aF (au (by decide) P.2))) (ht:=rfl))
    (bA (d:=.bool (!(u==v))) (h:=aB (h:=br (a:=.list (ar u)) (b:=.list (ar v)) (aD (by decide) (aF g1)) (aD (by decide) (aF g2)) Bx)) (ht:=rfl))
    (bA (d:=.bool (!(led c u 0==led c v 0))) (h:=aB (h:=br (a:=.int (led c u 0:Nat)) (b:=.int (led c v 0:Nat)) (aB (h:=oD (p:=0) M.L.K hm hu hp hO (hg:=by decide) (h1:=aD (by decide) (aF g1)) (h2:=aD (by decide) (aF aM)) (h3:=aB (h:=bc)))) (aB (h:=oD (p:=0) M.L.K hm hv hp hO (hg:=by decide) (h1:=aD (by decide) (aF g2)) (h2:=aD (by decide) (aF aM)) (h3:=aB (h:=bc)))) xj)) (ht:=rfl))
  have hn:iJ u v ((cz (aQ k) n).reverse.take (i+1))=(if (iJ u v ((cz (aQ k) n).reverse.take i)&&(!(u==v)&& !(led c u 0==led c v 0)))=true then false else iJ u v ((cz (aQ k) n).reverse.take i)):=by unfold iJ;rw[J7,Si,hc,vm];show (_||(_&&(_&&true)))=_;rw[sn]
  rw[hn];revert ht;refine aX (iJ u v ((cz (aQ k) n).reverse.take i)&&(!(u==v)&& !(led c u 0==led c v 0))) λt ht=>?_;cases t with
  |true=>refine az (put (put σ1 eI (.sh (dQ c))) jp (.sh (.bool false))) ?_ ⟨(P.1.put (by decide)).put (by decide),aM⟩;refine (?_:aJ O 40 bg (put σ1 eI (.sh (dQ c))) (aU aW 18).2=_);exact ig ht (aT (bM (d:=.bool false) (by decide) (h:=kS) (hs:=λζ z=>nomatch z)) a9) a9
  |false=>refine az (put σ1 eI (.sh (dQ c))) ?_ ⟨P.1.put (by decide),au (by decide) P.2⟩;refine (?_:aJ O 40 bg (put σ1 eI (.sh (dQ c))) (aU aW 18).2=_);exact dW ht a9 a9
theorem A9:eU n k u v=true↔∀w∈de n (k - 2),(w.Sublist u↔w.Sublist v):=by unfold eU vC;rw[List.isEmpty_iff,RU];refine forall_congr' λw=>forall_congr' λ_=>?_;rw[Bool.not_eq_true,Bool.not_eq_false',beq_iff_eq,nX,show (cx w v=true↔w.Sublist v) from rd,show (cx w u=true↔w.Sublist u) from rd];exact⟨Sk,Sk⟩
theorem Mr (M:Nm n k) (hu:∀l∈u,l<n) (hv:∀l∈v,l<n):eU n k u v=iJ u v (cz (aQ k) n).reverse:=by refine nX.mpr (A9.trans ((PI M.L.K.gd (al (by decide) M.L.K.f.z.gt) hu hv).trans ?_));unfold iJ;rw[vh,c9,beq_iff_eq];refine⟨λh=>.inr λc hc=>beq_iff_eq.mpr (h c (oa.mp hc)),λh=>h.elim (λe c _=>by rw[e]) λh c hc=>beq_iff_eq.mp (h c (oa.mpr hc))⟩
theorem KO (M:Nm n k) (hu:∀l∈u,l<n) (hv:∀l∈v,l<n) (h1:σ.lookup kj=some (.sh (.bool (eU n k u v)))) (h2:σ.lookup jp=some (.sh (.bool (iJ u v (cz (aQ k) n).reverse)))):pT O 39 bg σ (ba aW 19)=some false:=by rw[<- Mr M hu hv] at h2;exact bA (d:=.bool false) (h:=aB (h:=br (a:=.bool (eU n k u v)) (b:=.bool (eU n k u v)) (aD (by decide) (aF h1)) (aD (by decide) (aF h2)) (rc.trans (by rw[beq_self_eq_true];rfl)))) (ht:=rfl)
theorem EX {z:Nat->Nat} (K:Nk n k) (h:σ.lookup dy=some (.sh (fB z))) (h1:σ.lookup fb=some (.sh (.list (cb k n)))):∃c,c∈cz (aQ k) n/\pe O 38 bg σ (ba aW 20)=some (dQ c):=by have hl:0<(cz (aQ k) n).length:=(K.cl n (bf _)).2;have hi:z 5%(cz (aQ k) n).length<(cz (aQ k) n).length:=gf _ hl;have hc:(cb k n).length=(cz (aQ k) n).length:=bx _;refine az ((cz (aQ k) n)[z 5%(cz (aQ k) n).length]'hi) (rR hi) ?_;refine gM (a:=.list (cb k n)) (k:=.int (z 5%(cz (aQ k) n).length:Nat)) (h1:=aD (by decide) (aF h1)) (h2:=aR (a:=.int (z 5:Nat)) (b:=.int ((cz (aQ k) n).length:Nat)) (jo (i:=5) rfl (by decide) (by decide) h) (oL (d:=.int ((cz (aQ k) n).length:Nat)) (by decide) (aD (by decide) (aF h1)) (dX h1) (by refine aa nQ ?_;rw[hc])) (ij (kA hl))) (ho:=dX h1) (h:=?_);refine (oM (by rw[hc];exact hi)).trans ?_;unfold cb;rw[iG,el hi];rfl
end
noncomputable abbrev uo:Str:=ag "base"
noncomputable def gB (b k:Nat) (c:List (List Nat)) (w:List Nat):List Nat:=(cL k).map λp=>b+k*p+led c w p
noncomputable def sw (l:List Nat):Bool:=iY 0 ((l.map (2^ ·)).sum)&&iY ((l.map (2^ ·)).sum) (2^32)&&jh ((l.map (2^ ·)).sum)==l
theorem BI {a:Nat}:∀{l:List Nat},(∀x∈l,a<x)->2^(a+1) ∣ (l.map (2^ ·)).sum
 |[],_=>Nat.dvd_zero _
 |x::l,h=>by rw[cS,iI];exact Nat.dvd_add (Nat.pow_dvd_pow 2 (h x (.head _))) (BI λy hy=>h y (.tail _ hy))
theorem BX:∀{l:List Nat},l.Pairwise (·< ·)->∀i,((l.map (2^ ·)).sum).testBit i=decide (i∈l)
 |[],_,i=>(yM i).trans (decide_eq_false (λh=>nomatch h)).symm
 |a::l,h,i=>by obtain ⟨q,e⟩:=BI (Sl.mp h).1;have ih:=BX (Sl.mp h).2 i;rw[cS,iI,iW,e,Nat.two_pow_add_eq_or_of_lt (Se (by decide) (i0 a)),Nat.testBit_or,<- e,ih,yL,<- Bool.decide_or];exact decide_eq_decide.mpr ⟨λh=>h.elim (.tail _) λe=>e▸.head _,λh=>(av.mp h).symm.imp id eh⟩
theorem N5 {l:List Nat} (h:l.Pairwise (·< ·)) (hn:l≠[]) (hl:∀x∈l,x<32):sw l=true:=by
 have hb:=BX h;have h1:jh ((l.map (2^ ·)).sum)=l:=by refine Tq (le:=(·<= ·)) (λa b _ _=>lH) (((List.pairwise_lt_range' (s:=0) (n:=32)).filter _).imp dE) (h.imp dE) ((List.perm_ext_iff_of_nodup ((List.nodup_range' ..).filter _) (h.imp ku)).mpr λx=>?_);rw[lp,hb,decide_eq_true_iff];exact⟨And.right,λq=>⟨mT.mpr ⟨iE x,(e9 32).symm▸hl x q⟩,q⟩⟩
 unfold sw;rw[h1,beq_self_eq_true,sn];refine jT.mpr ⟨dg ?_,dg (Nat.lt_pow_two_of_testBit _ λi hi=>(hb i).trans (decide_eq_false λq=>uH.mpr hi (hl i q)))⟩;cases l with
 |nil=>exact absurd rfl hn
 |cons a r=>rw[cS,iI];exact al (u9 a) (fI _ _)
theorem BV {b k:Nat} {c:List (List Nat)} {u:List Nat} (h4:k<=4) (hb:b<16) (hq:∀p,p<k->led c u p<k):∀i∈gB b k c u,i<32:=λi hi=>ah (dG.mp hi) λp hp e=>by have hp:=hU.mp hp;have h1:=hq p hp;have h2:k*p<=4*3:=kE h4 (jS (b9 hp h4));subst e;omega
theorem PD {b k:Nat} {c:List (List Nat)} {w:List Nat} (h3:3<=k) (h4:k<=4) (hb:b<16) (hq:∀p,p<k->led c w p<k):sw (gB b k c w)=true:=by
 refine N5 (List.pairwise_map.mpr (List.pairwise_lt_range.imp_of_mem λ{p q} hp _ h=>?_)) (λe=>?_) (BV h4 hb hq)
 ·have h1:=hq p (hU.mp hp);have h2:k*p+k<=k*q:=pE k h;omega
 ·have:=congrArg iB e;unfold gB at this;rw[bx,i4] at this;exact absurd h3 (this▸(by decide))
theorem Ap:∀(l:List Nat) (p M:Nat),p<=M->(∀x∈l,x<=M)->(p=M\/M∈l)->l.foldl ew p=M
 |[],p,M,_,_,h=>h.elim id λh=>nomatch h
 |a::l,p,M,hp,hl,h=>Ap l (ew p a) M (Ew.mpr ⟨hp,hl a (.head _)⟩) (λx hx=>hl x (.tail _ hx)) (h.elim (λe=>.inl (lH (Ew.mpr ⟨hp,hl a (.head _)⟩) (e▸Nat.le_max_left _ _))) λh=>by
  cases h with
  |head=>exact .inl (lH (Ew.mpr ⟨hp,hl _ (.head _)⟩) (Nat.le_max_right _ _))
  |tail _ h=>exact .inr h)
theorem My (a b:Nat):ew (a:Int) (b:Int)=((ew a b:Nat):Int):=(Nat.le_total a b).elim (λh=>by rw[Nat.max_eq_right h,xW (ej.mpr h)]) λh=>by rw[Nat.max_eq_left h,C7 (ej.mpr h)]
theorem Bp:∀(l:List Nat) (p:Nat),(l.map λx:Nat=>(x:Int)).foldl ew (p:Int)=((l.foldl ew p:Nat):Int)
 |[],_=>rfl
 |a::l,p=>by refine (?_:(l.map λx:Nat=>(x:Int)).foldl ew (ew (p:Int) (a:Int))=_);rw[My];exact Bp l (ew p a)
section
variable {O:Orc} {m:Nat} {sc:Scope} {σ:Sg} {n k:Nat} {u v:List Nat} {c:List (List Nat)}
theorem Pz {p:Nat} {l:List Nat}:dr O (ag "max") [.list (ar (p::l))]=some (.int (l.foldl ew p:Nat)):=by
 refine (?_:(match ji (ar (p::l)) with|some (y::l)=>some (PV.int (l.foldl ew y))|_=>none)=_);have e:ar (p::l)=((p::l).map λx:Nat=>(x:Int)).map PV.int:=by unfold ar;rw[fj];rfl
 rw[e,uy,cS];exact congrArg (λx=>some (PV.int x)) (Bp l p)
theorem IE (M:Nm n k) (hc:c∈cz (aQ k) n) (hv:∀l∈v,l<n) {p:Nat} (hp:p<k):(((de n (k - 2)).filter λw=>cx w v).map λw=>led c w p).foldl ew p=led c v p:=by
 have hs:∀l∈v,kn k c l:=λl hl=>nE M.L.K.gd.1 hc (hv l hl);refine Ap _ _ _ (oJ hs hp).1 (λx hx=>ah (dG.mp hx) λw hw e=>e▸BU (rd.mp (lp.mp hw).2) hs hp) ?_;refine bB (sQ hs hp) λw h1 h2 h3=>?_
 by_cases hw:w=[]
 ·subst hw;exact .inl h3
 ·have hlt:p+w.length<k:=eN h2 (oJ hs hp).2;have h3':=M.L.K.f.z.gt;refine .inr (dG.mpr ⟨w,lp.mpr ⟨nc.mpr ⟨⟨hw,by omega⟩,λl hl=>hv l (h1.subset hl)⟩,rd.mpr h1⟩,h3⟩)
theorem Ng (M:Nm n k) (hc:c∈cz (aQ k) n) (hv:∀l∈v,l<n) (hO:∀as,O.fn ef as=bQ pw (O5 pw) ef as) (h1:σ.lookup gV=some (.sh (.list (ar v)))) (h2:σ.lookup eI=some (.sh (dQ c))) (h3:σ.lookup ev=some (.sh (.list (dY n (k - 2))))) (h4:σ.lookup iK=some (.sh (.list [eu n k u,eu n k v]))):∃σ',bU (b8 O 37 bg (aU aW 21).1 (aU aW 21).2) (dU 0 (k:Int)) σ=some (.nx σ')/\Kp [gX] σ σ':=by
 rw[oq];refine oN (step:=b8 O 37 bg (aU aW 21).1 (aU aW 21).2) (λ_ σ'=>Kp [gX] σ σ') ((cL k).map λj:Nat=>.int (j:Nat)) 0 σ (λi d σ1 hd P=>?_) Kp.refl;rw[iG] at hd;refine ah (gy.mp hd) λp hp e=>?_;subst e;have hp:=hU.mp (lG hp);have g1:∀{x:Ent},(put σ1 gX x).lookup gV=some (.sh (.list (ar v))):=au (by decide) ((P gV (by decide)).trans h1);have g2:∀{x:Ent},(put σ1 gX x).lookup eI=some (.sh (dQ c)):=au (by decide) ((P eI (by decide)).trans h2);have g3:∀{x:Ent},(put σ1 gX x).lookup ev=some (.sh (.list (dY n (k - 2)))):=au (by decide) ((P ev (by decide)).trans h3);have g4:∀{x:Ent},(put σ1 gX x).lookup iK=some (.sh (.list [eu n k u,eu n k v])):=au (by decide) ((P iK (by decide)).trans h4);refine az (put σ1 gX (.sh (.int (p:Nat)))) ?_ (P.put (by decide));refine (?_:aJ O 37 bg (put σ1 gX (.sh (.int (p:Nat)))) (aU aW 21).2=_);have hlen:((de n (k - 2)).filter λw=>cx w v).length<=100:=al (vo _ _) (al (dv _ _) (M.L.K.lw _ (bf _)))
 refine dW (bA (d:=.bool false) (h:=aB (h:=br (a:=.int (led c v p:Nat)) (b:=.int (led c v p:Nat)) (aB (h:=oD M.L.K hc hv hp hO (hg:=by decide) (h1:=aD (by decide) (aF g1)) (h2:=aD (by decide) (aF g2)) (h3:=aD (by decide) (aF aM))))
  (aB (h:=gv (d:=.int (led c v p:Nat)) (ds:=[.list (ar (p::((de n (k - 2)).filter λw=>cx w v).map λw=>led c w p))]) (by decide) (aN (aB (h:=aR (a:=.list (ar [p])) (b:=.list (ar (((de n (k - 2)).filter λw=>cx w v).map λw=>led c w p))) (CV (aN (aC (by decide) aM) bC) rfl) ?_ (rF (a:=[p]) ?_))) bC) (Pz.trans (by rw[IE M hc hv hp])) (.inr rfl))) (xj.trans (by rw[beq_self_eq_true];rfl)))) (ht:=rfl)) a9 a9
 ·refine gp (ys:=((de n (k - 2)).filter λw=>cx w v).map λw=>.int (led c w p:Nat)) (by decide) (B1 (by decide) (aC (by decide) g3) (sL (u:=u) (v:=v) (i:=1) rfl (by decide) (by decide) g4)) ?_ ?_ |>.trans ?_
  ·refine (congrArg (bT O _ _ _ _ _ _) (zG n k v)).trans ?_;refine vy (F:=λw:List Nat=>.tup [.list (ar w),.bool (cx w v)]) (G:=λw=>.int (led c w p:Nat)) (c:=λw=>cx w v) λw hw=>?_;refine io _ (sR (by decide) (by decide) (by decide) (eE (by decide) (by decide)) (eE (by decide) (by decide))) ?_ λ_=>?_
   ·refine (?_:(match pT O _ _ _ _ with|some true=>some true|some false=>some false|none=>none)=_);rw[bA (d:=.bool (cx w v)) (h:=aD (by decide) (aF aM)) (ht:=rfl)];cases cx w v<;>rfl
   ·exact oD M.L.K hc (w2 M.L.K hw).2.2.2.1 hp hO (hg:=by decide) (h1:=aD (by decide) (aF (au (by decide) aM))) (h2:=aD (by decide) (aF (au (by decide) (au (by decide) (eT (by decide) (by decide) g2))))) (h3:=aD (by decide) (aF (au (by decide) (au (by decide) (eT (by decide) (by decide) aM)))))
  ·rw[bx];exact dg (al hlen (by decide))
  ·unfold ar;rw[fj];rfl
 ·rw[bx];exact al (fh (al (vo _ _) (al (dv _ (m7 n (k - 2)).length) (M.L.K.lw _ (bf _)))) 1) (by decide)
end
noncomputable abbrev sM:Str:=ag "table"
noncomputable abbrev uu:Str:=ag "due"
section
variable {O:Orc} {m:Nat} {sc:Scope} {σ:Sg} {n k:Nat} {u v:List Nat} {c:List (List Nat)}
theorem Ls {z:Nat->Nat} (h:σ.lookup dy=some (.sh (fB z))):pe O 36 bg σ (ba aW 22)=some (.int (z 6%16:Nat)):=
 aR (a:=.int (z 6:Nat)) (b:=.int (16:Nat)) (jo (i:=6) rfl (by decide) (by decide) h) bc (ij (by decide))
theorem E3 {b:Nat} {s:Bool} (M:Nm n k) (hc:c∈cz (aQ k) n) (hu:∀l∈u,l<n) (hv:∀l∈v,l<n) (hO:∀as,O.fn ef as=bQ pw (O5 pw) ef as) (h1:σ.lookup eB=some (.sh (.list (ar u)))) (h2:σ.lookup gV=some (.sh (.list (ar v)))) (h3:σ.lookup eI=some (.sh (dQ c))) (h4:σ.lookup uo=some (.sh (.int b))) (h5:σ.lookup cA=some (.sh (.int k))) (h6:σ.lookup kj=some (.sh (.bool s))):pe O 35 bg σ (ba aW 23)=some (.list ([u,if s=true then v else u].map λw=>.list (ar (gB b k c w)))):=by
 have h4k:=M.L.K.f.z.le;refine gp (n:=34) (xs:=[u,if s=true then v else u].map λw=>.list (ar w)) (ys:=[u,if s=true then v else u].map λw=>.list (ar (gB b k c w))) (by decide) (g8 (n:=33) (d:=.tup [.list (ar u),.list (ar (if s=true then v else u))]) rfl (rh (aN (aC (by decide) h1) (aN (wE (c:=s) (bA (d:=.bool s) (h:=aD (by decide) (aF h6)) (ht:=rfl)) (λhs=>?_) λhs=>?_) bC)) rfl) rfl)
  (ik (F:=λw:List Nat=>.list (ar w)) (G:=λw:List Nat=>.list (ar (gB b k c w))) λw hw=>?_) rfl
 ·rw[if_pos hs];exact aC (by decide) h2
 ·rw[hs];exact aC (by decide) h1
 ·refine az _ (gJ (by decide) (eE (by decide) (by decide))) ?_;have hwn:∀l∈w,l<n:=by
   cases hw with
   |head=>exact hu
   |tail _ hw=>rw[cN.mp hw];cases s with
    |true=>exact hv
    |false=>exact hu
  refine gp (n:=32) (xs:=(cL k).map λp:Nat=>.int (p:Nat)) (ys:=(cL k).map λp=>.int (b+k*p+led c w p:Nat)) (by decide) ?_ (ik (α:=Nat) (F:=λp:Nat=>.int (p:Nat)) (G:=λp=>.int (b+k*p+led c w p:Nat)) λp hp=>?_) ?_ |>.trans ?_
  ·rw[<- oq];exact md (by decide) (aC (by decide) (au (by decide) (eT (by decide) (by decide) h5))) ⟨fL (by decide) (c7 _),fL (ej.mpr h4k) (by decide)⟩
  ·refine az _ (gJ (by decide) (eE (by decide) (by decide))) ?_;refine aR (a:=.int (b+k*p:Nat)) (b:=.int (led c w p:Nat)) (aR (a:=.int (b:Nat)) (b:=.int (k*p:Nat)) (aC (by decide) ?_) (aR (a:=.int (k:Nat)) (b:=.int (p:Nat)) (aC (by decide) ?_) (aC (by decide) aM) ?_) rfl) (oD M.L.K hc hwn (hU.mp hp) hO (hg:=by decide) (h1:=aD (by decide) (aF ?_)) (h2:=aD (by decide) (aF ?_)) (h3:=aD (by decide) (aF aM))) rfl
   ·exact au (by decide) (eT (by decide) (by decide) (au (by decide) (eT (by decide) (by decide) h4)))
   ·exact au (by decide) (eT (by decide) (by decide) (au (by decide) (eT (by decide) (by decide) h5)))
   ·rw[kK (.inl (al (hF (k:=3) (eN h4k (by decide))) (by decide)))];rfl
   ·exact au (by decide) (eT (by decide) (by decide) aM)
   ·exact au (by decide) (eT (by decide) (by decide) (au (by decide) (eT (by decide) (by decide) h3)))
  ·rw[bx,i4];exact dg (al h4k (by decide))
  ·unfold ar gB;rw[fj];rfl
theorem JE {x t:Str} {i k1 k2:Nat} (hi:i<32) {p1 p2 p3 p4 p5 p6 p7 p8 p9 p10 p11 p12:Pos} (hv1:bj sc x=true) (hv2:bj sc t=true) (hg:bS sc (ag "hex")=true) (h1:σ.lookup x=some (.sh (.int i))) (h2:σ.lookup t=some (.sh tabP)):pe O (m+6) sc σ (.IfExp (.Compare (.Name x p1) [.Lt] [.Constant (.int 10) k1 p2] p3) (.Subscript (.Name t p4) (.Name x p5) p6) (.Call (.Name (ag "hex") p7) [.BinOp (.Constant (.int 2) k2 p8) .Pow (.Name x p9) p10] [] p11) p12)=some (.str (cJ i)):=by
 refine wE (c:=decide ((i:Int)<10)) (bA (d:=.bool (decide ((i:Int)<10))) (h:=aB (h:=br (a:=.int i) (b:=.int 10) (aD hv1 (aF h1)) (aB (h:=bc)) rfl)) (ht:=rfl)) (λhc=>?_) (λhc=>?_)
 ·have hi10:i<10:=oh.mp (of_decide_eq_true hc);refine gM (h1:=aD hv2 (aF h2)) (h2:=aC hv1 h1) (ho:=dX h2) (h:=?_);unfold tabP;rw[oM (by rw[bx];exact hi10),iG,Ov i hi10];rfl
 ·have hi10:10<=i:=uH.mp λq=>of_decide_eq_false hc (oh.mpr q);refine gv (ds:=[.int ((2^i:Nat):Int)]) hg (aN (aB (h:=aR bc (aC hv1 h1) (tA (al (dE hi) (by decide))))) bC) ?_ (.inr rfl);have hh:dr O (ag "hex") [.int ((2^i:Nat):Int)]=if bt (mw i).length=true then some (.str (mw i)) else none:=rfl
  exact aa hh (aa (if_pos (Aa i hi)) (aa (Mj i hi hi10) rfl))
noncomputable def nC (l:List Nat):PV:=.str (S (fq lK (l.map λi=>Lx (cJ i))))
noncomputable def lJ (f g:List Nat):PV:=.list ([f,g].map λl=>.list (ar l))
theorem Az {f g:List Nat} {i:Nat} {x:Str} {q r p:Pos} {kd:Nat} {j:Int} (hj:j=(i:Int)) (hv:bj sc x=true) (hi:i<2) (h:σ.lookup x=some (.sh (lJ f g))):pe O (m+2) sc σ (.Subscript (.Name x q) (.Constant (.int j) kd r) p)=some (.list (ar ([f,g].getD i []))):=by
 refine gM (a:=lJ f g) (k:=.int (i:Nat)) (h1:=aD hv (aF h)) (h2:=hj▸bc) (ho:=dX h) (h:=?_)
 match i,hi with
 |0,_=>rfl
 |1,_=>rfl
theorem NR {f g:List Nat} (hf:∀i∈f,i<32) (hl:f.length<=4) (h1:σ.lookup eV=some (.sh (lJ f g))) (h2:σ.lookup sM=some (.sh tabP)):pe O 33 bg σ (ba aW 25)=some (nC f):=by
 refine oG (r:=.str (S lK)) (ds:=[.list (bp (f.map λi=>Lx (cJ i)))]) (h0:=rfl) (hp:=rfl) (hl:=rfl) (h1:=by rfl) (h2:=aN (aB (h:=?_)) bC) (h:=?_)
 ·refine gp (n:=30) (xs:=ar f) (ys:=f.map λi=>.str (cJ i)) (by decide) (g8 (d:=.list (ar f)) rfl (Az (f:=f) (g:=g) (i:=0) rfl (by decide) (by decide) h1) rfl) (ik (α:=Nat) (F:=λi:Nat=>.int (i:Nat)) (G:=λi=>.str (cJ i)) λi hi=>?_) ?_ |>.trans ?_
  ·refine az _ (gJ (by decide) (eE (by decide) (by decide))) ?_;exact JE (hf i hi) (by decide) (by decide) (by decide) aM (au (by decide) (eT (by decide) (by decide) h2))
  ·rw[bx];exact dg (al hl (by decide))
  ·unfold bp;rw[fj];exact congrArg (λl=>some (PV.list l)) (so λi _=>congrArg PV.str (wF (cJ i)).symm)
 ·have hs:∀l:List Nat,(∀i∈l,i<32)->((l.map λi=>Lx (cJ i)).map iB).sum<=l.length*20:=λl=>by
   induction l with
   |nil=>exact λ_=>bf _
   |cons a l ih=>intro h;rw[cS,cS,iI,pZ,Nat.succ_mul,iW];exact gN (ih λi hi=>h i (.tail _ hi)) (by rw[<- Cf];exact Ab a (h a (.head _)))
  refine un ?_;rw[bx];exact al (gN (al (hs f hf) (rJ 20 hl)) (rJ _ hl)) (by decide)
theorem B0:∀f:List Nat,(f.map λi=>((2^i:Nat):Int)).sum=((f.map (2^ ·)).sum:Nat)
 |[]=>rfl
 |a::f=>by rw[cS,cS,iI,iI,B0 f];rfl
theorem Mw {f g:List Nat} (hf:∀i∈f,i<32) (hg:sw g=true) (he:f=g) (hl:g.length<=4) (hO:∀as,O.fn im as=bQ pw O0 im as) (h1:σ.lookup eV=some (.sh (lJ f g))) (h2:σ.lookup uu=some (.sh (nC f))):pT O 32 bg σ (ba aW 26)=some false:=by
 subst he;refine mh hg λa b d=>?_;have hv:=Pr (jt a) (jt b);rw[bh d] at hv;refine bA (d:=.bool false) (h:=aB (h:=br (a:=nC f) (b:=nC f) (aB (h:=gv (ds:=[.int (((f.map (2^ ·)).sum:Nat):Int)]) (by decide) (aN (aB (h:=?_)) bC) ((hO _).trans hv) (.inr rfl))) (aD (by decide) (aF h2)) ?_)) (ht:=rfl)
 ·refine gv (ds:=[.list ((f.map λi=>((2^i:Nat):Int)).map .int)]) (by decide) (aN (aB (h:=?_)) bC) (sH.trans ?_) (.inr rfl)
  ·refine gp (xs:=ar f) (ys:=f.map λi=>.int ((2^i:Nat):Int)) (by decide) (g8 (d:=.list (ar f)) rfl (Az (f:=f) (g:=f) (i:=1) rfl (by decide) (by decide) h1) rfl) (ik (α:=Nat) (F:=λi:Nat=>.int (i:Nat)) (G:=λi=>.int ((2^i:Nat):Int)) λi hi=>?_) ?_ |>.trans ?_
   ·refine az _ (gJ (by decide) (eE (by decide) (by decide))) ?_;exact aR bc (aC (by decide) aM) (tA (al (dE (hf i hi)) (by decide)))
   ·rw[bx];exact dg (al hl (by decide))
   ·rw[fj];rfl
  ·exact congrArg (λx=>some (PV.int x)) (B0 f)
 ·refine (?_:some (!(S (fq lK (f.map λi=>Lx (cJ i)))==S (fq lK (f.map λi=>Lx (cJ i)))))=_);rw[jZ,beq_self_eq_true];rfl
end
noncomputable abbrev iS:Str:=ag "cut"
noncomputable abbrev jY:Str:=ag "left"
noncomputable abbrev j1:Str:=ag "right"
noncomputable abbrev mq:Str:=ag "fits"
noncomputable abbrev l7:Str:=ag "within"
noncomputable def Mh (b:List aL) (i:Nat):ab:=match b[i]? with
 |some (.Return (some e) _)=>e
 |_=>.Constant .none 0 ⟨0,0,0,0⟩
noncomputable def fu (L R:List Nat) (c:Nat):Bool:=decide (L.length<=R.length)&&(R.take c==L.take c&&R.drop (R.length - L.length+c)==L.drop c)
noncomputable def ib (L R:List Nat) (c x:Nat):Bool:=fu L R c&&decide (x∈(R.drop c).take (R.length - L.length))
theorem zd {L R:List Nat} {c:Nat} (hc:c<=L.length):((L.take c).isPrefixOf R&&(L.drop c).isSuffixOf R&&decide ((L.take c).length+(L.drop c).length<=R.length))=fu L R c:=by
 have l1:(L.take c).length=c:=(pV).trans (lh hc);have l2:(L.drop c).length=L.length - c:=fM;unfold fu;rw[l1,l2,Nat.add_sub_cancel' hc]
 by_cases h:L.length<=R.length
 ·have e:R.length - (L.length - c)=R.length - L.length+c:=by omega
  rw[decide_eq_true h,sn,Dn];congr 1
  ·refine nX.mpr (sj.trans (si.trans ?_));rw[l1,beq_iff_eq];exact⟨eh,eh⟩
  ·refine nX.mpr (sk.trans (Ef.trans ?_));rw[l2,e,beq_iff_eq];exact⟨eh,eh⟩
 ·rw[decide_eq_false h,Sd];rfl
theorem Bz {L:List Nat} (hf:∀x∈L,x≠46) (c:Nat):46∉L.take c/\46∉L.drop c:=⟨λh=>hf 46 (yF h) rfl,λh=>hf 46 (yE h) rfl⟩
theorem ut {L:List Nat} {c:Nat} (hl:L.length<=100):(L.take c).length<=100/\(L.drop c).length<=100:=⟨al (Eu _ _) hl,al (by rw[fM];exact kt _ _) hl⟩
theorem Fp {L R:List Nat} {c:Nat} (hf:∀x∈L,x≠46) (hl:L.length<=100) (hc:c<=L.length):bQ pw O0 dL [.str (S (L.take c++dots++L.drop c)),.str (S R)]=some (.bool (fu L R c)):=by
 have g:=Bz hf c;have t:=ut (c:=c) hl
 have hv:=w7 (w:=L.take c) (v:=L.drop c) (ws:=[]) (T:=R) (λu hu=>by
  cases hu with
  |head=>exact g.1
  |tail _ hu=>rw[cN.mp hu];exact g.2) (by
  show bt ((L.take c++dots++L.drop c).length+2)=true;rw[ci,ci]
  exact dg (al (d7 (gN (d7 t.1 _) t.2) 2) (by decide)))
 rw[PE,zd hc] at hv;exact hv
theorem Fi {L R:List Nat} {c x:Nat} (hf:∀x∈L,x≠46) (hx:x≠46) (hl:L.length<=100) (hc:c<=L.length):bQ pw O0 dL [.str (S (L.take c++dots++[x]++dots++L.drop c)),.str (S R)]=some (.bool (ib L R c x)):=by
 have g:=Bz hf c;have t:=ut (c:=c) hl;have hj:jn [L.take c,[x],L.drop c]=L.take c++dots++[x]++dots++L.drop c:=by refine (?_:L.take c++dots++([x]++dots++L.drop c)=_);rw[<- gP,<- gP]
 have hv:=w7 (w:=L.take c) (v:=[x]) (ws:=[L.drop c]) (T:=R) (λu hu=>by
  cases hu with
  |head=>exact g.1
  |tail _ hu=>cases hu with
   |head=>exact λh=>hx (cN.mp h).symm
   |tail _ hu=>rw[cN.mp hu];exact g.2) (by
  rw[hj,ci,ci,ci,ci]
  exact dg (al (d7 (gN (d7 (d7 (d7 t.1 _) _) _) t.2) 2) (show 100+3+1+3+100+2<=16777216 by decide)))
 rw[hj,Pw,zd hc] at hv;refine hv.trans ?_;unfold ib;have l1:(L.take c).length=c:=(pV).trans (lh hc);have l2:(L.drop c).length=L.length - c:=fM;rw[l1,l2,show R.length - (L.length - c) - c=R.length - L.length by omega]
theorem Mo {l:List Nat} {c:Nat}:iz (S l) (S [c])=decide (c∈l):=by
 refine nX.mpr ((qx l [c]).trans ⟨λh=>ah h λi h1 h2=>decide_eq_true ?_,λh=>?_⟩)
 ·have:c∈(l.drop i).take [c].length:=by rw[h2];exact cN.mpr rfl
  exact yE (yF this)
 ·obtain ⟨i,hi,e⟩:=Sh (of_decide_eq_true h);refine az i hi ?_;rw[lz hi,e];rfl
theorem FV {l:List Nat} {i:Nat} (h:i<l.length):fN (.str (S l)) (.int i)=some (.str (S [l.getD i 0])):=by refine (?_:((iD i (S l).length).bind ((S l).cps[·]?)).map (λc=>PV.str ⟨#[c]⟩)=_);rw[yK (i:=(i:Int)) (c7 _) (by rw[dA];exact oh.mpr h)];refine (?_:((l.toArray)[i]?).map (λc=>PV.str ⟨#[c]⟩)=_);rw[Qu,ju,el h];rfl
section
variable {O:Orc} {n:Nat} {sc:Scope} {σ σ':Sg}
theorem vz {f:ab->Option PV} {e e':ab} {es:List ab} {a b:Bool} (h1:f e=some (.bool a)) (h2:a=true->jK f .And (e'::es)=some (.bool b)):jK f .And (e::e'::es)=some (.bool (a&&b)):=by
 refine (?_:(match f e with|none=>none|some d=>(match yN,eO d with|.And,some false=>some d|.Or,some true=>some d|_,some _=>jK f .And (e'::es)|_,none=>none))=_);refine aa h1 ?_
 induction a using d8 with
 |false=>rfl
 |true=>exact h2 rfl
theorem Fc {ts vs:List ab} {tn vn:Nat} {tp vp q:Pos} {d:PV} (h1:aY fv ts=none) (h2:pe O n sc σ (.Tuple vs vn vp)=some d) (h3:bu false sc 4 σ (.Tuple ts tn tp) d=some σ'):px O (n+1) sc σ (.Assign [.Tuple ts tn tp] (.Tuple vs vn vp) q)=some (.nx σ'):=by
 refine aa AB (aa h1 ?_)
 refine (?_:(match pe O n sc σ (.Tuple vs vn vp) with
      |some d=>(match bu false sc 4 σ (.Tuple ts tn tp) d with|some σ'=>some (Out.nx σ')|none=>none)
      |none=>none)=_)
 refine aa h2 ?_;refine (?_:(match bu false sc 4 σ (.Tuple ts tn tp) d with|some σ'=>some (Out.nx σ')|none=>none)=_);exact aa h3 rfl
theorem sy {x:Str} {q fp p:Pos} {l:List Nat} (hg:bS sc (ag "len")=true) (hv:bj sc x=true) (h:σ.lookup x=some (.sh (.str (S l)))):pe O (n+2) sc σ (.Call (.Name (ag "len") fp) [.Name x q] [] p)=some (.int (l.length:Nat)):=
 gv (ds:=[.str (S l)]) hg (aN (aD hv (aF h)) bC) (by show some (PV.int (((S l).length:Nat):Int))=_;rw[dA]) (.inr rfl)
theorem sN {x:Str} {q r p:Pos} {e:ab} {l:List Nat} {b:Nat} (hv:bj sc x=true) (h:σ.lookup x=some (.sh (.str (S l)))) (he:pe O n sc σ e=some (.int b)) (hb:b<=100):pe O (n+2) sc σ (.Subscript (.Name x q) (.Slice none (some e) none r) p)=some (.str (S (l.take b))):=
 jF (l:=none) (h:=some (b:Int)) (s:=none) (aC hv h) rfl (gY he (pg hb)) rfl zO
theorem sB {x:Str} {q r p:Pos} {e:ab} {l:List Nat} {b:Nat} (hv:bj sc x=true) (h:σ.lookup x=some (.sh (.str (S l)))) (he:pe O n sc σ e=some (.int b)) (hb:b<=l.length) (hl:l.length<=100):pe O (n+2) sc σ (.Subscript (.Name x q) (.Slice (some e) none none r) p)=some (.str (S (l.drop b))):=
 jF (l:=some (b:Int)) (h:=none) (s:=none) (aC hv h) (gY he (pg (al hb hl))) rfl rfl (AO hb)
theorem Fz {x:Str} {q r p:Pos} {e1 e2:ab} {l:List Nat} {a b:Nat} (hv:bj sc x=true) (h:σ.lookup x=some (.sh (.str (S l)))) (h1:pe O n sc σ e1=some (.int a)) (h2:pe O n sc σ e2=some (.int b)) (hab:a<=b) (hb:b<=l.length) (hl:l.length<=100):pe O (n+2) sc σ (.Subscript (.Name x q) (.Slice (some e1) (some e2) none r) p)=some (.str (S ((l.drop a).take (b - a)))):=
 jF (l:=some (a:Int)) (h:=some (b:Int)) (s:=none) (aC hv h) (gY h1 (pg (al hab (al hb hl)))) (gY h2 (pg (al hb hl))) rfl (by rw[<- CP l hab hb];rfl)
theorem Cv {x:Str} {q p:Pos} {e:ab} {l:List Nat} {b:Nat} (hn:m0 e=true:=by rfl) (hv:bj sc x=true) (h:σ.lookup x=some (.sh (.str (S l)))) (he:pe O (n+1) sc σ e=some (.int b)) (hb:b<l.length):pe O (n+2) sc σ (.Subscript (.Name x q) e p)=some (.str (S [l.getD b 0])):=
 gM hn (h1:=aD hv (aF h)) (h2:=he) (ho:=dX h) (h:=FV hb)
theorem wB {a b:List Nat}:fE .Eq (.str (S a)) (.str (S b))=some (a==b):=by rw[<- jZ];rfl
theorem Ii {a b:Nat}:fE .GtE (.int a) (.int b)=some (decide (b<=a)):=congrArg some (nX.mpr (decide_eq_true_iff.trans (ej.trans decide_eq_true_iff.symm)))
theorem AR {x y w:Str} {p1 p2 p3 p4 p5 p6 p7 p8 p9:Pos} {L R:List Nat} {c:Nat} (hg:bS sc (ag "len")=true) (hx:bj sc x=true) (hy:bj sc y=true) (hw:bj sc w=true) (h1:σ.lookup x=some (.sh (.str (S R)))) (h2:σ.lookup y=some (.sh (.str (S L)))) (h3:σ.lookup w=some (.sh (.int c))) (hl:L.length<=R.length):pe O (n+4) sc σ (.BinOp (.BinOp (.Call (.Name (ag "len") p1) [.Name x p2] [] p3) .Sub (.Call (.Name (ag "len") p4) [.Name y p5] [] p6) p7) .Add (.Name w p8) p9)=some (.int (R.length - L.length+c:Nat)):=
 aR (a:=.int (R.length - L.length:Nat)) (b:=.int c) (aR (a:=.int (R.length:Nat)) (b:=.int (L.length:Nat)) (sy hg hx h1) (sy hg hy h2) (by rw[q0];exact congrArg (λx=>some (PV.int x)) (Et hl).symm)) (aC hw h3) rfl
theorem Kq:pe O 34 bg σ (ba aW 24)=some tabP:=oG (h0:=rfl) (hp:=rfl) (hl:=rfl) (h1:=fU (by decide)) (h2:=bC) (h:=LW)
theorem GF {z:Nat->Nat} {u:List Nat} (h:σ.lookup dy=some (.sh (fB z))) (h1:σ.lookup eB=some (.sh (.list (ar u)))):pe O 30 bg σ (zF aW 27 0)=some (.int (z 7%(u.length+1):Nat)):=
 aR (a:=.int (z 7:Nat)) (b:=.int (u.length+1:Nat)) (jo (i:=7) rfl (by decide) (by decide) h) (aR (a:=.int (u.length:Nat)) (b:=.int 1) (oL (d:=.int (u.length:Nat)) (by decide) (aD (by decide) (aF h1)) (dX h1) (by refine aa nQ ?_;rw[oX])) bc rfl) (ij (rH _))
section
variable {L R:List Nat} {c a:Nat}
theorem MP (hc:c<=L.length) (hL:L.length<=100) (hR:R.length<=100) (h1:σ.lookup jY=some (.sh (.str (S L)))) (h2:σ.lookup j1=some (.sh (.str (S R)))) (h3:σ.lookup iS=some (.sh (.int c))):pe O 30 bg σ (ba aW 28)=some (.bool (fu L R c)):=by have hC:∀{m:Nat} {q:Pos},pe O (m+1) bg σ (.Name iS q)=some (.int c):=λ{m q}=>aC (by decide) h3;refine vz (f:=pe O 29 bg σ) (br (a:=.int (R.length:Nat)) (b:=.int (L.length:Nat)) (aB (h:=sy (by decide) (by decide) h2)) (aB (h:=sy (by decide) (by decide) h1)) Ii) λhd=>vz (br (a:=.str (S (R.take c))) (b:=.str (S (L.take c))) (aB (h:=sN (by decide) h2 hC (al hc hL))) (aB (h:=sN (by decide) h1 hC (al hc hL))) wB) λ_=>?_;have hl:=of_decide_eq_true hd;exact br (a:=.str (S (R.drop (R.length - L.length+c)))) (b:=.str (S (L.drop c))) (aB (h:=sB (by decide) h2 (AR (by decide) (by decide) (by decide) (by decide) h2 h1 h3 hl) (by omega) hR)) (aB (h:=sB (by decide) h1 hC hc hL)) wB
theorem GC (hc:c<=L.length) (ha:a<L.length) (hL:L.length<=100) (hR:R.length<=100) (h1:σ.lookup jY=some (.sh (.str (S L)))) (h2:σ.lookup j1=some (.sh (.str (S R)))) (h3:σ.lookup iS=some (.sh (.int c))) (h4:σ.lookup ft=some (.sh (.int a))) (h5:σ.lookup mq=some (.sh (.bool (fu L R c)))):pe O 29 bg σ (ba aW 29)=some (.bool (ib L R c (L.getD a 0))):=by
 refine vz (f:=pe O 28 bg σ) (aC (by decide) h5) λhd=>?_;have hl:L.length<=R.length:=by unfold fu at hd;exact of_decide_eq_true (jT.mp hd).1
 refine br (a:=.str (S [L.getD a 0])) (b:=.str (S ((R.drop c).take (R.length - L.length+c - c)))) (aB (h:=Cv (by rfl) (by decide) h1 (aC (by decide) h4) ha)) (aB (h:=Fz (by decide) h2 (aC (by decide) h3) (AR (by decide) (by decide) (by decide) (by decide) h2 h1 h3 hl) (dv _ _) (by omega) hR)) ?_;rw[RS];exact congrArg some Mo
theorem K6 (hf:∀x∈L,x≠46) (hc:c<=L.length) (ha:a<L.length) (hL:L.length<=100) (hO:∀as,O.fn dL as=bQ pw O0 dL as) (h1:σ.lookup jY=some (.sh (.str (S L)))) (h2:σ.lookup j1=some (.sh (.str (S R)))) (h3:σ.lookup iS=some (.sh (.int c))) (h4:σ.lookup ft=some (.sh (.int a))) (h5:σ.lookup l7=some (.sh (.bool (ib L R c (L.getD a 0))))):pT O 28 bg σ (ba aW 30)=some false:=by
 have hC:∀{m:Nat} {q:Pos},pe O (m+1) bg σ (.Name iS q)=some (.int c):=λ{m q}=>aC (by decide) h3;have t:=ut (c:=c) hL;have hx:L.getD a 0≠46:=by rw[ju,el ha];exact hf _ (rR ha)
 refine xb (n:=27) (a:=false) (b:=false) (bA (d:=.bool false) (h:=aB (h:=br (a:=.bool (L==R)) (b:=.bool (L==R)) (aB (h:=ua (by decide) hO (aD (by decide) (aF h1)) (aD (by decide) (aF h2)) (Le λh=>hf 46 h rfl))) (aB (h:=br (a:=.str (S L)) (b:=.str (S R)) (aD (by decide) (aF h1)) (aD (by decide) (aF h2)) wB)) (rc.trans (by rw[beq_self_eq_true];rfl)))) (ht:=rfl)) λ_=>?_;refine bA (d:=.bool false) (h:=aB (h:=br (a:=.bool (ib L R c (L.getD a 0))) (b:=.bool (ib L R c (L.getD a 0))) (aB (h:=ua (a:=L.take c++dots++[L.getD a 0]++dots++L.drop c) (b:=R) (by decide) hO (aB (h:=aR (a:=.str (S (L.take c++dots++[L.getD a 0]++dots))) (b:=.str (S (L.drop c))) (aR (a:=.str (S (L.take c++dots++[L.getD a 0]))) (b:=.str (S dots)) (aR (a:=.str (S (L.take c++dots))) (b:=.str (S [L.getD a 0])) (aR (a:=.str (S (L.take c))) (b:=.str (S dots)) (sN (by decide) h1 hC (al hc hL)) (by rfl) (ja ?_)) (Cv (by rfl) (by decide) h1 (aC (by decide) h4) ha) (ja ?_)) (by rfl) (ja ?_)) (sB (by decide) h1 hC hc hL) (ja ?_))) (aD (by decide) (aF h2)) (Fi hf hx hL hc))) (aD (by decide) (aF h5)) (rc.trans (by rw[beq_self_eq_true];rfl)))) (ht:=rfl)
 ·exact al (d7 t.1 3) (by decide)
 ·rw[ci];exact al (d7 (d7 t.1 3) 1) (by decide)
 ·rw[ci,ci];exact al (d7 (d7 (d7 t.1 3) 1) 3) (by decide)
 ·rw[ci,ci,ci];exact al (gN (d7 (d7 (d7 t.1 3) 1) 3) t.2) (by decide)
theorem Kr (hf:∀x∈L,x≠46) (hc:c<=L.length) (hL:L.length<=100) (hO:∀as,O.fn dL as=bQ pw O0 dL as) (h1:σ.lookup jY=some (.sh (.str (S L)))) (h2:σ.lookup j1=some (.sh (.str (S R)))) (h3:σ.lookup iS=some (.sh (.int c))) (h5:σ.lookup mq=some (.sh (.bool (fu L R c)))):pe O 27 bg σ (Mh aW 31)=some (.bool true):=by
 have hC:∀{m:Nat} {q:Pos},pe O (m+1) bg σ (.Name iS q)=some (.int c):=λ{m q}=>aC (by decide) h3;have t:=ut (c:=c) hL;refine br (a:=.bool (fu L R c)) (b:=.bool (fu L R c)) (aB (h:=ua (a:=L.take c++dots++L.drop c) (b:=R) (by decide) hO (aB (h:=aR (a:=.str (S (L.take c++dots))) (b:=.str (S (L.drop c))) (aR (a:=.str (S (L.take c))) (b:=.str (S dots)) (sN (by decide) h1 hC (al hc hL)) (by rfl) (ja ?_)) (sB (by decide) h1 hC hc hL) (ja ?_))) (aD (by decide) (aF h2)) (Fp hf hL hc))) (aD (by decide) (aF h5)) ?_
 ·exact al (d7 t.1 3) (by decide)
 ·rw[ci];exact al (gN (d7 t.1 3) t.2) (by decide)
 ·show some (fu L R c==fu L R c)=_;rw[beq_self_eq_true]
end
end
structure Lo (O:Orc):Prop where
 led:∀as,O.fn ef as=bQ pw (O5 pw) ef as
 stairs:∀as,O.fn iq as=bQ pw (O5 pw) iq as
 ell:∀as,O.fn dL as=bQ pw O0 dL as
 pf:∀as,O.fn im as=bQ pw O0 im as
theorem Oa:Lo (O6 pw):=⟨λζ=>rfl,λζ=>rfl,λζ=>rfl,λζ=>rfl⟩
theorem cW.add {σ:Sg} {L:List (Str×Option Ent)} {x:Str} {q:Option Ent} (h:cW σ L) (e:σ.lookup x=q):cW σ ((x,q)::L):=λy o ho=>by
 rw[cM] at ho;cases hb:y==x with
 |true=>rw[hb] at ho;rw[bh hb,e];exact aj ho
 |false=>rw[hb] at ho;exact h y o ho
noncomputable def LA (z:Nat->Nat) (n k:Nat):List (Str×Option Ent):=[(dh,some (.sh (.list (cc (aQ k))))),(mf,some (.sh menuP)),(cA,some (.sh (.int (k:Nat)))),(db,some (.sh (.int (n:Nat)))),(dy,some (.sh (fB z)))]
noncomputable def LB (z:Nat->Nat) (n k:Nat) (u:List Nat) (a:Nat):List (Str×Option Ent):=(ft,some (.sh (.int (a:Nat))))::(eB,some (.sh (.list (ar u))))::LA z n k
noncomputable def LC (z:Nat->Nat) (n k:Nat) (u v w:List Nat) (a:Nat):List (Str×Option Ent):=(mW,some (.sh (nk u v)))::(gV,some (.sh (.list (ar v))))::(qd,some (.sh (.list (ar w))))::LB z n k u a
noncomputable def LD (z:Nat->Nat) (n k:Nat) (u v w:List Nat) (a:Nat):List (Str×Option Ent):=(iK,some (.sh (.list [eu n k u,eu n k v])))::(ev,some (.sh (.list (dY n (k - 2)))))::LC z n k u v w a
noncomputable def LE (z:Nat->Nat) (n k:Nat) (u v w:List Nat) (a:Nat):List (Str×Option Ent):=(kj,some (.sh (.bool (eU n k u v))))::(fb,some (.sh (.list (cb k n))))::LD z n k u v w a
section
variable {O:Orc} {σ:Sg} {n k:Nat} {u v w:List Nat} {a:Nat} {z:Nat->Nat} {c:List (List Nat)}
theorem He {sc:Scope} {x y z:Str} {q r s s2 p:Pos} {k k2:Nat} {d e f:PV} (hx:bb sc x=true) (hy:bb sc y=true) (hz:bb sc z=true):bu false sc 4 σ (.Tuple [.Name x q,.Tuple [.Name y r,.Name z p] k s] k2 s2) (.tup [d,.list [e,f]])=some (put (put (put σ x (.sh d)) y (.sh e)) z (.sh f)):=by have h2:bu false sc 3 (put σ x (.sh d)) (.Tuple [.Name y r,.Name z p] k s) (.list [e,f])=some (put (put (put σ x (.sh d)) y (.sh e)) z (.sh f)):=jC (f:=bu false sc 2) (rn hy) (jC (rn hz) rfl);exact jC (f:=bu false sc 3) (rn hx) (jC h2 rfl)
theorem Mk (H:Lo O) (hu:u.length<=12) (hv:v.length<=12) (ha:a<u.length) (h0:σ.lookup dy=some (.sh (fB z))) (h1:σ.lookup eB=some (.sh (.list (ar u)))) (h2:σ.lookup mW=some (.sh (nk u v))) (h3:σ.lookup ft=some (.sh (.int a))):aJ O 33 bg σ (aW.drop 27)=some (.rt (.bool true)):=by have hc:z 7%(u.length+1)<=u.length:=jS (gf _ (ve _));have hcut:=GF (O:=O) h0 h1;have lL:(cR u).length=u.length:=bx _;have hR:(cR v).length<=100:=al (iA (bx _)) (al hv (by decide));have hL:(cR u).length<=100:=lL▸al hu (by decide);have hf:=AJ (w:=u);rw[<- lL] at hc ha;have h2:σ.lookup mW=some (.sh (.list [.str (S (cR u)),.str (S (cR v))])):=h2;rw[<- lL] at hcut;clear lL h0 h1 hu hv;revert h2;revert hf;revert hL;revert hR;revert ha;revert hcut;revert hc;refine aX (cR v) λR=>aX (cR u) λL=>?_;refine aX (z 7%(L.length+1)) λc hc hcut ha hR hL hf h2=>?_;refine aT (Fc (d:=.tup [.int c,.list [.str (S L),.str (S R)]]) (by rfl) (rh (aN hcut (aN (aC (by decide) h2) bC)) rfl) (He (by decide) (by decide) (by decide))) ?_;have c1:(put (put (put σ iS (.sh (.int c))) jY (.sh (.str (S L)))) j1 (.sh (.str (S R)))).lookup jY=some (.sh (.str (S L))):=au (by decide) aM;have c2:(put (put (put σ iS (.sh (.int c))) jY (.sh (.str (S L)))) j1 (.sh (.str (S R)))).lookup j1=some (.sh (.str (S R))):=aM;have c3:(put (put (put σ iS (.sh (.int c))) jY (.sh (.str (S L)))) j1 (.sh (.str (S R)))).lookup iS=some (.sh (.int c)):=au (by decide) (au (by decide) aM);have c4:(put (put (put σ iS (.sh (.int c))) jY (.sh (.str (S L)))) j1 (.sh (.str (S R)))).lookup ft=some (.sh (.int a)):=au (by decide) (au (by decide) (au (by decide) h3));clear h3 h2 hcut;revert c4;revert c3;revert c2;revert c1;refine aX (put (put (put σ iS (.sh (.int c))) jY (.sh (.str (S L)))) j1 (.sh (.str (S R)))) λσ c1 c2 c3 c4=>?_;refine aT (bM (d:=.bool (fu L R c)) (by decide) (h:=MP hc hL hR c1 c2 c3) (hs:=λζ q=>nomatch q)) ?_;have c5:=aM (σ:=σ) (x:=mq) (e:=.sh (.bool (fu L R c)));replace c1:=au (x:=mq) (e:=.sh (.bool (fu L R c))) (by decide) c1;replace c2:=au (x:=mq) (e:=.sh (.bool (fu L R c))) (by decide) c2;replace c3:=au (x:=mq) (e:=.sh (.bool (fu L R c))) (by decide) c3;replace c4:=au (x:=mq) (e:=.sh (.bool (fu L R c))) (by decide) c4;revert c5;revert c4;revert c3;revert c2;revert c1;refine aX (put σ mq (.sh (.bool (fu L R c)))) λσ c1 c2 c3 c4 c5=>?_;refine aT (bM (d:=.bool (ib L R c (L.getD a 0))) (by decide) (h:=GC hc ha hL hR c1 c2 c3 c4 c5) (hs:=λζ q=>nomatch q)) ?_;have c6:=aM (σ:=σ) (x:=l7) (e:=.sh (.bool (ib L R c (L.getD a 0))));replace c1:=au (x:=l7) (e:=.sh (.bool (ib L R c (L.getD a 0)))) (by decide) c1;replace c2:=au (x:=l7) (e:=.sh (.bool (ib L R c (L.getD a 0)))) (by decide) c2;replace c3:=au (x:=l7) (e:=.sh (.bool (ib L R c (L.getD a 0)))) (by decide) c3;replace c4:=au (x:=l7) (e:=.sh (.bool (ib L R c (L.getD a 0)))) (by decide) c4;replace c5:=au (x:=l7) (e:=.sh (.bool (ib L R c (L.getD a 0)))) (by decide) c5;revert c6;revert c5;revert c4;revert c3;revert c2;revert c1;refine aX (put σ l7 (.sh (.bool (ib L R c (L.getD a 0))))) λσ c1 c2 c3 c4 c5 c6=>?_;refine dW (K6 hf hc ha hL H.ell c1 c2 c3 c4 c6) a9 ?_;exact iw (Kr hf hc hL H.ell c1 c2 c3 c5)
theorem Ke (M:Nm n k) (hc:c∈cz (aQ k) n) (hu:∀l∈u,l<n) (hv:∀l∈v,l<n) (hs:eU n k u v=true) {p:Nat} (hp:p<k):led c u p=led c v p:=by
 have h:=A9.mp hs;have h3:=M.L.K.f.z.gt;have key:∀{a b:List Nat},(∀l∈a,l<n)->(∀l∈b,l<n)->(∀w∈de n (k - 2),w.Sublist a->w.Sublist b)->led c a p<=led c b p:=λha hb h=>
  CS (λl hl=>nE M.L.K.gd.1 hc (ha l hl)) (λl hl=>nE M.L.K.gd.1 hc (hb l hl)) hp λw hw hne hlt=>h w (nc.mpr ⟨⟨hne,by omega⟩,λl hl=>ha l (hw.subset hl)⟩) hw
 exact lH (key hu hv λw hw=>(h w hw).mp) (key hv hu λw hw=>(h w hw).mpr)
theorem IJ (M:Nm n k) (h:σ.lookup cA=some (.sh (.int k))) {tt:Bool}:cr O 37 bg σ tt (eQ aW 21)=some (dU 0 (k:Int)):=
 md (by decide) (aC (by decide) h) ⟨fL (by decide) (c7 _),fL (ej.mpr M.L.K.f.z.le) (by decide)⟩
theorem ID (H:Lo O) (M:Nm n k) (hu:∀l∈u,l<n) (hv:∀l∈v,l<n) (hu12:u.length<=12) (hv12:v.length<=12) (ha:a<u.length) (A:cW σ (LE z n k u v w a)):aJ O 40 bg σ (aW.drop 20)=some (.rt (.bool true)):=by
 refine ah (EX (O:=O) M.L.K (A dy _ rfl) (A fb _ rfl)) λc hc e=>?_;refine aT (bM (d:=dQ c) (by decide) (h:=e) (hs:=λζ ζ=>rfl)) ?_;replace A:=A.put (x:=eI) (e:=.sh (dQ c));clear e;revert A;refine aX (put σ eI (.sh (dQ c))) λσ A=>?_;refine ah (Ng (O:=O) (u:=u) M hc hv H.led (A gV _ rfl) (A eI _ rfl) (A ev _ rfl) (A iK _ rfl)) λσ' e kp=>?_;refine aT (lO (IJ M (A cA _ rfl)) e a9) ?_;replace A:=A.keep kp (by rfl);clear e kp;revert A;refine aX σ' λσ A=>?_;have hb:z 6%16<16:=gf _ (by decide);refine aT (bM (d:=.int (z 6%16:Nat)) (by decide) (h:=Ls (A dy _ rfl)) (hs:=λζ q=>nomatch q)) ?_;replace A:=A.put (x:=uo) (e:=.sh (.int (z 6%16:Nat)));revert A;refine aX (put σ uo (.sh (.int (z 6%16:Nat)))) λσ=>?_;revert hb;refine aX (z 6%16) λb hb A=>?_;have hq:∀{x:List Nat},(∀l∈x,l<n)->∀p,p<k->led c x p<k:=λhx p hp=>(oJ (λl hl=>nE M.L.K.gd.1 hc (hx l hl)) hp).2;have hfl:=E3 (O:=O) M hc hu hv H.led (A eB _ rfl) (A gV _ rfl) (A eI _ rfl) (A uo _ rfl) (A cA _ rfl) (A kj _ rfl);have hw:∀l∈(if eU n k u v=true then v else u),l<n:=by
  by_cases h:eU n k u v=true
  ·rw[if_pos h];exact hv
  ·rw[if_neg h];exact hu
 have he:gB b k c u=gB b k c (if eU n k u v=true then v else u):=by
  by_cases h:eU n k u v=true
  ·rw[if_pos h];exact so λp hp=>by rw[Ke M hc hu hv h (hU.mp hp)]
  ·rw[if_neg h]
 have hg:=PD (b:=b) (c:=c) M.L.K.f.z.gt M.L.K.f.z.le hb (hq hw);have hf:=BV (b:=b) M.L.K.f.z.le hb (hq hu);have hl:(gB b k c u).length<=4:=by unfold gB;rw[bx,i4];exact M.L.K.f.z.le
 have hfl:pe O 35 bg σ (ba aW 23)=some (lJ (gB b k c u) (gB b k c (if eU n k u v=true then v else u))):=hfl;have hl2:(gB b k c (if eU n k u v=true then v else u)).length<=4:=he▸hl;clear hw hq;revert hl2;revert hl;revert hf;revert hg;revert he;revert hfl;refine aX (gB b k c (if eU n k u v=true then v else u)) λg=>aX (gB b k c u) λf hfl he hg hf hl hl2=>?_;refine aT (bM (d:=lJ f g) (by decide) (h:=hfl) (hs:=λζ ζ=>rfl)) ?_;replace A:=A.put (x:=eV) (e:=.sh (lJ f g));clear hfl;revert A;refine aX (put σ eV (.sh (lJ f g))) λσ A=>?_;refine aT (bM (d:=tabP) (by decide) (h:=Kq) (hs:=λζ ζ=>rfl)) ?_;replace A:=A.put (x:=sM) (e:=.sh tabP);revert A;refine aX (put σ sM (.sh tabP)) λσ A=>?_;refine aT (bM (d:=nC f) (by decide) (h:=NR hf hl (A eV _ rfl) (A sM _ rfl)) (hs:=λζ q=>nomatch q)) ?_;replace A:=A.put (x:=uu) (e:=.sh (nC f));revert A;refine aX (put σ uu (.sh (nC f))) λσ A=>?_;refine dW (Mw hf hg he hl2 H.pf (A eV _ rfl) (A uu _ rfl)) a9 ?_;exact Mk H hu12 hv12 ha (A dy _ rfl) (A eB _ rfl) (A mW _ rfl) (A ft _ rfl)
theorem Oj (h1:σ.lookup ev=some (.sh (.list (dY n (k - 2))))) (h2:σ.lookup iK=some (.sh (.list [eu n k u,eu n k v]))):cr O 44 bg σ true (eQ aW 14)=some ((de n (k - 2)).map λw=>.tup [.list (ar w),.bool (cx w u)]):=
 (B1 (n:=43) (by decide) (aC (by decide) h1) (sL (u:=u) (v:=v) (i:=0) rfl (by decide) (by decide) h2)).trans (congrArg some (zG n k u))
theorem OM (H:Lo O) (M:Nm n k) (hu:∀l∈u,l<n) (hv:∀l∈v,l<n) (hu12:u.length<=12) (hv12:v.length<=12) (ha:a<u.length) (A:cW σ (LD z n k u v w a)):aJ O 46 bg σ (aW.drop 14)=some (.rt (.bool true)):=by refine ah (Mg (O:=O) M.L hu H.led (A cA _ rfl) (A db _ rfl) (A eB _ rfl)) λσ' e kp=>?_;refine aT (lO (Oj (v:=v) (A ev _ rfl) (A iK _ rfl)) e a9) ?_;replace A:=A.keep kp (by rfl);clear e kp;revert A;refine aX σ' λσ A=>?_;refine aT (tL (ent:=.own (cb k 0)) (by decide) Lv) ?_;have g:=aM (σ:=σ) (x:=fb) (e:=.own (cb k 0));replace A:=(A.put (x:=fb) (e:=.own (cb k 0))).tail rfl;revert g;revert A;refine aX (put σ fb (.own (cb k 0))) λσ A g=>?_;refine bB (MV (O:=O) M.L.K (A dh _ rfl) g) λσ' e kp g=>?_;refine aT (lO (Fw M.L.K (A db _ rfl)) e a9) ?_;replace A:=(A.keep kp (by rfl)).add g;clear e kp g;revert A;refine aX σ' λσ A=>?_;refine aT (Cb (xs:=[kj,jp]) (ents:=[.sh (.bool (eU n k u v)),.sh (.bool true)]) (by rfl) (by decide) (aN (sV (h:=MC (A ev _ rfl) (A iK _ rfl) M.L.K) (hs:=λζ q=>nomatch q)) (aN (sV (h:=kS) (hs:=λζ q=>nomatch q)) zr))) ?_;refine (?_:aJ O 42 bg (put (put σ kj (.sh (.bool (eU n k u v)))) jp (.sh (.bool true))) (aW.drop 18)=_);have g:=aM (σ:=put σ kj (.sh (.bool (eU n k u v)))) (x:=jp) (e:=.sh (.bool true));replace A:cW _ (LE z n k u v w a):=((A.put (x:=kj) (e:=.sh (.bool (eU n k u v)))).put (x:=jp) (e:=.sh (.bool true))).tail rfl;revert g;revert A;refine aX (put (put σ kj (.sh (.bool (eU n k u v)))) jp (.sh (.bool true))) λσ A g=>?_;refine bB (IW (O:=O) M hu hv H.led (A eB _ rfl) (A gV _ rfl) g) λσ' e kp g=>?_;refine aT (lO (KH M (A fb _ rfl)) e a9) ?_;replace A:=A.keep kp (by rfl);clear e kp;revert g;revert A;refine aX σ' λσ A g=>?_;refine dW (KO M hu hv (A kj _ rfl) g) a9 ?_;exact ID H M hu hv hu12 hv12 ha A
theorem HD (H:Lo O) (M:Nm n k) (hu:∀l∈u,l<n) (hv:∀l∈v,l<n) (hu12:u.length<=12) (hv12:v.length<=12) (ha:a<u.length) (A:cW σ (LC z n k u v w a)):aJ O 50 bg σ (aW.drop 10)=some (.rt (.bool true)):=by refine aT (bM (d:=.list (cB n 0)) (by decide) (h:=Nb M.L.K (A db _ rfl)) (hs:=λζ ζ=>rfl)) ?_;have g1:=aM (σ:=σ) (x:=jc) (e:=.sh (.list (cB n 0)));replace A:=(A.put (x:=jc) (e:=.sh (.list (cB n 0)))).tail rfl;revert g1;revert A;refine aX (put σ jc (.sh (.list (cB n 0)))) λσ A g1=>?_;refine aT (bM (d:=.list (cB n 0)) (by decide) (h:=aC (by decide) g1) (hs:=λζ ζ=>rfl)) ?_;have g2:(put σ ev (.sh (.list (cB n 0)))).lookup ev=some (.sh (.list (dY n 0))):=aM;replace g1:=au (x:=ev) (e:=.sh (.list (cB n 0))) (by decide) g1;replace A:=(A.put (x:=ev) (e:=.sh (.list (cB n 0)))).tail rfl;revert g2;revert g1;revert A;refine aX (put σ ev (.sh (.list (cB n 0)))) λσ A g1 g2=>?_;refine dS (H9 (O:=O) M.L.K (A db _ rfl) g1 g2) λσ' e kp g1 g2=>?_;refine aT (lO (Kw M.L.K (A cA _ rfl)) e a9) ?_;replace A:=(A.keep kp (by rfl)).add g2;clear e kp g1 g2;revert A;refine aX σ' λσ A=>?_;refine aT (bM (d:=.list [eu n k u,eu n k v]) (by decide) (h:=Nn M.L.K H.ell (A mW _ rfl) (A ev _ rfl)) (hs:=λζ ζ=>rfl)) ?_;exact OM H M hu hv hu12 hv12 ha (A.put (x:=iK) (e:=.sh (.list [eu n k u,eu n k v])))
theorem Cr {x l:Nat} (hn:2<=n):(fV x n l).length=l/\∀y∈fV x n l,y<n:=⟨by unfold fV;rw[bx,i4],λy hy=>ah (dG.mp hy) λi _ e=>e▸gf _ (b9 (by decide) hn)⟩
theorem NM (H:Lo O) (M:Nm n k) (hz:∀i,z i<1000000000) (A:cW σ (LA z n k)):aJ O 55 bg σ (aW.drop 5)=some (.rt (.bool true)):=by
 have hn:2<=n/\n<=3:=⟨M.L.K.n2,M.L.K.n3⟩
 refine aT (bM (d:=.list (ar (fV (z 1/3) n (4+z 1%3)))) (by decide) (h:=NJ hz hn (A dy _ rfl) (A db _ rfl)) (hs:=λζ ζ=>rfl)) ?_;have hu:=Cr (x:=z 1/3) (l:=4+z 1%3) hn.1;have hu4:4<=(fV (z 1/3) n (4+z 1%3)).length:=by rw[hu.1];exact fI 4 _
 have hu6:(fV (z 1/3) n (4+z 1%3)).length<=6:=by rw[hu.1];exact fh (jS (gf _ (by decide))) 4
 have hu:=hu.2;replace A:=A.put (x:=eB) (e:=.sh (.list (ar (fV (z 1/3) n (4+z 1%3)))));revert A;refine aX (put σ eB (.sh (.list (ar (fV (z 1/3) n (4+z 1%3)))))) λσ=>?_;revert hu6;revert hu4;revert hu;refine aX (fV (z 1/3) n (4+z 1%3)) λu hu hu4 hu6 A=>?_;have ha:z 2/4%(u.length - 1)+1<u.length:=by have:=gf (z 2/4) (show u.length - 1>0 by omega);omega
 refine aT (bM (d:=.int (z 2/4%(u.length - 1):Nat)) (by decide) (h:=Jz hz hu4 (A dy _ rfl) (A eB _ rfl)) (hs:=λζ q=>nomatch q)) ?_;replace A:cW _ (LB z n k u (z 2/4%(u.length - 1))):=A.put (x:=ft) (e:=.sh (.int (z 2/4%(u.length - 1):Nat)));revert A;refine aX (put σ ft (.sh (.int (z 2/4%(u.length - 1):Nat)))) λσ=>?_;revert ha;refine aX (z 2/4%(u.length - 1)) λa ha A=>?_;refine aT (bM (d:=.list (ar (fV (z 2/4) n (4+z 2/4%3)))) (by decide) (h:=MT hz hn (A dy _ rfl) (A db _ rfl)) (hs:=λζ ζ=>rfl)) ?_;have hw:=Cr (x:=z 2/4) (l:=4+z 2/4%3) hn.1;have hw6:(fV (z 2/4) n (4+z 2/4%3)).length<=6:=by rw[hw.1];exact fh (jS (gf _ (by decide))) 4
 have hw:=hw.2;replace A:=A.put (x:=qd) (e:=.sh (.list (ar (fV (z 2/4) n (4+z 2/4%3)))));revert A;refine aX (put σ qd (.sh (.list (ar (fV (z 2/4) n (4+z 2/4%3)))))) λσ=>?_;revert hw6;revert hw;refine aX (fV (z 2/4) n (4+z 2/4%3)) λw hw hw6 A=>?_;refine aT (bM (d:=.list (ar (m5 u w a (z 2%4)))) (by decide) (h:=N1 ha hu6 (A dy _ rfl) (A eB _ rfl) (A ft _ rfl) (A qd _ rfl)) (hs:=λζ ζ=>rfl)) ?_;have hv:=Om (k:=z 2%4) ha hu6 hw6 hu hw (gf _ (by decide));replace A:=A.put (x:=gV) (e:=.sh (.list (ar (m5 u w a (z 2%4)))));revert A;refine aX (put σ gV (.sh (.list (ar (m5 u w a (z 2%4)))))) λσ=>?_;revert hv;refine aX (m5 u w a (z 2%4)) λv hv A=>?_;have hu12:=al hu6 (by decide:6<=12);refine aT (bM (d:=nk u v) (by decide) (h:=NF hu12 hv.1 (λx hx=>b9 (hu x hx) hn.2) (λx hx=>b9 (hv.2 x hx) hn.2) (A eB _ rfl) (A gV _ rfl)) (hs:=λζ ζ=>rfl)) ?_;exact HD (w:=w) H M hu hv.2 hu12 hv.1 (yO ha) (A.put (x:=mW) (e:=.sh (nk u v)))
theorem Ln (H:Lo O) {ns:List Int} (hn:ns.length<=63):aJ O 60 bg [(qV,.sh (.list (ns.map .int)))] aW=some (.rt (.bool true)):=by refine ah (NE (O:=O) (σ:=[(qV,.sh (.list (ns.map .int)))]) rfl hn) λz hz h0=>?_;refine aT (bM (d:=fB z) (by decide) (h:=h0) (hs:=λζ ζ=>rfl)) ?_;have A:cW (put [(qV,.sh (.list (ns.map .int)))] dy (.sh (fB z))) [(dy,some (.sh (fB z)))]:=cW.put (L:=[]) (λx o h=>ac h);clear h0;revert A;refine aX (put [(qV,.sh (.list (ns.map .int)))] dy (.sh (fB z))) λσ A=>?_;refine aT (Mv (by decide) (by decide) (MQ hz (A dy _ rfl))) ?_;replace A:=(A.put (x:=db) (e:=.sh (.int (kZ z:Nat)))).put (x:=cA) (e:=.sh (.int (kP z:Nat)));revert A;refine aX (put (put σ db (.sh (.int (kZ z:Nat)))) cA (.sh (.int (kP z:Nat)))) λσ=>?_;have M:=Pf z;revert M;refine aX (kZ z) λn=>aX (kP z) λk M A=>?_;refine aT (bM (d:=menuP) (by decide) (h:=JV) (hs:=λζ ζ=>rfl)) ?_;replace A:=A.put (x:=mf) (e:=.sh menuP);revert A;refine aX (put σ mf (.sh menuP)) λσ A=>?_;refine aT (bM (d:=.list (cc (aQ k))) (by decide) (h:=ER M.L.K.f hz H.stairs (A dy _ rfl) (A mf _ rfl) (A cA _ rfl)) (hs:=λζ ζ=>rfl)) ?_;replace A:cW _ (LA z n k):=A.put (x:=dh) (e:=.sh (.list (cc (aQ k))));revert A;refine aX (put σ dh (.sh (.list (cc (aQ k))))) λσ A=>?_;refine dW (bA (d:=.bool false) (h:=aB (h:=br (a:=.list (cc (aQ k))) (b:=.none) (aD (by decide) (aF (A dh _ rfl))) (aB (h:=nG)) rfl)) (ht:=rfl)) a9 ?_;exact NM H M hz A
theorem MY:∀ns:List Int,ns.length<=63->bQ pw (O6 pw) iT [.list (ns.map .int)]=some (.bool true):=λns hn=>by refine lX (d:=bD iT) rfl rfl ?_;exact Ln Oa hn
end
noncomputable def C3 (as:List Addr) (h:Heap):Frag:=as.filterMap λa=>(h.get? a).map λo=>(a,o)
theorem F7 (as:List Addr) (h:Heap):(C3 as h).In h:=λa o e=>by refine ah (DL.mp (mem_of_lookupK e)) λb ζ hb=>?_;refine ah (gy.mp hb) λo' h1 h2=>?_;cases h2;exact h1
noncomputable def C5 (K:Frag) (f:Str):Bool:=match lF K dF f with|some (some (.ref a))=>(match K.lookup a with|some o=>(match o.cls with|.type c=>c== "function" |_=>false)|none=>false)|some none=>true|_=>false
noncomputable def CM (K:Frag) (f:Str):Bool:=match lF K dF f with|some none=>true|_=>false
noncomputable def w0 (K:Frag) (f:Str) (a:Addr):Bool:=match lF K dF f with|some (some (.ref b))=>b==a|_=>false
noncomputable def xS (K:Frag) (f x:Str):Bool:=match lF K dF f with|some (some (.str y _))=>y==x|_=>false
noncomputable def xu (K:Frag):Bool:=codeHdIn K 27 23&&codeHdIn K 34 30&&(tabIn K cX==some (27,23))&&(tabIn K cZ==some (34,30))&&(nEsc::cX::cZ::oy).all (C5 K)&&ow.all (CM K)&&w0 K qi 36&&xS K lS (ag "...")
noncomputable def objsL:List (Option ek):=[some (mE #[]),some (mE #[]),some {cls:=.type "dict",data:=.dict (qF il 229).toArray 10}]
noncomputable def hk:Hook where
 α:=Bool×List (Option ek)
 obs:=λs=>(xu (C3 (cL 82) s.heap),[23,30,36].map s.heap.get?)
 val:=λζ=>(true,objsL)
 says:=λζ h=>(∃K:Frag,K.In h/\xu K=true)/\[23,30,36].map h.get?=objsL
 of:=λζ s e=>⟨⟨_,F7 _ _,(DO e).1⟩,(DO e).2⟩
 keeps:=λ_ h h' ⟨⟨K,x,c⟩,e⟩ k=>⟨⟨K,λa o q=>k _ _ (x a o q),c⟩,by
  have e:[h.get? 23,h.get? 30,h.get? 36]=objsL:=e;show [h'.get? 23,h'.get? 30,h'.get? 36]=objsL;injection e with e1 e;injection e with e2 e;injection e with e3 e
  refine aa (k _ _ e1) (aa (k _ _ e2) (aa (k _ _ e3) ?_));rfl⟩
theorem Ig {K:Frag} {h:Heap} {mg:Str->Option Value} (X:K.In h) (G:h.Ns dF mg) {l:List Str} (hl:l.all (C5 K)=true):∀f∈l,∀a o,mg f=some (.ref a)->h.get? a=some o->o.cls=.type "function" :=IZ X G l hl
theorem ED {K:Frag} {h:Heap} {mg:Str->Option Value} (X:K.In h) (G:h.Ns dF mg) {l:List Str} (hl:l.all (CM K)=true):∀f∈l,mg f=none:=Iu X G l hl
theorem KZ {K:Frag} {h:Heap} {mg:Str->Option Value} (X:K.In h) (G:h.Ns dF mg) {f:Str} {a:Addr} (e:w0 K f a=true):mg f=some (.ref a):=by
 revert e;delta w0;refine cn (lF K dF f) λu e=>?_
 induction u using bW with
 |none=>exact aZ
 |some u=>
  induction u using bW with
  |none=>exact aZ
  |some v=>
   induction v using nU with
   |ref b=>exact λq=>(mg_of X G e).trans (congrArg (λz=>some (n8 z)) (bh q))
   |_=>exact aZ
theorem Kf {K:Frag} {h:Heap} {mg:Str->Option Value} (X:K.In h) (G:h.Ns dF mg) {f x:Str} (e:xS K f x=true):∃t,mg f=some (.str x t):=by
 revert e;delta xS;refine cn (lF K dF f) λu e=>?_
 induction u using bW with
 |none=>exact aZ
 |some u=>
  induction u using bW with
  |none=>exact aZ
  |some v=>
   induction v using nU with
   |str y t=>exact λq=>⟨t,(mg_of X G e).trans (congrArg (λz=>some (Ql z t)) (bh q))⟩
   |_=>exact aZ
noncomputable abbrev LL:=PySem.Challenge.rw_tc0009_02
noncomputable def qv:Program:=view LL.row.toRowW.prog [1,2,4,5,8,10,11,12,13,14,15,16]
theorem Mn:LeftO LL.row.toRowW.prog qv ["COMPILER_FLAG_NAMES"] (λs=>xlAt qv [] s&&recOk (Sm LL.row.toRowW) s) (Sn hk) (So hk) 1078:=LeftO.of_split "special-get-raises" (λw=>by kernel_rfl)
end Mine
open PySem PySem.W PyProof.Rows
set_option Elab.async false
set_option maxRecDepth 100000 in
set_option maxHeartbeats 8000000 in
set_option tactic.hygienic true in
theorem PySem.Challenge.cw_tc0009_02_holds : PySem.Challenge.rw_tc0009_02.Holds := by
 w_on
 refine holds_law ?_ fun said=>?_
 · delta OpenLaw.wellSaid OpenRow.wellSaid OpenRow.partSaid looksOpen
   repeat' with_reducible refine look_both ?_ ?_
   all_goals decide +kernel
 refine holds_open (q:=Mine.qv) (loose:=["COMPILER_FLAG_NAMES"]) (Xt:=λs=>xlAt Mine.qv [] s&&recOk (RowW.records Mine.LL.row.toRowW) s) (XP:=XL Mine.qv []) (Yf:=Hook.obs Mine.hk) (Ya:=Hook.val Mine.hk) (YP:=Hook.says Mine.hk) (N:=1078) Mine.Mn (Hook.of Mine.hk) (Hook.keeps Mine.hk) (λs e=>xl_of s (Bool.and_eq_true_iff.mp e).1) XL.keeps (by rfl) (by rfl) (by rfl) (λs e=>recFacts_of (Bool.and_eq_true_iff.mp e).2) (by rfl) said (by decide+kernel) ⟨rfl,rfl,rfl,rfl,rfl,by decide+kernel⟩ ?hw ?hc
 case hw=>w_witness2
 case hc=>
  intro w s₀ s₁ mg mb G Y fa o pm cd doc dV kV ho hd hcd hD hmg hg args vals as hpre hlay hrd hwl hlo
  obtain ⟨⟨K,KX,hK⟩,hO⟩:=Y
  have hO:[s₁.heap.get? 23,s₁.heap.get? 30,s₁.heap.get? 36]=Mine.objsL:=hO
  injection hO with o1 hO;injection hO with o2 hO;injection hO with o3 hO
  unfold Mine.xu at hK
  simp only[Bool.and_eq_true] at hK
  obtain ⟨⟨⟨⟨⟨⟨⟨k1,k2⟩,k3⟩,k4⟩,k5⟩,k6⟩,k7⟩,k8⟩:=hK
  have hT9:TabsAt [(34,30),(27,23)] s₁.heap:=List.forall_mem_cons.mpr ⟨⟨codeHd_of_K KX k2,o2⟩,List.forall_mem_cons.mpr ⟨⟨codeHd_of_K KX k1,o1⟩,λζ h=>nomatch h⟩⟩
  refine Ground.open G ?_
  intro T B D TE TW
  clear hD hcd hd TE TW D B ho G
  have hfa:mg Mine.iT=some (.ref fa):=hmg
  clear hmg
  wrow_args hpre hlay hrd hwl hlo
  rename_i ns _ _ _ _ _ _ _ l vs _ hL _ hW _ hI _ hlen _
  refine Mine.OY T rfl hg hT9 (by decide) (Mine.Ig KX T.g k5) (λa o fd h1 h2 h3=>law_code KX T.g (eq_of_beq k3) h1 h2 h3) (λa o fd h1 h2 h3=>law_code KX T.g (eq_of_beq k4) h1 h2 h3) ⟨_,_,_,Mine.KZ KX T.g k7,by decide,o3,Mine.Kx (by rfl)⟩ (Mine.Kf KX T.g k8) (Mine.ED KX T.g k6) hfa hL hW hI hlen Mine.MY
